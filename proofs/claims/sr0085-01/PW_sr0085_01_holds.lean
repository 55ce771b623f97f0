import PyProof.Rows.All
import PyProof.Raises
import PyProof.Calls
import PyProof.AtCode
import PyProof.Rules2
import PyProof.AssignAttr
import PyProof.FactsAll.bool_1
import PyProof.FactsLen
import PyProof.Methods
import PyProof.TupleIter
import PyProof.AutoIntOps
import PyProof.CodeObjX
import PyProof.OldK
import PyProof.Rules3
import PyProof.SliceSyntax
import PyProof.SliceList
import PyProof.CallRoads
import PyProof.CallType
import PyProof.CallStr
import PyProof.Cells
import PyProof.CompMap
import PyProof.ConsumeS
import PyProof.StrLoop
import PyProof.StrWalks
import PyProof.CompFree
import PyProof.DefCall
import PyProof.IsRules
import PyProof.EqKinds
import PyProof.NeKinds
import PyProof.StrLawsIn
import PyProof.SliceStr2
import PyProof.RangeIter
import PyProof.WalksMore
import PyProof.RangeFor
import PyProof.GenCompD
import PyProof.LetGo
import PyProof.ListNew
import PyProof.ListIndexNeg
import PyProof.ListRange
import PyProof.ListTruth
import PyProof.WalkInts
import PyProof.Rows.RowBridgeG
import PyProof.Rows.GenRows
import PyProof.Rows.IntRules
import PyProof.Rows.ListAppend
import PyProof.WalksPairs
import PyProof.Truth
import PyProof.StrCalls
import PyProof.StrCalls2
import PyProof.Rows.StrJoin2
import PyProof.Rows.RuleB_floordiv
import PyProof.Rows.RuleB_mod
import PyProof.StrCalls3
import PyProof.StrCalls5
import PyProof.StrCalls6
import PyProof.Rows.ListMul
import PyProof.Rows.RuleIs
import PyProof.TupleOps
import PyProof.SliceMore
import PyProof.StrLawsTight
import PyProof.RulesMatch
import PyProof.RulesDelMore
import PyProof.Rows.SeqMore
import PyProof.TupleOfSeq
import PyProof.Rows.Range3
import OpenK.KMake
import OpenK.KCls
import Open.Line
import OpenK.KWalk
import KE.KSuperObj
import Wide.All
import Lean
import PySem.Challenge.RW_sr0085_01
set_option Elab.async false
set_option tactic.hygienic false
set_option autoImplicit false
set_option maxRecDepth 100000
set_option genSizeOfSpec false
set_option genInjectivity false
set_option genCtorIdx false
set_option genSizeOf false
set_option bootstrap.genMatcherCode false
set_option compiler.extract_closed false
local macro_rules | `(tactic| cases $h:ident) => `(tactic| first | subst $h | (injection $h;done) | (injection $h with h1 h2;(first | subst h1 | cases h1);(first | subst h2 | cases h2)) | (injection $h with h1;(first | subst h1 | cases h1)))
namespace Mine.Internal.Mine
open Option (any_eq_true bind_eq_some_iff bind_some isNone_iff_eq_none isSome_iff_exists isSome_none map_eq_some_iff)
open Bool (and_eq_true and_eq_true_iff eq_false_iff false_eq_true not_eq_true')
open List (all_cons all_eq_true append_eq_nil_iff append_nil contains_iff_mem filter_cons_of_pos flatten_cons foldl_append foldl_cons forIn_cons getElem_mem length_cons length_drop length_dropLast length_flatten length_map length_range length_range' length_reverse length_set length_singleton length_take lookup_cons map_append map_congr_left map_cons map_drop map_map map_replicate map_set map_singleton mem_append mem_append_right mem_cons mem_cons_of_mem mem_cons_self mem_filter mem_map mem_of_mem_drop mem_range mem_range'_1 mem_reverse mem_singleton nodup_cons not_mem_nil prefix_rfl replicate_succ reverse_cons size_toArray sum_cons)
open PySem.Heap (lt_size size_push)
open Nat (add_comm add_le_add add_right_comm le_add_left le_add_right le_of_ble_eq_true le_of_eq le_of_lt_succ le_of_not_lt le_refl le_succ le_succ_of_le le_total lt_irrefl lt_of_le_of_lt lt_of_lt_of_le lt_of_succ_lt lt_of_succ_lt_succ lt_succ_of_le lt_succ_self lt_trans min_eq_left ne_of_gt ne_of_lt not_le not_lt not_lt_zero one_mul sub_add_cancel sub_le sub_lt sub_self succ_le_succ succ_pos succ_sub zero_add zero_le)
open Int (add_zero natCast_nonneg ofNat_fdiv ofNat_fmod ofNat_le ofNat_lt toNat_natCast)
set_option backward.match.sparseCases false
section Ahx
open PySem.W PySem.Challenge PySem PySem.Calls PyProof.Rows
structure Fn where
 qual:Str
 params:Arguments
 body:List Stmt
 scope:Scope
noncomputable def I2:Stmt->Option (Str×List Stmt×Option (Arguments×Scope))
 | .FunctionDef m ps b _ _ _ sc _ _ _=>some (m,b,some (ps,sc))
 | .ClassDef m _ _ b _ _ _ _ _ _ _=>some (m,b,none)
 |_=>none
noncomputable def findCls(n:Str)(l:List Stmt):Option (List Stmt):=l.findSome? λs=>(I2 s).bind λd=>if d.1=n then(if d.2.2.isNone then some d.2.1 else none)else none
noncomputable def yC(n:Str)(q:Str)(l:List Stmt):Option Fn:=l.findSome? λs=>(I2 s).bind λd=>if d.1=n then d.2.2.map λx=>⟨q,x.1,d.2.1,x.2⟩else none
noncomputable def fnIn(p:Program)(c:Option Str)(n:Str):Option Fn:=match c with
 |none=>yC n n p.main.body
 |some c=>(findCls c p.main.body).bind λb=>yC n (c++"."++n) b
noncomputable def uF(P:Params)(l:List (Str×Tok×Value)):List DictEntry:=l.map λx=>⟨PyData.keyHash P x.1,.str x.1 x.2.1,x.2.2⟩
noncomputable def cQ(p:Program)(c:Option Str)(n:Str)(clo:List (Str×Addr))(dV pm code ct:Value):Obj:=match Mine.fnIn p c n with
 |some f=>{cls:=.type "function",data:=.func {name:=n,qualname:=f.qual,params:=f.params,body:=.stmts f.body,scope:=f.scope,globals:=mainGlobals,closure:=clo,defaults:=dV,kwdefaults:=.none,doc:=.none,pyModule:=pm,annotations:=none,code:=code,closureTuple:=ct,builtins:=builtinsNs}}
 |none=>{cls:=.none,data:=.plain}
noncomputable abbrev cq:Program:=PySem.Challenge.pw_sr0085_01
noncomputable def K2(P:Params):Frag:=[(2,{cls:=.none,data:=.dict (uF P []).toArray 0}),(3,{cls:=.type "dict",data:=.dict (uF P [("__name__",165,.str "law_sr0085_01" 542),("__doc__",166,.none),("__package__",167,.none),("__loader__",168,.builtin "__main__.__loader__#opaque"),("__spec__",169,.none),("__annotations__",170,.ref 6),("__builtins__",171,.ref 4),("__file__",173,.str "/claim/cut.py" 172),("__cached__",174,.none),("_wall",193,.ref 21),("_MAX_STRING_SIZE",197,.int 40 196),("_MOVE_COST",199,.int 2 198),("_CASE_COST",201,.int 1 200),("_substitution_cost",209,.ref 28),("_levenshtein_distance",229,.ref 35),("NL",233,.str "\n" 232),("EMPTYSTRING",235,.str "" 234),("_ValueFormatter",343,.ref 108),("_Accumulator",439,.ref 192),("Whitespace",541,.ref 258),("_law_lead",551,.ref 269),("_law_rows",557,.ref 274),("_law_columns",568,.ref 281),("_law_hangs",574,.ref 286),("_law_ways",586,.ref 293),("_law_table",592,.ref 298),("_law_turned",598,.ref 303),("law",604,.ref 308)]).toArray 28}),(4,{cls:=.type "module",dict:=some 0,data:=.plain}),(27,{cls:=.type "code",data:=.fields #[.str "_substitution_cost" 202,.str "_substitution_cost" 203,.str "/claim/cut.py" 204,.int 8 0,.int 2 0,.int 0 0,.int 0 0,.int 3 0,.ref 22,.bool true,.int 181 0,.ref 23,.none,.ref 24,.ref 25,.ref 26,.int 207 0,.int 8 0,.str "/claim/cut.py" 208]}),(28,cQ cq none "_substitution_cost" [] (.none) (.str "cpy313.traceback" 194) (.ref 27) (.none)),(34,{cls:=.type "code",data:=.fields #[.str "_levenshtein_distance" 210,.str "_levenshtein_distance" 211,.str "/claim/cut.py" 212,.int 14 0,.int 3 0,.int 0 0,.int 0 0,.int 3 0,.ref 29,.bool true,.int 181 0,.ref 30,.none,.ref 31,.ref 32,.ref 33,.int 227 0,.int 14 0,.str "/claim/cut.py" 228]}),(35,cQ cq none "_levenshtein_distance" [] (.none) (.str "cpy313.traceback" 194) (.ref 34) (.none)),(48,{cls:=.type "code",data:=.fields #[.str "__init__" 248,.str "_ValueFormatter.__init__" 249,.str "/claim/cut.py" 250,.int 57 0,.int 5 0,.int 0 0,.int 0 0,.int 3 0,.ref 43,.bool true,.int 181 0,.ref 44,.none,.ref 45,.ref 46,.ref 47,.int 256 0,.int 57 0,.str "/claim/cut.py" 257]}),(49,cQ cq (some "_ValueFormatter") "__init__" [] (.none) (.str "cpy313.email.header" 230) (.ref 48) (.none)),(55,{cls:=.type "code",data:=.fields #[.str "_str" 259,.str "_ValueFormatter._str" 260,.str "/claim/cut.py" 261,.int 65 0,.int 2 0,.int 0 0,.int 0 0,.int 3 0,.ref 50,.bool true,.int 181 0,.ref 51,.none,.ref 52,.ref 53,.ref 54,.int 264 0,.int 65 0,.str "/claim/cut.py" 265]}),(56,cQ cq (some "_ValueFormatter") "_str" [] (.none) (.str "cpy313.email.header" 230) (.ref 55) (.none)),(62,{cls:=.type "code",data:=.fields #[.str "__str__" 267,.str "_ValueFormatter.__str__" 268,.str "/claim/cut.py" 269,.int 69 0,.int 1 0,.int 0 0,.int 0 0,.int 3 0,.ref 57,.bool true,.int 181 0,.ref 58,.none,.ref 59,.ref 60,.ref 61,.int 271 0,.int 69 0,.str "/claim/cut.py" 272]}),(63,cQ cq (some "_ValueFormatter") "__str__" [] (.none) (.str "cpy313.email.header" 230) (.ref 62) (.none)),(69,{cls:=.type "code",data:=.fields #[.str "newline" 274,.str "_ValueFormatter.newline" 275,.str "/claim/cut.py" 276,.int 72 0,.int 1 0,.int 0 0,.int 0 0,.int 3 0,.ref 64,.bool true,.int 181 0,.ref 65,.none,.ref 66,.ref 67,.ref 68,.int 279 0,.int 72 0,.str "/claim/cut.py" 280]}),(70,cQ cq (some "_ValueFormatter") "newline" [] (.none) (.str "cpy313.email.header" 230) (.ref 69) (.none)),(104,{cls:=.type "code",data:=.fields #[.str "_append_chunk" 316,.str "_ValueFormatter._append_chunk" 317,.str "/claim/cut.py" 318,.int 95 0,.int 3 0,.int 0 0,.int 0 0,.int 3 0,.ref 99,.bool true,.int 181 0,.ref 100,.none,.ref 101,.ref 102,.ref 103,.int 327 0,.int 95 0,.str "/claim/cut.py" 328]}),(105,cQ cq (some "_ValueFormatter") "_append_chunk" [] (.none) (.str "cpy313.email.header" 230) (.ref 104) (.none)),(107,{cls:=.type "dict",data:=.dict (uF P [("__module__",243,.str "cpy313.email.header" 230),("__firstlineno__",247,.int 55 246),("__init__",258,.ref 49),("_str",266,.ref 56),("__str__",273,.ref 63),("newline",281,.ref 70),("add_transition",288,.ref 77),("feed",298,.ref 84),("_maxlengths",305,.ref 91),("_ascii_split",315,.ref 98),("_append_chunk",329,.ref 105),("__static_attributes__",336,.ref 106),("__dict__",338,.ref 109),("__weakref__",340,.ref 110),("__doc__",341,.none)]).toArray 4}),(108,{cls:=.type "type",data:=.cls {name:="_ValueFormatter",bases:=[.type "object"],mro:=[.ref 108,.type "object"],ns:=107,qualname:="_ValueFormatter",hasDict:=true,slotNames:=[],subclasses:=[],abstract:=false,collection:=none,hasDel:=false},slots:= #[none,none,some (.str "_ValueFormatter" 236),some (.str "_ValueFormatter" 244),some (.builtin "object.__new__"),some (.bool true)]}),(116,{cls:=.type "cell",data:=.cell (some (.ref 192))}),(128,{cls:=.type "code",data:=.fields #[.str "__init__" 357,.str "_Accumulator.__init__" 358,.str "/claim/cut.py" 359,.int 123 0,.int 2 0,.int 0 0,.int 0 0,.int 3 0,.ref 123,.bool true,.int 181 0,.ref 124,.none,.ref 125,.ref 126,.ref 127,.int 363 0,.int 123 0,.str "/claim/cut.py" 364]}),(121,{cls:=.type "tuple",data:=.seq #[.int 0 356] 0}),(129,cQ cq (some "_Accumulator") "__init__" [("__class__",116)] (.ref 121) (.str "cpy313.email.header" 230) (.ref 128) (.ref 122)),(135,{cls:=.type "code",data:=.fields #[.str "push" 366,.str "_Accumulator.push" 367,.str "/claim/cut.py" 368,.int 127 0,.int 3 0,.int 0 0,.int 0 0,.int 3 0,.ref 130,.bool true,.int 181 0,.ref 131,.none,.ref 132,.ref 133,.ref 134,.int 372 0,.int 127 0,.str "/claim/cut.py" 373]}),(136,cQ cq (some "_Accumulator") "push" [] (.none) (.str "cpy313.email.header" 230) (.ref 135) (.none)),(143,{cls:=.type "code",data:=.fields #[.str "pop_from" 376,.str "_Accumulator.pop_from" 377,.str "/claim/cut.py" 378,.int 130 0,.int 2 0,.int 0 0,.int 0 0,.int 3 0,.ref 138,.bool true,.int 181 0,.ref 139,.none,.ref 140,.ref 141,.ref 142,.int 382 0,.int 130 0,.str "/claim/cut.py" 383]}),(137,{cls:=.type "tuple",data:=.seq #[.int 0 375] 0}),(144,cQ cq (some "_Accumulator") "pop_from" [] (.ref 137) (.str "cpy313.email.header" 230) (.ref 143) (.none)),(151,{cls:=.type "code",data:=.fields #[.str "pop" 385,.str "_Accumulator.pop" 386,.str "/claim/cut.py" 387,.int 135 0,.int 1 0,.int 0 0,.int 0 0,.int 3 0,.ref 146,.bool true,.int 181 0,.ref 147,.none,.ref 148,.ref 149,.ref 150,.int 390 0,.int 135 0,.str "/claim/cut.py" 391]}),(152,cQ cq (some "_Accumulator") "pop" [("__class__",116)] (.none) (.str "cpy313.email.header" 230) (.ref 151) (.ref 145)),(158,{cls:=.type "code",data:=.fields #[.str "__len__" 393,.str "_Accumulator.__len__" 394,.str "/claim/cut.py" 395,.int 140 0,.int 1 0,.int 0 0,.int 0 0,.int 3 0,.ref 153,.bool true,.int 181 0,.ref 154,.none,.ref 155,.ref 156,.ref 157,.int 397 0,.int 140 0,.str "/claim/cut.py" 398]}),(159,cQ cq (some "_Accumulator") "__len__" [] (.none) (.str "cpy313.email.header" 230) (.ref 158) (.none)),(165,{cls:=.type "code",data:=.fields #[.str "__str__" 400,.str "_Accumulator.__str__" 401,.str "/claim/cut.py" 402,.int 143 0,.int 1 0,.int 0 0,.int 0 0,.int 3 0,.ref 160,.bool true,.int 181 0,.ref 161,.none,.ref 162,.ref 163,.ref 164,.int 404 0,.int 143 0,.str "/claim/cut.py" 405]}),(166,cQ cq (some "_Accumulator") "__str__" [] (.none) (.str "cpy313.email.header" 230) (.ref 165) (.none)),(173,{cls:=.type "code",data:=.fields #[.str "reset" 407,.str "_Accumulator.reset" 408,.str "/claim/cut.py" 409,.int 146 0,.int 2 0,.int 0 0,.int 0 0,.int 3 0,.ref 168,.bool true,.int 181 0,.ref 169,.none,.ref 170,.ref 171,.ref 172,.int 412 0,.int 146 0,.str "/claim/cut.py" 413]}),(167,{cls:=.type "tuple",data:=.seq #[.none] 0}),(174,cQ cq (some "_Accumulator") "reset" [] (.ref 167) (.str "cpy313.email.header" 230) (.ref 173) (.none)),(180,{cls:=.type "code",data:=.fields #[.str "is_onlyws" 415,.str "_Accumulator.is_onlyws" 416,.str "/claim/cut.py" 417,.int 152 0,.int 1 0,.int 0 0,.int 0 0,.int 3 0,.ref 175,.bool true,.int 181 0,.ref 176,.none,.ref 177,.ref 178,.ref 179,.int 419 0,.int 152 0,.str "/claim/cut.py" 420]}),(181,cQ cq (some "_Accumulator") "is_onlyws" [] (.none) (.str "cpy313.email.header" 230) (.ref 180) (.none)),(188,{cls:=.type "code",data:=.fields #[.str "part_count" 422,.str "_Accumulator.part_count" 423,.str "/claim/cut.py" 424,.int 155 0,.int 1 0,.int 0 0,.int 0 0,.int 3 0,.ref 183,.bool true,.int 181 0,.ref 184,.none,.ref 185,.ref 186,.ref 187,.int 427 0,.int 155 0,.str "/claim/cut.py" 428]}),(189,cQ cq (some "_Accumulator") "part_count" [("__class__",116)] (.none) (.str "cpy313.email.header" 230) (.ref 188) (.ref 182)),(191,{cls:=.type "dict",data:=.dict (uF P [("__module__",351,.str "cpy313.email.header" 230),("__firstlineno__",355,.int 121 354),("__init__",365,.ref 129),("push",374,.ref 136),("pop_from",384,.ref 144),("pop",392,.ref 152),("__len__",399,.ref 159),("__str__",406,.ref 166),("reset",414,.ref 174),("is_onlyws",421,.ref 181),("part_count",429,.ref 189),("__static_attributes__",431,.ref 190),("__dict__",434,.ref 193),("__weakref__",436,.ref 194),("__doc__",437,.none)]).toArray 5}),(192,{cls:=.type "type",data:=.cls {name:="_Accumulator",bases:=[.type "list"],mro:=[.ref 192,.type "list",.type "object"],ns:=191,qualname:="_Accumulator",hasDict:=true,slotNames:=[],subclasses:=[],abstract:=false,collection:=none,hasDel:=false},slots:= #[some (.ref 113),none,some (.str "_Accumulator" 344),some (.str "_Accumulator" 352),some (.builtin "list.__new__"),some (.bool true)]}),(212,{cls:=.type "code",data:=.fields #[.str "__init__" 459,.str "Whitespace.__init__" 460,.str "/claim/cut.py" 461,.int 161 0,.int 2 0,.int 0 0,.int 0 0,.int 3 0,.ref 207,.bool true,.int 181 0,.ref 208,.none,.ref 209,.ref 210,.ref 211,.int 471 0,.int 161 0,.str "/claim/cut.py" 472]}),(213,cQ cq (some "Whitespace") "__init__" [] (.none) (.str "cpy313.tabnanny" 440) (.ref 212) (.none)),(219,{cls:=.type "code",data:=.fields #[.str "longest_run_of_spaces" 474,.str "Whitespace.longest_run_of_spaces" 475,.str "/claim/cut.py" 476,.int 184 0,.int 1 0,.int 0 0,.int 0 0,.int 3 0,.ref 214,.bool true,.int 181 0,.ref 215,.none,.ref 216,.ref 217,.ref 218,.int 480 0,.int 184 0,.str "/claim/cut.py" 481]}),(220,cQ cq (some "Whitespace") "longest_run_of_spaces" [] (.none) (.str "cpy313.tabnanny" 440) (.ref 219) (.none)),(226,{cls:=.type "code",data:=.fields #[.str "indent_level" 483,.str "Whitespace.indent_level" 484,.str "/claim/cut.py" 485,.int 188 0,.int 2 0,.int 0 0,.int 0 0,.int 3 0,.ref 221,.bool true,.int 181 0,.ref 222,.none,.ref 223,.ref 224,.ref 225,.int 492 0,.int 188 0,.str "/claim/cut.py" 493]}),(227,cQ cq (some "Whitespace") "indent_level" [] (.none) (.str "cpy313.tabnanny" 440) (.ref 226) (.none)),(247,{cls:=.type "code",data:=.fields #[.str "less" 511,.str "Whitespace.less" 512,.str "/claim/cut.py" 513,.int 201 0,.int 2 0,.int 0 0,.int 0 0,.int 3 0,.ref 242,.bool true,.int 181 0,.ref 243,.none,.ref 244,.ref 245,.ref 246,.int 518 0,.int 201 0,.str "/claim/cut.py" 519]}),(248,cQ cq (some "Whitespace") "less" [] (.none) (.str "cpy313.tabnanny" 440) (.ref 247) (.none)),(257,{cls:=.type "dict",data:=.dict (uF P [("__module__",449,.str "cpy313.tabnanny" 440),("__firstlineno__",453,.int 158 452),("S",457,.str " " 455),("T",458,.str "\t" 456),("__init__",473,.ref 213),("longest_run_of_spaces",482,.ref 220),("indent_level",494,.ref 227),("equal",502,.ref 234),("not_equal_witness",510,.ref 241),("less",520,.ref 248),("not_less_witness",528,.ref 255),("__static_attributes__",534,.ref 256),("__dict__",536,.ref 259),("__weakref__",538,.ref 260),("__doc__",539,.none)]).toArray 4}),(258,{cls:=.type "type",data:=.cls {name:="Whitespace",bases:=[.type "object"],mro:=[.ref 258,.type "object"],ns:=257,qualname:="Whitespace",hasDict:=true,slotNames:=[],subclasses:=[],abstract:=false,collection:=none,hasDel:=false},slots:= #[none,none,some (.str "Whitespace" 442),some (.str "Whitespace" 450),some (.builtin "object.__new__"),some (.bool true)]}),(268,{cls:=.type "code",data:=.fields #[.str "_law_lead" 544,.str "_law_lead" 545,.str "/claim/cut.py" 546,.int 215 0,.int 1 0,.int 0 0,.int 0 0,.int 3 0,.ref 263,.bool true,.int 181 0,.ref 264,.none,.ref 265,.ref 266,.ref 267,.int 549 0,.int 215 0,.str "/claim/cut.py" 550]}),(269,cQ cq none "_law_lead" [] (.none) (.str "law_sr0085_01" 542) (.ref 268) (.none)),(273,{cls:=.type "code",data:=.fields #[.str "_law_rows" 552,.str "_law_rows" 553,.str "/claim/cut.py" 554,.int 221 0,.int 4 0,.int 0 0,.int 0 0,.int 3 0,.ref 270,.bool true,.int 181 0,.ref 271,.none,.none,.none,.ref 272,.int 555 0,.int 221 0,.str "/claim/cut.py" 556]}),(274,cQ cq none "_law_rows" [] (.none) (.str "law_sr0085_01" 542) (.ref 273) (.none)),(280,{cls:=.type "code",data:=.fields #[.str "_law_columns" 558,.str "_law_columns" 559,.str "/claim/cut.py" 560,.int 231 0,.int 1 0,.int 0 0,.int 0 0,.int 3 0,.ref 275,.bool true,.int 181 0,.ref 276,.none,.ref 277,.ref 278,.ref 279,.int 566 0,.int 231 0,.str "/claim/cut.py" 567]}),(281,cQ cq none "_law_columns" [] (.none) (.str "law_sr0085_01" 542) (.ref 280) (.none)),(285,{cls:=.type "code",data:=.fields #[.str "_law_hangs" 569,.str "_law_hangs" 570,.str "/claim/cut.py" 571,.int 239 0,.int 1 0,.int 0 0,.int 0 0,.int 3 0,.ref 282,.bool true,.int 181 0,.ref 283,.none,.none,.none,.ref 284,.int 572 0,.int 239 0,.str "/claim/cut.py" 573]}),(286,cQ cq none "_law_hangs" [] (.none) (.str "law_sr0085_01" 542) (.ref 285) (.none)),(292,{cls:=.type "code",data:=.fields #[.str "_law_ways" 575,.str "_law_ways" 576,.str "/claim/cut.py" 577,.int 248 0,.int 1 0,.int 0 0,.int 0 0,.int 3 0,.ref 287,.bool true,.int 181 0,.ref 288,.none,.ref 289,.ref 290,.ref 291,.int 584 0,.int 248 0,.str "/claim/cut.py" 585]}),(293,cQ cq none "_law_ways" [] (.none) (.str "law_sr0085_01" 542) (.ref 292) (.none)),(297,{cls:=.type "code",data:=.fields #[.str "_law_table" 587,.str "_law_table" 588,.str "/claim/cut.py" 589,.int 261 0,.int 2 0,.int 0 0,.int 0 0,.int 3 0,.ref 294,.bool true,.int 181 0,.ref 295,.none,.none,.none,.ref 296,.int 590 0,.int 261 0,.str "/claim/cut.py" 591]}),(298,cQ cq none "_law_table" [] (.none) (.str "law_sr0085_01" 542) (.ref 297) (.none)),(302,{cls:=.type "code",data:=.fields #[.str "_law_turned" 593,.str "_law_turned" 594,.str "/claim/cut.py" 595,.int 269 0,.int 3 0,.int 0 0,.int 0 0,.int 3 0,.ref 299,.bool true,.int 181 0,.ref 300,.none,.none,.none,.ref 301,.int 596 0,.int 269 0,.str "/claim/cut.py" 597]}),(303,cQ cq none "_law_turned" [] (.none) (.str "law_sr0085_01" 542) (.ref 302) (.none)),(307,{cls:=.type "code",data:=.fields #[.str "law" 599,.str "law" 600,.str "/claim/cut.py" 601,.int 281 0,.int 1 0,.int 0 0,.int 0 0,.int 3 0,.ref 304,.bool true,.int 181 0,.ref 305,.none,.none,.none,.ref 306,.int 602 0,.int 281 0,.str "/claim/cut.py" 603]}),(308,cQ cq none "law" [] (.none) (.str "law_sr0085_01" 542) (.ref 307) (.none))]
noncomputable def GF:List Addr:=[2,3,4,27,28,34,35,48,49,55,56,62,63,69,70,104,105,107,108,116,128,121,129,135,136,143,137,144,151,152,158,159,165,166,173,167,174,180,181,188,189,191,192,212,213,219,220,226,227,247,248,257,258,268,269,273,274,280,281,285,286,292,293,297,298,302,303,307,308]
theorem uS(P:Params):GF=(K2 P).map (·.1):=rfl
noncomputable def A9:Obj:={cls:=.none,data:=.fields #[]}
noncomputable def ze(K:Params->Frag)(as:List Addr)(e:∀P,as=(K P).map (·.1))(ts:List Addr):Hook where
 α:=List (Option Obj)×Option Value×List (Option Obj)
 obs s:=(as.map s.heap.get?,(s.heap.get? builtinsNs).map (·.cls),ts.map s.heap.get?)
 val w:=((K w.params).map λp=>some p.2,some (.type "dict"),ts.map λ_=>some A9)
 says w h:=(K w.params).In h/\(∃o,h.get? builtinsNs=some o/\o.cls=.type "dict")/\∀c∈ts,h.get? c=some A9
 of w s q:=⟨Frag.in_of (e _) (congrArg Prod.fst q),map_eq_some_iff.mp (congrArg (λx=>x.2.1) q),λc hc=>List.map_inj_left.mp (congrArg (λx=>x.2.2) q) c hc⟩
 keeps _ _ _ x k:=⟨x.1.keeps k,let⟨o,a,b⟩:=x.2.1;⟨o,k _ _ a,b⟩,λc hc=>k _ _ (x.2.2 c hc)⟩
noncomputable def zm:List Addr:=[154,161]
noncomputable def eZ:Program:={pw_sr0085_01 with main:={pw_sr0085_01.main with body:=[0,2,3,4,5,6,8,9,10,11,13,15,16,17,18,19,20,21,22].filterMap (pw_sr0085_01.main.body[·]?)}}
noncomputable def fO:List Str:=[Str.ofString "_Accumulator",Str.ofString "Whitespace"]
noncomputable def Ix(s:Shared):Bool:=xlAt eZ [] s&&recOk [] s
noncomputable abbrev eF:Hook:=ze K2 GF uS zm
def F4(w:World):Prop:=(openEnds treeTable cq w 3922).map (λs=>(openSeen eZ fO (importedModules cq.main.body) Ix true s,eF.obs s))=some (openGood eZ fO,eF.val w)
theorem CD:∀w:World,(openEnds treeTable cq (w.withFollow "special-get-raises" false) 3922).map (λs=>(openSeen eZ fO (importedModules cq.main.body) Ix true s,eF.obs s))=some (openGood eZ fO,eF.val (w.withFollow "special-get-raises" false)):=by intro w;kernel_rfl
theorem Ds:∀w:World,(openEnds treeTable cq (w.withFollow "special-get-raises" true) 3922).map (λs=>(openSeen eZ fO (importedModules cq.main.body) Ix true s,eF.obs s))=some (openGood eZ fO,eF.val (w.withFollow "special-get-raises" true)):=by intro w;kernel_rfl
theorem Je:LeftO cq eZ fO Ix eF.obs eF.val 3922:=byRow2 (P:=F4) "special-get-raises" CD Ds
noncomputable def Fe:DefRec×List (Str×Expr):=(defOf eZ ("law":Str)).get (by decide+kernel)
theorem headOf(h:WalkO eZ fO (XL eZ []) eF.says rw_sr0085_01.row.toRowW Fe.1 Fe.2 (λf vs=>PySem.call f vs)):rw_sr0085_01.Holds:=by
 w_on
 refine holds_law (by decide+kernel) λsaid=>?_;exact holds_open (q:=eZ) (loose:=fO) (Xt:=Ix) (XP:=XL eZ []) (Yf:=eF.obs) (Ya:=eF.val) (YP:=eF.says) (N:=3922) Je eF.of eF.keeps (λs e=>xl_of s (and_eq_true_iff.mp e).1) XL.keeps (by kernel_rfl) (by kernel_rfl) (by kernel_rfl) (λs e=>recFacts_of (and_eq_true_iff.mp e).2) (by first|rfl|fail "no") (by first|assumption|decide+kernel) (by decide+kernel) ⟨rfl,rfl,rfl,rfl,rfl,by decide+kernel⟩ (by w_witness2) h
end Ahx
set_option backward.match.sparseCases true
set_option backward.match.sparseCases false
section Evx
open PySem
set_option genCtorIdx true in
inductive PV where
 |none
 |bool(b:Bool)
 |int(i:Int)
 |str(s:Str)
 |ref(i:Nat)
 |obj(a:Addr)
 |typ(T:String)
 |blt(id:String)
set_option genCtorIdx true in
inductive PO where
 |list(xs:List PV)
 |tup(xs:List PV)
 |rng(a b c:Int)
 |inst(C:Addr)(fs:List (Str×PV))
 |acc(C:Addr)(fs:List (Str×PV))(xs:List PV)
abbrev aI:=List PO
noncomputable abbrev Mo(α:Type):=aI->Option (α×aI)
abbrev Loc:=Str->Option PV
noncomputable def ok{α:Type}(a:α):Mo α:=λV=>some (a,V)
noncomputable def no{α:Type}:Mo α:=λ_=>none
noncomputable def bd{α β:Type}(x:Mo α)(f:α->Mo β):Mo β:=λV=>match x V with
 |none=>none
 |some (a,V')=>f a V'
noncomputable instance:Monad Mo where
 pure:=ok
 bind:=bd
noncomputable def lift{α:Type}:Option α->Mo α
 |none=>no
 |some a=>ok a
noncomputable def getO(i:Nat):Mo PO:=λV=>match V[i]? with
 |none=>none
 |some o=>some (o,V)
noncomputable def ek(i:Nat)(o:PO):Mo Unit:=λV=>if i<V.length then some ((),V.set i o)else none
noncomputable def fH(o:PO):Mo PV:=λV=>some (.ref V.length,V++[o])
noncomputable def must(b:Bool):Mo Unit:=λV=>if b then some ((),V)else none
noncomputable def Loc.set(m:Loc)(x:Str)(v:PV):Loc:=λy=>if y=x then some v else m y
set_option genCtorIdx true in
inductive a9 where
 |next|brk|cont
 |ret(v:PV)
structure x7 where
 init:Option Addr
 meth:Str->Option Addr
 vals:Str->Option PV
 isAcc:Bool
structure kp where
 glob:Str->Option PV
 bltn:Str->Option PV
 fn:Addr->Option Fn
 prim:Addr->Option (List PV->Mo PV)
 cls:Addr->Option x7
 lenA:Nat->Mo PV
 strA:Nat->Mo PV
structure Ev where
 e:Scope->Loc->Expr->Mo PV
 b:Scope->Loc->Expr->Mo Bool
 ss:Scope->Loc->List Stmt->Mo (a9×Loc)
 call:Addr->List PV->Mo PV
noncomputable def lim:Nat:=1000000
noncomputable def nK(i:Int):Bool:=decide (i.natAbs<2^60)
noncomputable def place(i:Int)(n:Nat):Option Nat:=
 let j:=if i<0 then i+n else i
 if 0<=j/\j<n then some j.toNat else none
noncomputable def eg(v:Option Int)(d n:Nat):Nat:=match v with
 |none=>d
 |some i=>(max 0 (min (if i<0 then i+n else i) n)).toNat
noncomputable def c9{α:Type}(xs:List α)(lo hi:Option Int):List α:=
 let a:=eg lo 0 xs.length
 let b:=eg hi xs.length xs.length
 (xs.drop a).take (b-a)
noncomputable def ca(c:Nat):Str:=⟨#[c]⟩
noncomputable def strOk(s:Str):Bool:=decide (s.length<=lim)
noncomputable def eM(s:Str):Mo PV:=do must (strOk s);ok (.str s)
noncomputable def newList(xs:List PV):Mo PV:=do must (decide (xs.length<=lim));fH (.list xs)
noncomputable def mkInt(i:Int):Mo PV:=ok (.int i)
noncomputable def iC:Nat->Str->Str
 |0,_=>⟨#[]⟩
 |n+1,s=>s++iC n s
noncomputable def cL:PV->Option Int
 | .int i=>some i
 |_=>none
noncomputable def bX:PV->Option Nat
 | .ref r=>some r
 |_=>none
noncomputable def gf:PV->Option Str
 | .str s=>some s
 |_=>none
noncomputable def y1:PV->Option Addr
 | .obj a=>some a
 |_=>none
noncomputable def c4:PO->Option (List PV)
 | .list xs=>some xs
 |_=>none
noncomputable def Ei(a b:PV):Mo PV:=match a with
 | .int x=>do let y<-lift (cL b);mkInt (x+y)
 | .str x=>do let y<-lift (gf b);eM (x++y)
 | .ref i=>(match b with
  | .ref j=>do
   let o<-getO i
   let xs<-lift (c4 o)
   let o'<-getO j
   let ys<-lift (c4 o')
   newList (xs++ys)
  |_=>no)
 |_=>no
noncomputable def Dh(a:PV)(y:Int):Mo PV:=match a with
 | .int x=>do must (nK x||nK y);mkInt (x*y)
 | .str x=>do must (decide (x.length*y.toNat<=lim/\y.natAbs<2^60));eM (iC y.toNat x)
 | .ref i=>do
  let o<-getO i
  let xs<-lift (c4 o)
  must (decide (xs.length*y.toNat<=lim/\y.natAbs<2^60));newList (List.replicate y.toNat xs).flatten
 |_=>no
noncomputable def FZ(op:Operator)(x y:Int):Mo PV:=match op with
 | .Sub=>mkInt (x-y)
 | .FloorDiv=>do must (decide (y≠0/\y.natAbs<2^28));mkInt (Int.fdiv x y)
 | .Mod=>do must (decide (y≠0/\y.natAbs<2^28));mkInt (Int.fmod x y)
 |_=>no
noncomputable def hY(op:Operator)(a b:PV):Mo PV:=match op with
 | .Add=>Ei a b
 | .Mult=>do let y<-lift (cL b);Dh a y
 |op=>do let x<-lift (cL a);let y<-lift (cL b);FZ op x y
noncomputable def f9{α:Type}(a:PV)(k:Int->Option α):Option α:=match a with
 | .int x=>k x
 |_=>none
noncomputable def onStr{α:Type}(a:PV)(k:Str->Option α):Option α:=match a with
 | .str x=>k x
 |_=>none
noncomputable def vJ:PO->Option (List PV)
 | .tup xs=>some xs
 |_=>none
noncomputable def Hy(f:PV->PV->Option Bool):List PV->List PV->Option Bool
 |[],_=>some true
 |x::xs,ys=>match ys with
  |[]=>some true
  |y::ys=>(f x y).bind λp=>(Hy f xs ys).map λq=>p&&q
noncomputable def Jo(f:PV->PV->Option Bool)(b:PO):PO->Option Bool
 | .list xs=>(c4 b).bind λys=>if xs.length=ys.length then Hy f xs ys else some false
 | .tup xs=>(vJ b).bind λys=>if xs.length=ys.length then Hy f xs ys else none
 |_=>none
noncomputable def nY:Nat->aI->PV->PV->Option Bool
 |0,_,_,_=>none
 |n+1,V,a,b=>match a with
  | .int x=>f9 b λy=>some (decide (x=y))
  | .str x=>onStr b λy=>some (decide (x=y))
  | .ref i=>(bX b).bind λj=>if i=j then none else(V[i]?).bind λo=>(V[j]?).bind λo'=>Jo (nY n V) o' o
  |_=>none
noncomputable def kN(op:CmpOp)(a b:PV):Mo PV:=λV=>match op with
 | .Eq=>(nY 4 V a b).map λr=>(.bool r,V)
 | .NotEq=>(nY 4 V a b).map λr=>(.bool (!r),V)
 | .Lt=>f9 a λx=>f9 b λy=>some (.bool (decide (x<y)),V)
 | .LtE=>f9 a λx=>f9 b λy=>some (.bool (decide (x<=y)),V)
 | .Gt=>f9 a λx=>f9 b λy=>some (.bool (decide (y<x)),V)
 | .GtE=>f9 a λx=>f9 b λy=>some (.bool (decide (y<=x)),V)
 | .In=>onStr a λx=>onStr b λy=>some (.bool (!(Builtin.Str.occurrences y x 0 y.length 1).isEmpty),V)
 |_=>none
noncomputable def fR(v:PV):Mo Bool:=match v with
 | .none=>ok false
 | .bool b=>ok b
 | .int i=>ok (decide (i≠0))
 | .str s=>ok (decide (s.length≠0))
 | .ref i=>do
  let o<-getO i
  let xs<-lift (c4 o)
  ok (!xs.isEmpty)
 |_=>no
noncomputable def HV(xs:List PV)(k:Int):Mo PV:=do let j<-lift (place k xs.length);lift xs[j]?
noncomputable def zk(T:kp)(k:Int):PO->Mo PV
 | .list xs=>HV xs k
 | .tup xs=>HV xs k
 | .acc C _ xs=>do must ((T.cls C).any (·.isAcc)&&decide (0<=k));HV xs k
 |_=>no
noncomputable def zo:PV->Option Bool
 | .bool b=>some b
 |_=>none
noncomputable def Ak(o:PV)(b:Bool):Mo PV:=do let r<-lift (bX o);let ob<-getO r;let xs<-lift (c4 ob);lift xs[if b then 1 else 0]?
noncomputable def cx(T:kp)(o i:PV):Mo PV:=match zo i with
 |some b=>Ak o b
 |none=>do
 let k<-lift (cL i)
 match o with
 | .str s=>do let j<-lift (place k s.length);let c<-lift s.cps[j]?;ok (.str (ca c))
 | .ref r=>do let o<-getO r;zk T k o
 |_=>no
noncomputable def dO(o:PV)(lo hi:Option Int):Mo PV:=match o with
 | .str s=>ok (.str ⟨(c9 s.cps.toList lo hi).toArray⟩)
 | .ref r=>do let o<-getO r;let xs<-lift (c4 o);fH (.list (c9 xs lo hi))
 |_=>no
noncomputable def eV(o i v:PV):Mo Unit:=do
 let k<-lift (cL i)
 let r<-lift (bX o)
 let ob<-getO r
 let xs<-lift (c4 ob)
 must (decide (0<=k/\k<xs.length))
 ek r (.list (xs.set k.toNat v))
noncomputable def gM:List (Str×PV)->Str->PV->List (Str×PV)
 |[],x,v=>[(x,v)]
 |(y,u)::r,x,v=>if y=x then(x,v)::r else(y,u)::gM r x v
noncomputable def ot:List Str:=["raw","n","nt","norm","is_simple","_maxlen","_continuation_ws","_continuation_ws_len","_splitchars","_lines","_current_line","_initial_size"]
noncomputable def attrOk(x:Str):Bool:=ot.contains x
noncomputable def eO:PV->Option PV
 | .blt _=>none
 |v=>some v
noncomputable def dW(T:kp)(o:PV)(x:Str):Mo PV:=match o with
 | .ref r=>do
  match<-getO r with
  | .inst C fs=>do must (attrOk x&&(T.cls C).isSome);lift ((fs.lookup x).bind eO)
  | .acc C fs _=>do must (attrOk x&&(T.cls C).isSome);lift ((fs.lookup x).bind eO)
  |_=>no
 | .obj C=>lift ((T.cls C).bind λc=>c.vals x)
 |_=>no
noncomputable def ez(T:kp)(o:PV)(x:Str)(v:PV):Mo Unit:=match o with
 | .ref r=>do
  match<-getO r with
  | .inst C fs=>do must (attrOk x&&(T.cls C).isSome&&decide (fs.length<=100));ek r (.inst C (gM fs x v))
  | .acc C fs xs=>do must (attrOk x&&(T.cls C).isSome&&decide (fs.length<=100));ek r (.acc C (gM fs x v) xs)
  |_=>no
 |_=>no
noncomputable def gU(x:Str):Option String:=
 if x=("lower":Str)then some "str.lower"else if x=("upper":Str)then some "str.upper"else if x=("split":Str)then some "str.split"else if x=("isspace":Str)then some "str.isspace"
 else if x=("join":Str)then some "str.join"else none
noncomputable def gL(x:Str):Option String:=if x=("append":Str)then some "list.append"else if x=("count":Str)then some "list.count"else none
noncomputable def bx(T:kp)(o:PV)(x:Str):Mo PV:=match o with
 | .str _=>lift ((gU x).map PV.blt)
 | .ref r=>do
  match<-getO r with
  | .list _=>lift ((gL x).map PV.blt)
  | .inst C fs=>do must ((fs.lookup x).isNone);lift ((T.cls C).bind λc=>(c.meth x).map PV.obj)
  | .acc C fs _=>do must ((fs.lookup x).isNone);lift ((T.cls C).bind λc=>(c.meth x).map PV.obj)
  |_=>no
 |_=>no
noncomputable def one{α:Type}:List α->Option α
 |[a]=>some a
 |_=>none
noncomputable def two{α:Type}:List α->Option (α×α)
 |[a,b]=>some (a,b)
 |_=>none
noncomputable def iM:List PV->Option (List Int)
 |[]=>some []
 | .int i::r=>(iM r).map (i::·)
 |_::_=>none
noncomputable def l5:List PV->Option (List Str)
 |[]=>some []
 | .str s::r=>(l5 r).map (s::·)
 |_::_=>none
noncomputable def cm(a b c:Int):List Int:=(List.range (Builtin.Range.rangeSize a b c).toNat).map λ(k:Nat)=>a+c*k
noncomputable def KQ{α β:Type}(K:α->Mo β):Option α->Mo β
 |none=>no
 |some x=>K x
noncomputable def pop{α:Type}(f:PV->Option α)(K:α->List PV->Mo PV):List PV->Mo PV
 |[]=>no
 |a::t=>KQ (λx=>K x t) (f a)
noncomputable def bn(x:Mo PV):List PV->Mo PV
 |[]=>x
 |_::_=>no
noncomputable def oA(f:PV->Mo PV)(as:List PV):Mo PV:=do let a<-lift (one as);f a
noncomputable def sJ(f:PV->PV->Mo PV)(as:List PV):Mo PV:=do let p<-lift (two as);f p.1 p.2
noncomputable def JR(T:kp)(r:Nat):PO->Mo PV
 | .list xs=>mkInt xs.length
 | .tup xs=>mkInt xs.length
 | .acc _ _ _=>T.lenA r
 |_=>no
noncomputable def y4(T:kp):PV->Mo PV
 | .str s=>mkInt s.length
 | .ref r=>do let o<-getO r;JR T r o
 |_=>no
noncomputable def Jw(a b:PV):Mo PV:=do let x<-lift (cL a);let y<-lift (cL b);ok (.int (if x<y then y else x))
noncomputable def JZ(a b:PV):Mo PV:=do let x<-lift (cL a);let y<-lift (cL b);ok (.int (if y<x then y else x))
noncomputable def GC(f:Str->Mo PV)(a:PV):Mo PV:=do let s<-lift (gf a);f s
noncomputable def listAt(v:PV):Mo (List PV):=do let r<-lift (bX v);let o<-getO r;lift (c4 o)
noncomputable def nG(a b:PV):Mo PV:=do
 let s<-lift (gf a)
 let xs<-listAt b
 let ts<-lift (l5 xs)
 must (JoinOk s ts)
 eM (Txt.join s ts)
noncomputable def Ha(v:PV):Mo PV:=do
 let xs<-listAt v
 let ns<-lift (iM xs)
 must (ns.all (λn=>decide (n.natAbs<2^40))&&decide (ns.length<=1000))
 ok (.int ns.sum)
noncomputable def o9(a b:PV):Mo PV:=do
 let s<-lift (gf a)
 let x<-lift (gf b)
 must (decide (x.length≠0)&&(Txt.split s x).all strOk&&decide ((Txt.split s x).length<=lim))
 fH (.list ((Txt.split s x).map PV.str))
noncomputable def sV(a b:PV):Mo PV:=do
 let xs<-listAt a
 let k<-lift (cL b)
 let ns<-lift (iM xs)
 ok (.int (ns.count k:Nat))
noncomputable def kW(a v:PV):Mo PV:=do
 let r<-lift (bX a)
 let o<-getO r
 let xs<-lift (c4 o)
 must (decide (xs.length<lim))
 ek r (.list (xs++[v]))
 ok .none
noncomputable def D9(T:kp)(id:String)(as:List PV):Mo PV:=
 if id="len"then oA (y4 T) as
 else if id="min"then sJ JZ as
 else if id="max"then sJ Jw as
 else if id="sum"then oA Ha as
 else if id="str.upper"then oA (GC λs=>eM (Txt.upper s)) as
 else if id="str.split"then sJ o9 as
 else if id="list.count"then sJ sV as
 else if id="str.lower"then oA (GC λs=>eM (Txt.lower s)) as
 else if id="str.isspace"then oA (GC λs=>ok (.bool (Txt.isspace s))) as
 else if id="str.join"then sJ nG as
 else if id="list.append"then sJ kW as
 else no
noncomputable def Bv:List Int->Mo PV
 |[]=>no
 |a::r=>match r with
  |[]=>fH (.rng 0 a 1)
  |b::r=>match r with
   |[]=>fH (.rng a b 1)
   |c::r=>match r with
    |[]=>do must (decide (c≠0/\c.natAbs<2^28));fH (.rng a b c)
    |_::_=>no
noncomputable def zX(as:List PV):Mo PV:=do let is<-lift (iM as);Bv is
noncomputable def IN:PO->Option (Int×Int×Int)
 | .rng a b c=>some (a,b,c)
 |_=>none
noncomputable def uX(v:PV):Mo PV:=do
 let r<-lift (bX v)
 let o<-getO r
 let q<-lift (IN o)
 must (Builtin.Range.small q.1 q.2.1 q.2.2)
 newList ((cm q.1 q.2.1 q.2.2).map PV.int)
noncomputable def tV(v:PV):Mo PV:=do let xs<-listAt v;fH (.tup xs)
noncomputable def zf:PO->Bool
 | .acc .. =>true
 |_=>false
noncomputable def DD(v:PV):Mo PV:=do
 let i<-lift (cL v)
 must (decide (i.natAbs<2^28))
 eM (Str.ofString (toString i))
noncomputable def Gz(T:kp)(v:PV):Mo PV:=match bX v with
 |none=>DD v
 |some r=>do
 let o<-getO r
 must (zf o)
 T.strA r
noncomputable def Dq(T:kp)(t:String)(as:List PV):Mo PV:=
 if t="range"then zX as
 else if t="list"then oA uX as
 else if t="tuple"then oA tV as
 else if t="str"then oA (Gz T) as
 else no
noncomputable def jA(ih:Ev)(C:Addr)(c:x7)(as:List PV):Mo PV:=do
 let me<-fH (if c.isAcc then .acc C [] []else .inst C [])
 match c.init with
 |some f=>do
  match<-ih.call f (me::as)with
  | .none=>ok me
  |_=>no
 |none=>no
noncomputable def bk(ih:Ev)(T:kp)(f:PV)(as:List PV):Mo PV:=match f with
 | .obj a=>match T.cls a with
  |some c=>jA ih a c as
  |none=>do must (T.fn a).isSome;ih.call a as
 | .blt id=>D9 T id as
 | .typ t=>Dq T t as
 |_=>no
inductive dH where
 |other
 |name(x:Str)
 |tuple(es:List Expr)
 |comp(e:Expr)(g:List Comprehension)(s:Scope)
 |const(c:Const)
 |star(e:Expr)
 |slice(lo hi st:Option Expr)
 |sub(o i:Expr)
 |call
noncomputable def view:Expr->dH
 | .Name x _=>.name x
 | .Tuple es _ _=>.tuple es
 | .ListComp e g s _=>.comp e g s
 | .Constant c _ _=>.const c
 | .Starred e _=>.star e
 | .Slice lo hi st _=>.slice lo hi st
 | .Subscript o i _=>.sub o i
 | .Call .. => .call
 |_=>.other
noncomputable def aE(e:Expr):Bool:=!(e.ctorIdx==22)
noncomputable def ce(e:Expr):Bool:=e.ctorIdx==8||e.ctorIdx==9||e.ctorIdx==10
noncomputable def aY(e:Expr):Bool:=!(e.ctorIdx==7)
noncomputable def HG:Option Expr->Bool
 |none=>true
 |some _=>false
noncomputable def dH.name?:dH->Option Str
 | .name x=>some x
 |_=>none
noncomputable def dH.tup?:dH->Option (List Expr)
 | .tuple es=>some es
 |_=>none
noncomputable def dH.comp?:dH->Option (Expr×List Comprehension×Scope)
 | .comp e g s=>some (e,g,s)
 |_=>none
noncomputable def dH.star?:dH->Option Expr
 | .star e=>some e
 |_=>none
noncomputable def dH.slice?:dH->Option (Option Expr×Option Expr)
 | .slice lo hi st=>if HG st then some (lo,hi)else none
 |_=>none
noncomputable def dH.sub?:dH->Option (Expr×Expr)
 | .sub o i=>some (o,i)
 |_=>none
noncomputable def dH.call?:dH->Option Unit
 | .call=>some ()
 |_=>none
noncomputable def o5(e:Expr):Bool:=(view e).call?.isSome
noncomputable def aH:Expr->Bool
 | .Call _ [] [] _=>false
 |_=>true
section level
variable (T:kp) (ih:Ev)
noncomputable def bQ(sc:Scope)(m:Loc)(x:Str):Mo PV:=if x=("__debug__":Str)∨x=("__classdict__":Str)then no else match sc.names.lookup x with
 |some .local|some .cell|some .free=>lift (m x)
 |some .globalImplicit=>match T.glob x with
  |some v=>ok v
  |none=>lift (T.bltn x)
 |_=>no
noncomputable def sr(sc:Scope)(m:Loc):List Expr->Mo (List PV)
 |[]=>ok []
 |e::r=>do
  must (aE e)
  let v<-ih.e sc m e
  let vs<-sr sc m r
  ok (v::vs)
noncomputable def E0(sc:Scope)(m:Loc)(e:Expr):Mo (List PV):=do
 let v<-ih.e sc m e
 let r<-lift (bX v)
 let o<-getO r
 lift (vJ o)
noncomputable def lw(sc:Scope)(m:Loc)(op:BoolOp):List Expr->Mo PV
 |[]=>no
 |[e]=>ih.e sc m e
 |e::r=>do
  let v<-ih.e sc m e
  let t<-fR v
  match op,t with
  | .And,false| .Or,true=>ok v
  |_,_=>lw sc m op r
noncomputable def jp(sc:Scope)(m:Loc)(op:BoolOp):List Expr->Mo Bool
 |[]=>ok (op== .And)
 |e::r=>do
  match op,<-ih.b sc m e with
  | .And,false=>ok false
  | .Or,true=>ok true
  |_,_=>jp sc m op r
noncomputable def jE(sc:Scope)(m:Loc):Option Expr->Mo (Option Int)
 |none=>ok none
 |some e=>do
  match<-ih.e sc m e with
  | .int i=>ok (some i)
  | .none=>ok none
  |_=>no
inductive It where
 |live(r k:Nat)
 |vals(l:List PV)
noncomputable def jk(v:PV):Mo It:=match v with
 | .str s=>ok (.vals (s.cps.toList.map λc=>.str (ca c)))
 | .ref r=>do
  match<-getO r with
  | .list _=>ok (.live r 0)
  | .rng a b c=>do must (Builtin.Range.small a b c);ok (.vals ((cm a b c).map PV.int))
  |_=>no
 |_=>no
noncomputable def fc:It->Mo (Option (PV×It))
 | .vals []=>ok none
 | .vals (v::r)=>ok (some (v,.vals r))
 | .live r k=>do
  match<-getO r with
  | .list xs=>match xs[k]? with
   |some v=>ok (some (v,.live r (k+1)))
   |none=>ok none
  |_=>no
noncomputable def mf(sc:Scope)(m:Loc):List Expr->Mo Bool
 |[]=>ok true
 |e::r=>do
  match<-ih.b sc m e with
  |true=>mf sc m r
  |false=>ok false
noncomputable def inner(sc':Scope)(m:Loc):Loc:=λy=>match sc'.names.lookup y with
 |some .free=>m y
 |_=>none
noncomputable def dw(sc sc':Scope)(x:Str):Bool:=
 decide (sc'.kind=.function)&&decide (x≠(".0":Str))&&
 (match sc'.names.lookup x with
  |some .local=>sc'.names.all λyk=>decide (yk.2≠.cell)
  |some .cell=>decide ((sc'.names.filter λyk=>yk.2== .cell)=[(x,.cell)])
  |_=>false)&&
 sc'.names.all λyk=>match yk.2 with
  | .local=>decide (sc'.names.lookup yk.1=some .local)
  | .cell=>true
  | .free=>decide (yk.1≠x)&&(match sc.names.lookup yk.1 with|some .cell|some .free=>true|_=>false)
  | .globalImplicit=>true
  |_=>false
noncomputable def pW(a:Nat)(u:PV):Mo Unit:=do
 let o<-getO a
 let xs<-lift (c4 o)
 must (decide (xs.length<lim))
 ek a (.list (xs++[u]))
noncomputable def mh(sc:Scope)(x:Str)(m:Loc)(elt:Expr)(ifs:List Expr)(acc:Nat):Nat->It->Mo Unit
 |0,_=>no
 |k+1,it=>do
  let r<-fc it
  match r with
  |none=>ok ()
  |some (v,it')=>do
   let t<-mf ih sc (Loc.set (inner sc m) x v) ifs
   let _<-(if t then(do let u<-ih.e sc (Loc.set (inner sc m) x v) elt;pW acc u)else ok ())
   mh sc x m elt ifs acc k it'
noncomputable def c7:Nat:=4000
noncomputable def Gb(c:Const):Mo PV:=match c with
 | .none=>ok .none
 | .bool b=>ok (.bool b)
 | .int i=>ok (.int i)
 | .str s=>eM s
 |_=>no
noncomputable def EM(e:Expr):Option Expr:=(view e).star?
noncomputable def eT(l:List Expr):Option Expr:=(one l).bind EM
noncomputable def qY(sc:Scope)(m:Loc)(o:Expr)(name:Str)(apos:Pos)(args:List Expr)(pos:Pos):Mo PV:=match eT args with
 |some e=>do
  must (aH o)
  let ov<-ih.e sc m o
  let f<-bx T ov name
  let as<-E0 ih sc m e
  let _<-lift (bX ov)
  let a<-lift (y1 f)
  must ((T.cls a).isNone&&(T.fn a).isSome)
  ih.call a (ov::as)
 |none=>do
  must (aH o&&decide (apos.endLine=pos.line)&&decide (args.length<20))
  let ov<-ih.e sc m o
  let f<-bx T ov name
  let as<-sr ih sc m args
  bk ih T f (ov::as)
noncomputable def IL(sc:Scope)(m:Loc)(f:Expr)(args:List Expr)(kws:List Keyword)(pos:Pos):Mo PV:=match kws with
 |_::_=>no
 |[]=>match f with
  | .Attribute o name apos=>qY T ih sc m o name apos args pos
  | .Name x p=>do
   must (decide (args.length<20))
   let f<-ih.e sc m (.Name x p)
   let as<-sr ih sc m args
   bk ih T f as
  |_=>no
noncomputable def sliceOf(e:Expr):Option (Option Expr×Option Expr):=(view e).slice?
noncomputable def sW(sc:Scope)(m:Loc)(o i:Expr):Mo PV:=match sliceOf i with
 |some (lo,hi)=>do
  let ov<-ih.e sc m o
  let l<-jE ih sc m lo
  let h<-jE ih sc m hi
  dO ov l h
 |none=>do
  let ov<-ih.e sc m o
  let iv<-ih.e sc m i
  cx T ov iv
noncomputable def Km(sc:Scope)(m:Loc)(l:Expr)(ops:List CmpOp)(rs:List Expr):Mo PV:=do
 let op<-lift (one ops)
 let r<-lift (one rs)
 must (!behindInMarks op r)
 let a<-ih.e sc m l
 let b<-ih.e sc m r
 kN op a b
noncomputable def nameOf(e:Expr):Option Str:=(view e).name?
noncomputable def cK(gens:List Comprehension):Option (Str×Expr×List Expr):=(one gens).bind λg=>if g.is_async=0 then(nameOf g.target).map λx=>(x,g.iter,g.ifs)else none
noncomputable def kB(sc:Scope)(m:Loc)(elt:Expr)(gens:List Comprehension)(sc':Scope):Mo PV:=match cK gens with
 |some (x,iter,ifs)=>do
  must (dw sc sc' x&&aY iter)
  let v<-ih.e sc m iter
  let it<-jk v
  let acc<-fH (.list [])
  match acc with
  | .ref a=>do mh ih sc' x m elt ifs a c7 it;ok (.ref a)
  |_=>no
 |none=>no
noncomputable def HM:PV->Mo PV
 | .int i=>mkInt (-i)
 |_=>no
noncomputable def KW(sc:Scope)(m:Loc)(op:UnaryOp)(x:Expr):Mo PV:=match op with
 | .USub=>do let v<-ih.e sc m x;HM v
 |_=>no
noncomputable def yi(sc:Scope)(m:Loc):Expr->Mo PV
 | .Constant c _ _=>Gb c
 | .Name x _=>bQ T sc m x
 | .BinOp l op r _=>do
  let a<-ih.e sc m l
  let b<-ih.e sc m r
  hY op a b
 | .UnaryOp op x _=>KW ih sc m op x
 | .BoolOp op vs _=>lw ih sc m op vs
 | .Compare l ops rs _=>Km ih sc m l ops rs
 | .Call f args kws pos=>IL T ih sc m f args kws pos
 | .Attribute o name _=>do
  must (aH o)
  let ov<-ih.e sc m o
  dW T ov name
 | .Subscript o i _=>sW T ih sc m o i
 | .IfExp t b o _=>do if<-ih.b sc m t then ih.e sc m b else ih.e sc m o
 | .List es _=>do let vs<-sr ih sc m es;newList vs
 | .Tuple es _ _=>do let vs<-sr ih sc m es;must (decide (vs.length<=lim));fH (.tup vs)
 | .ListComp elt gens sc' _=>kB ih sc m elt gens sc'
 |_=>no
noncomputable def lq(sc:Scope)(m:Loc)(e:Expr):Mo Bool:=do let v<-ih.e sc m e;fR v
noncomputable def JP(sc:Scope)(m:Loc)(l:Expr)(ops:List CmpOp)(rs:List Expr):Mo Bool:=do
 let op<-lift (one ops)
 let r<-lift (one rs)
 must (!behindInMarks op r)
 let a<-ih.e sc m l
 let b<-ih.e sc m r
 let v<-kN op a b
 fR v
noncomputable def Kt(sc:Scope)(m:Loc)(op:UnaryOp)(y:Expr):Mo Bool:=match op with
 | .Not=>do let t<-ih.b sc m y;ok (!t)
 |_=>no
noncomputable def K6(sc:Scope)(m:Loc)(x:Expr):Mo Bool:=match x with
 | .UnaryOp op y _=>Kt ih sc m op y
 | .BoolOp op vs _=>jp ih sc m op vs
 | .Compare l ops rs _=>JP ih sc m l ops rs
 | .IfExp .. =>no
 |_=>lq ih sc m x
noncomputable def aV(sc:Scope)(m:Loc)(x:Str)(v:PV):Option Loc:=match sc.names.lookup x with
 |some .local|some .cell=>some (m.set x v)
 |_=>none
noncomputable def cP(sc:Scope):Loc->List Expr->List PV->Option Loc
 |m,[],[]=>some m
 |m,t::ts,v::vs=>(nameOf t).bind λx=>(aV sc m x v).bind λm'=>cP sc m' ts vs
 |_,_,_=>none
noncomputable def pC(v:PV)(n:Nat):Mo (List PV):=do
 let r<-lift (bX v)
 let o<-getO r
 let xs<-lift (vJ o)
 must (decide (xs.length=n))
 ok xs
noncomputable def dj(e:Expr):Bool:=e.ctorIdx==26
noncomputable def jx(sc:Scope)(m:Loc)(t:Expr)(v:PV):Mo Loc:=match t with
 | .Name x _=>lift (aV sc m x v)
 | .Attribute o name _=>do
  must (aH o)
  let ov<-ih.e sc m o
  ez T ov name v
  ok m
 | .Subscript o i _=>do
  must (!dj i)
  let ov<-ih.e sc m o
  let iv<-ih.e sc m i
  eV ov iv v
  ok m
 | .Tuple ts _ _=>do
  let vs<-pC v ts.length
  lift (cP sc m ts vs)
 |_=>no
noncomputable def fh(sc:Scope)(m:Loc):List Expr->PV->Mo Loc
 |[],_=>ok m
 |t::ts,v=>do let m'<-jx T ih sc m t v;fh sc m' ts v
noncomputable def tJ(K:Loc->Mo (a9×Loc)):a9×Loc->Mo (a9×Loc)
 |(.next,m)|(.cont,m)=>K m
 |(.brk,m)=>ok (.next,m)
 |(.ret v,m)=>ok (.ret v,m)
noncomputable def j6(sc:Scope)(test:Expr)(body orelse:List Stmt):Nat->Loc->Mo (a9×Loc)
 |0,_=>no
 |k+1,m=>do
  if<-ih.b sc m test then do let r<-ih.ss sc m body;tJ (j6 sc test body orelse k) r
  else ih.ss sc m orelse
noncomputable def jM(sc:Scope)(target:Expr)(body orelse:List Stmt):Nat->It->Loc->Mo (a9×Loc)
 |0,_,_=>no
 |k+1,it,m=>do
  match<-fc it with
  |none=>ih.ss sc m orelse
  |some (v,it')=>do
   let m'<-jx T ih sc m target v
   let r<-ih.ss sc m' body
   tJ (jM sc target body orelse k it') r
noncomputable def Kn(op:Operator)(x y:Int):Mo PV:=match op with
 | .Add=>mkInt (x+y)
 | .Sub=>mkInt (x-y)
 |_=>no
noncomputable def Ap(op:Operator)(a b:PV):Mo PV:=do let x<-lift (cL a);let y<-lift (cL b);Kn op x y
noncomputable def pJ(sc:Scope)(ts vs:List Expr):Bool:=
 decide (ts.length=2)&&decide (vs.length=ts.length)&&vs.all aE&&
 (two ts).any (λt=>decide (t.1.pos.line=t.2.pos.line)&&(nameOf t.1).any λx=>(nameOf t.2).any λy=>decide (x≠y)&&decide (sc.names.lookup x=some .local)&&decide (sc.names.lookup y=some .local))&&
 !(vs.all (foldedForSure 8))&& !(vs.all (constantsAlone 8))
noncomputable def r6(e:Expr):Option (List Expr):=(view e).tup?
noncomputable def vq(e:Expr):Bool:=e.ctorIdx==24
noncomputable def pz(ts:List Expr)(value:Expr):Option (List Expr×List Expr):=(one ts).bind λt=>(r6 t).bind λus=>(r6 value).map λvs=>(us,vs)
noncomputable def Ff(sc:Scope)(m:Loc)(ts vs:List Expr)(value:Expr):Mo (a9×Loc):=do
 must (pJ sc ts vs)
 let v<-ih.e sc m value
 let us<-pC v ts.length
 let m'<-lift (cP sc m ts.reverse us.reverse)
 ok (.next,m')
noncomputable def vj(e:Expr):Option (Expr×List Comprehension×Scope):=(view e).comp?
noncomputable def mr(sc:Scope)(m:Loc)(value:Expr):Mo PV:=match vj value with
 |some c=>kB ih sc m c.1 c.2.1 c.2.2
 |none=>do must (!ce value);ih.e sc m value
noncomputable def zh(sc:Scope)(m:Loc)(ts:List Expr)(value:Expr):Mo (a9×Loc):=do
 let v<-mr ih sc m value
 let m'<-fh T ih sc m ts v
 ok (.next,m')
noncomputable def jD(sc:Scope)(m:Loc)(ts:List Expr)(value:Expr):Mo (a9×Loc):=match pz ts value with
 |some uv=>Ff ih sc m uv.1 uv.2 value
 |none=>do must (!(one ts).any vq);zh T ih sc m ts value
noncomputable def BJ(sc:Scope)(m:Loc)(o i:Expr)(op:Operator)(value:Expr):Mo (a9×Loc):=do
 must (!dj i)
 let ov<-ih.e sc m o
 let iv<-ih.e sc m i
 let old<-cx T ov iv
 let v<-ih.e sc m value
 let r<-Ap op old v
 eV ov iv r
 ok (.next,m)
noncomputable def BK(sc:Scope)(m:Loc)(t:Expr)(op:Operator)(value:Expr):Mo (a9×Loc):=match(view t).sub? with
 |some oi=>BJ T ih sc m oi.1 oi.2 op value
 |none=>do
 let x<-lift (nameOf t)
 let old<-bQ T sc m x
 let v<-ih.e sc m value
 let r<-Ap op old v
 let m'<-lift (aV sc m x r)
 ok (.next,m')
noncomputable def IZ(sc:Scope)(m:Loc):Option Expr->Mo (a9×Loc)
 |none=>ok (.ret .none,m)
 |some e=>do let v<-ih.e sc m e;ok (.ret v,m)
noncomputable def mW(sc:Scope)(m:Loc):Stmt->Mo (a9×Loc)
 | .Expr e _=>do must (o5 e);let _<-ih.e sc m e;ok (.next,m)
 | .Break _=>ok (.brk,m)
 | .Continue _=>ok (.cont,m)
 | .Return o _=>IZ ih sc m o
 | .Assign ts value _=>jD T ih sc m ts value
 | .AugAssign t op value _=>BK T ih sc m t op value
 | .If test body orelse _=>do if<-ih.b sc m test then ih.ss sc m body else ih.ss sc m orelse
 | .While test body orelse _=>j6 ih sc test body orelse c7 m
 | .For target iter body orelse _=>do
  must (aY iter)
  let v<-ih.e sc m iter
  let it<-jk v
  jM T ih sc target body orelse c7 it m
 |_=>no
noncomputable def Fz(sc:Scope)(m:Loc):List Stmt->Mo (a9×Loc)
 |[]=>ok (.next,m)
 |s::r=>do
  match<-mW T ih sc m s with
  |(.next,m')=>Fz sc m' r
  |(f,m')=>ok (f,m')
noncomputable def nQ:Loc->List Str->List PV->Option Loc
 |m,[],[]=>some m
 |m,x::xs,v::vs=>nQ (m.set x v) xs vs
 |_,_,_=>none
noncomputable def dX(a:Addr)(as:List PV):Mo PV:=match T.prim a with
 |some p=>p as
 |none=>match T.fn a with
  |none=>no
  |some f=>do
   let m<-lift (nQ (λ_=>none) (f.params.args.map (·.arg)) as)
   match<-ih.ss f.scope m f.body with
   |(.ret v,_)=>ok v
   |(.next,_)=>ok .none
   |_=>no
noncomputable def step:Ev:=⟨yi T ih,K6 ih,Fz T ih,dX T ih⟩
end level
noncomputable def ER:Ev:=⟨λ_ _ _=>no,λ_ _ _=>no,λ_ _ _=>no,λ_ _=>no⟩
noncomputable def al(T:kp):Nat->Ev
 |0=>ER
 |n+1=>step T (al T n)
end Evx
set_option backward.match.sparseCases true
set_option backward.match.sparseCases false
section EvAccx
open PySem
structure bU where
 fns:List (Addr×Option Str×Str)--address,class,name
 clss:List (Addr×Str)
 consts:List (Str×PV)
 vals:List (Str×List (Str×PV))
noncomputable def asPair:PO->Option (Str×Str)
 | .tup xs=>(two xs).bind λp=>(gf p.1).bind λa=>(gf p.2).map λb=>(a,b)
 |_=>none
noncomputable def pairAt(V:aI)(v:PV):Option (Str×Str):=(bX v).bind λr=>(V[r]?).bind asPair
noncomputable def fz(V:aI):List PV->Option (List (Str×Str))
 |[]=>some []
 |v::r=>(pairAt V v).bind λp=>(fz V r).map λps=>p::ps
noncomputable def di(ps:List (Str×Str)):Nat:=(ps.map λp=>p.1.length+p.2.length).sum
noncomputable def bU.isAcc(W:bU)(C:Addr):Bool:=decide (W.clss.lookup C=some ("_Accumulator":Str))
noncomputable def c3(W:bU)(r:Nat):Mo (Addr×List (Str×PV)×List PV):=do
 match<-getO r with
 | .acc C fs xs=>do must (W.isAcc C);ok (C,fs,xs)
 |_=>no
noncomputable def pairsOf(xs:List PV):Mo (List (Str×Str)):=λV=>(fz V xs).map λps=>(ps,V)
noncomputable def wE(W:bU)(r:Nat)(k:Int):Mo PV:=do
  let(C,fs,xs)<-c3 W r
  must (decide (fs.length<=10)&&xs.isEmpty)
  ek r (.acc C (gM fs "_initial_size" (.int k)) [])
  ok .none
noncomputable def sj(W:bU):List PV->Mo PV:=pop bX λr t=>match t with
 |[]=>wE W r 0
 |b::t=>pop cL (λk=>bn (wE W r k)) (b::t)
noncomputable def nr(W:bU):List PV->Mo PV:=pop bX λr=>pop gf λf=>pop gf λs=>bn<|do
  let(C,fs,xs)<-c3 W r
  must (decide (xs.length<=1000)&&(fs.lookup ("append":Str)).isNone)
  let t<-fH (.tup [.str f,.str s])
  ek r (.acc C fs (xs++[t]))
  ok .none
noncomputable def gJ(W:bU):List PV->Mo PV:=pop bX λr=>pop cL λi=>bn<|do
  let(C,fs,xs)<-c3 W r
  must (decide (0<=i/\i.toNat<=xs.length/\xs.length<=1000))
  let t<-fH (.list (xs.drop i.toNat))
  ek r (.acc C fs (xs.take i.toNat))
  ok t
noncomputable def zB(W:bU):List PV->Mo PV:=pop bX λr=>bn<|do
  let(C,fs,xs)<-c3 W r
  must (decide (xs.length<=1000)&&(fs.lookup ("part_count":Str)).isNone)
  match xs.getLast? with
  |none=>fH (.tup [.str "",.str ""])
  |some v=>do
   ek r (.acc C fs xs.dropLast)
   ok v
noncomputable def gv(W:bU):List PV->Mo PV:=pop bX λr=>bn<|do
  let(_,_,xs)<-c3 W r
  must (decide (xs.length<=1000))
  ok (.int xs.length)
noncomputable def lA(fs:List (Str×PV)):Mo Int:=match fs.lookup ("_initial_size":Str)with
 |some (.int k)=>do must (decide (0<=k/\k<=lim));ok k
 |_=>no
noncomputable def kl(W:bU)(r:Nat):Mo Int:=do
 let(_,fs,xs)<-c3 W r
 must (decide (xs.length<=1000))
 let ps<-pairsOf xs
 must (ps.all λp=>decide (p.1.length<=10000/\p.2.length<=10000))
 let k<-lA fs
 ok (di ps+k)
noncomputable def kM(W:bU):List PV->Mo PV:=pop bX λr=>bn<|do let n<-kl W r;ok (.int n)
noncomputable def n7(W:bU)(r:Nat):Mo Str:=do
 let(_,_,xs)<-c3 W r
 must (decide (xs.length<=1000))
 let ps<-pairsOf xs
 must (ps.all λp=>JoinOk ⟨#[]⟩ [p.1,p.2]&&strOk (Txt.join ⟨#[]⟩ [p.1,p.2]))
 must (JoinOk ⟨#[]⟩ (ps.map λp=>Txt.join ⟨#[]⟩ [p.1,p.2])&&strOk (Txt.join ⟨#[]⟩ (ps.map λp=>Txt.join ⟨#[]⟩ [p.1,p.2])))
 ok (Txt.join ⟨#[]⟩ (ps.map λp=>Txt.join ⟨#[]⟩ [p.1,p.2]))
noncomputable def lI(W:bU):List PV->Mo PV:=pop bX λr=>bn<|do let s<-n7 W r;ok (.str s)
noncomputable def iI(W:bU):List PV->Mo PV:=pop bX λr t=>match t with
 |[]=>do
  let(C,fs,xs)<-c3 W r
  must (decide (fs.length<=10/\xs.length<=1000))
  ek r (.acc C (gM fs "_initial_size" (.int 0)) [])
  ok .none
 |b::t=>pop bX (λl=>bn<|do
  let(C,fs,xs)<-c3 W r
  must (decide (fs.length<=10/\xs.length<=1000))
  let ob<-getO l
  let ys<-lift (c4 ob)
  must (decide (ys.length<=1000))
  ek r (.acc C (gM fs "_initial_size" (.int 0)) ys)
  ok .none) (b::t)
noncomputable def jw(W:bU):List PV->Mo PV:=pop bX λr=>bn<|do
  let(_,fs,_)<-c3 W r
  let k<-lA fs
  if k=0 then do
   let n<-kl W r
   if n=0 then ok (.bool true)else do
    let s<-n7 W r
    ok (.bool (Txt.isspace s))
  else ok (.bool false)
noncomputable def fF(W:bU)(n:Str):Option (List PV->Mo PV):=
 if n="__init__"then some (sj W)
 else if n="push"then some (nr W)
 else if n="pop_from"then some (gJ W)
 else if n="pop"then some (zB W)
 else if n="__len__"then some (kM W)
 else if n="__str__"then some (lI W)
 else if n="reset"then some (iI W)
 else if n="is_onlyws"then some (jw W)
 else if n="part_count"then some (gv W)
 else none
noncomputable def bU.tab(W:bU)(p:Program):kp where
 glob x:=match W.consts.lookup x with
  |some v=>some v
  |none=>match W.clss.find? (λc=>decide (c.2=x))with
   |some (a,_)=>some (.obj a)
   |none=>(W.fns.find? λf=>f.2.1.isNone&&decide (f.2.2=x)).map λf=>.obj f.1
 bltn x:=if x="len"∨x="min"∨x="max"∨x="sum"then some (.blt x.toString) else if x="range"∨x="list"∨x="tuple"∨x="str"then some (.typ x.toString)else none
 fn a:=(W.fns.lookup a).bind λf=>fnIn p f.1 f.2
 prim a:=(W.fns.lookup a).bind λf=>if f.1=some "_Accumulator"then fF W f.2 else none
 cls a:=(W.clss.lookup a).map λc=>{
  init:=(W.fns.find? λf=>decide (f.2.1=some c)&&decide (f.2.2=("__init__":Str))).map (·.1)
  meth:=λn=>(W.fns.find? λf=>decide (f.2.1=some c)&&decide (f.2.2=n)).map (·.1)
  vals:=λn=>((W.vals.lookup c).getD []).lookup n
  isAcc:=decide (c=("_Accumulator":Str))}
 lenA r:=kM W [.ref r]
 strA r:=lI W [.ref r]
end EvAccx
set_option backward.match.sparseCases true
section Sd1x
open PySem PySem.W PyProof.Rows
inductive bo{α β:Type}(R:α->β->Prop):List α->List β->Prop where
 |nil:bo R [] []
 |cons {a:α} {b:β} {as:List α} {bs:List β}:R a b->bo R as bs->bo R (a::as) (b::bs)
namespace bo
variable {α β:Type} {R R':α->β->Prop}
theorem length{as:List α}{bs:List β}(h:bo R as bs):as.length=bs.length:=by
 induction h with
 |nil=>rfl
 |cons _ _ ih=>simp[ih]
theorem mono{as:List α}{bs:List β}(h:bo R as bs)(k:∀a b,R a b->R' a b):bo R' as bs:=by
 induction h with
 |nil=>exact .nil
 |cons x _ ih=>exact .cons (k _ _ x) ih
theorem get{as:List α}{bs:List β}(h:bo R as bs){i:Nat}{b:β}(e:bs[i]?=some b):∃a,as[i]?=some a/\R a b:=by
 induction h generalizing i with
 |nil=>simp at e
 | @cons x y xs ys hr _ ih=>
  cases i with
  |zero=>simp at e;subst e;exact⟨x,by simp,hr⟩
  |succ i=>simp at e;obtain⟨a,h1,h2⟩:=ih e;exact⟨a,by simpa using h1,h2⟩
theorem append{as as':List α}{bs bs':List β}(h:bo R as bs)(h':bo R as' bs'):bo R (as++as') (bs++bs'):=by
 induction h with
 |nil=>exact h'
 |cons x _ ih=>exact .cons x ih
theorem one{a:α}{b:β}(h:R a b):bo R [a] [b]:=.cons h .nil
theorem drop{as:List α}{bs:List β}(h:bo R as bs)(n:Nat):bo R (as.drop n) (bs.drop n):=by
 induction n generalizing as bs with
 |zero=>simpa using h
 |succ n ih=>
  cases h with
  |nil=>simp;exact .nil
  |cons _ h=>simpa using ih h
theorem take{as:List α}{bs:List β}(h:bo R as bs)(n:Nat):bo R (as.take n) (bs.take n):=by
 induction n generalizing as bs with
 |zero=>simp;exact .nil
 |succ n ih=>
  cases h with
  |nil=>simp;exact .nil
  |cons x h=>simpa using .cons x (ih h)
theorem set{as:List α}{bs:List β}(h:bo R as bs)(n:Nat){a:α}{b:β}(r:R a b):bo R (as.set n a) (bs.set n b):=by
 induction h generalizing n with
 |nil=>simp;exact .nil
 |cons x h ih=>
  cases n with
  |zero=>exact .cons r h
  |succ n=>exact .cons x (ih n)
theorem HD{γ:Type}{f:β->γ}{S:α->γ->Prop}{as:List α}{bs:List β}(h:bo R as bs)(k:∀a b,R a b->S a (f b)):bo S as (bs.map f):=by
 induction h with
 |nil=>exact .nil
 |cons x _ ih=>exact .cons (k _ _ x) ih
end bo
structure Gh where
 own:Addr->Option (Nat×Bool)
 ad:List Addr
noncomputable def az(ad:List Addr)(v:Value):PV->Prop
 | .none=>v=.none
 | .bool b=>v=.bool b
 | .int i=>∃t,v=.int i t
 | .str s=>(∃t,v=.str s t)/\strOk s=true
 | .ref i=>∃a,ad[i]?=some a/\v=.ref a
 | .obj a=>v=.ref a
 | .typ T=>v=.type T
 | .blt id=>v=.builtin id
theorem bD{l l':List Addr}(h:l<+:l'){i:Nat}{a:Addr}(e:l[i]?=some a):l'[i]?=some a:=by obtain⟨t,rfl⟩:=h;have:i<l.length:=(List.getElem?_eq_some_iff.mp e).1;rw[List.getElem?_append_left this];exact e
theorem az.mono{ad ad':List Addr}(h:ad<+:ad'){v:Value}{p:PV}(r:az ad v p):az ad' v p:=by
 cases p with
 |ref i=>obtain⟨a,e,rfl⟩:=r;exact⟨a,bD h e,rfl⟩
 |_=>exact r
noncomputable abbrev aC(ad:List Addr)(vs:List Value)(ps:List PV):Prop:=bo (az ad) vs ps
theorem bf{ad ad':List Addr}(h:ad<+:ad'){vs:List Value}{ps:List PV}(r:aC ad vs ps):aC ad' vs ps:=bo.mono r λ_ _=>az.mono h
noncomputable abbrev aT(vs:List Value)(n:Nat):Obj:={cls:=.type "list",data:=.seq vs.toArray n}
noncomputable abbrev tH(vs:List Value)(n:Nat):Obj:={cls:=.type "tuple",data:=.seq vs.toArray n}
noncomputable abbrev Cj(a b c:Int)(t u v:Tok):Obj:={cls:=.type "range",data:=.fields #[.int a t,.int b u,.int c v]}
noncomputable abbrev dn(C d:Addr)(vs:List Value)(n:Nat):Obj:={cls:=.ref C,dict:=some d,data:=.seq vs.toArray n}
noncomputable def iA(ad:List Addr):Option PV->Option Value->Prop
 |none,v=>v=none
 |some p,v=>∃w,v=some w/\az ad w p
theorem iA.mono{ad ad':List Addr}(h:ad<+:ad'){p:Option PV}{v:Option Value}(r:iA ad p v):iA ad' p v:=by
 cases p with
 |none=>exact r
 |some p=>obtain⟨w,e,q⟩:=r;exact⟨w,e,q.mono h⟩
def oX(h:Heap)(G:Gh)(i:Nat)(a:Addr)(C:Addr)(fs:List (Str×PV))(o:Obj):Prop:=
 h.get? a=some o/\o.cls=.ref C/\∃d mA,o.dict=some d/\d≠a/\h.Ns1 d mA/\G.own d=some (i,true)/\∀x,iA G.ad (fs.lookup x) (mA x)
noncomputable def gn(h:Heap)(G:Gh)(i:Nat)(a:Addr):PO->Prop
 | .list xs=>xs.length<=lim/\∃vs n,h.get? a=some (aT vs n)/\aC G.ad vs xs
 | .tup xs=>xs.length<=lim/\∃vs n,h.get? a=some (tH vs n)/\aC G.ad vs xs
 | .rng x y z=>∃t u v,h.get? a=some (Cj x y z t u v)
 | .inst C fs=>∃o,o.data=.plain/\oX h G i a C fs o
 | .acc C fs xs=>xs.length<=lim/\∃o vs n,o.data=.seq vs.toArray n/\o.slots= #[]/\oX h G i a C fs o/\aC G.ad vs xs
noncomputable abbrev Kept(b:Addr)(o:Obj):Prop:=o.cls≠.none∨b=cStatics
def rN(h h':Heap)(c b:Addr):Prop:=∃ps more,h.IsCode c b ps/\h.TableAt c b ps/\h'.IsCode c b (ps++more)/\h'.TableAt c b (ps++more)
structure dK where
 n₀:Nat
 t₀:Nat
 codes:List (Addr×Addr)
 P:Heap->Prop
 keeps:∀h h',P h->(∀b o,b<n₀->h.get? b=some o->h'.get? b=some o∨∃c,(c,b)∈codes/\rN h h' c b)->P h'
 size:∀h,P h->n₀<=h.objs.size
structure Inv(Z:dK)(s:Shared)(G:Gh)(V:aI):Prop where
 top:Z.P s.heap
 len:G.ad.length=V.length
 rep:∀i o,V[i]?=some o->∃a,G.ad[i]?=some a/\G.own a=some (i,false)/\gn s.heap G i a o
 fresh:∀a,s.heap.get? a=none->G.own a=none
 old:∀a,a<Z.n₀->G.own a=none
 bare:AllBare s.gens
 tok:Z.t₀<=s.toks
structure aK(fp:List Addr)(G:Gh)(s:Shared)(G':Gh)(s':Shared):Prop where
 own:∀a x,G.own a=some x->G'.own a=some x
 ad:G.ad<+:G'.ad
 keep:∀b o,s.heap.get? b=some o->G.own b=none->b∉fp->Kept b o->s'.heap.get? b=some o/\G'.own b=none
 os:s'.os=s.os
 drawn:s'.drawn=s.drawn
theorem aK.refl(fp:List Addr)(G:Gh)(s:Shared):aK fp G s G s:=⟨λ_ _ e=>e,prefix_rfl,λ_ _ e h _ _=>⟨e,h⟩,rfl,rfl⟩
theorem aK.trans{fp:List Addr}{G G' G'':Gh}{s s' s'':Shared}(x:aK fp G s G' s')(y:aK fp G' s' G'' s''):aK fp G s G'' s'':=
 ⟨λa z e=>y.own a z (x.own a z e),x.ad.trans y.ad,λb o e h1 h2 h3=>let⟨e',h1'⟩:=x.keep b o e h1 h2 h3;y.keep b o e' h1' h2 h3,y.os.trans x.os,y.drawn.trans x.drawn⟩
theorem aK.weak{fp fp':List Addr}{G G':Gh}{s s':Shared}(x:aK fp G s G' s')(h:∀a∈fp,a∈fp'):aK fp' G s G' s':=
 ⟨x.own,x.ad,λb o e h1 h2 h3=>x.keep b o e h1 (λq=>h2 (h b q)) h3,x.os,x.drawn⟩
theorem aK.nil{fp:List Addr}{G G':Gh}{s s':Shared}(x:aK [] G s G' s'):aK fp G s G' s':=x.weak λ_ h=>nomatch h
theorem aK.cut{fp fp':List Addr}{G G':Gh}{s s':Shared}(x:aK fp G s G' s')(h:∀a∈fp,a∈fp'∨s.heap.get? a=none):aK fp' G s G' s':=
 ⟨x.own,x.ad,λb o e h1 h2 h3=>x.keep b o e h1 (λq=>(h b q).elim h2 λz=>by rw[e]at z;cases z) h3,x.os,x.drawn⟩
theorem oX.keep{h h':Heap}{G G':Gh}{i:Nat}{a C:Addr}{fs:List (Str×PV)}{o:Obj}(r:oX h G i a C fs o)(ha:∀o,h.get? a=some o->h'.get? a=some o) (hd:∀d,G.own d=some (i,true)->(∀o,h.get? d=some o->h'.get? d=some o)/\G'.own d=some (i,true))(had:G.ad<+:G'.ad):oX h' G' i a C fs o:=by obtain⟨e,ec,d,mA,ed,ne,ns,ow,f⟩:=r;obtain⟨od,es,ep,e1,r⟩:=ns;exact⟨ha _ e,ec,d,mA,ed,ne,⟨od,es,ep,(hd d ow).1 _ e1,r⟩,(hd d ow).2,λx=>(f x).mono had⟩
theorem gn.keep{h h':Heap}{G G':Gh}{i:Nat}{a:Addr}{o:PO}(r:gn h G i a o)(ha:∀o,h.get? a=some o->h'.get? a=some o) (hd:∀d,G.own d=some (i,true)->(∀o,h.get? d=some o->h'.get? d=some o)/\G'.own d=some (i,true))(had:G.ad<+:G'.ad):gn h' G' i a o:=by
 cases o with
 |list xs=>obtain⟨hl,vs,n,e,r⟩:=r;exact⟨hl,vs,n,ha _ e,bf had r⟩
 |tup xs=>obtain⟨hl,vs,n,e,r⟩:=r;exact⟨hl,vs,n,ha _ e,bf had r⟩
 |rng x y z=>obtain⟨t,u,v,e⟩:=r;exact⟨t,u,v,ha _ e⟩
 |inst C fs=>obtain⟨o,e,r⟩:=r;exact⟨o,e,r.keep ha hd had⟩
 |acc C fs xs=>obtain⟨hl,o,vs,n,e1,e2,r,q⟩:=r;exact⟨hl,o,vs,n,e1,e2,r.keep ha hd had,bf had q⟩
section
variable {Z:dK} {s s':Shared} {G G':Gh} {V:aI}
theorem Inv.above(I:Inv Z s G V):Z.n₀<=s.heap.objs.size:=Z.size _ I.top
theorem bb{h:Heap}{a:Addr}(q:h.objs.size<=a):h.get? a=none:=by
 cases e:h.get? a with
 |none=>rfl
 |some o=>exact absurd (lt_size e) (not_lt.mpr q)
theorem Inv.still(I:Inv Z s G V)(hk:∀b o,s.heap.get? b=some o->(G.own b≠none∨b<Z.n₀)->s'.heap.get? b=some o) (hg:AllBare s'.gens)(ht:Z.t₀<=s'.toks):Inv Z s' G V where
 top:=Z.keeps _ _ I.top λb o hb e=>.inl (hk b o e (.inr hb))
 len:=I.len
 rep i o e:=by
  obtain⟨a,h1,h2,h3⟩:=I.rep i o e;have nb:∀b x,G.own b=some x->∀o,s.heap.get? b=some o->s'.heap.get? b=some o:=λb x ow o eo=>
   hk b o eo (.inl (by rw[ow];simp))
  exact⟨a,h1,h2,h3.keep (nb a _ h2) (λd ow=>⟨nb d _ ow,ow⟩) prefix_rfl⟩
 fresh a h:=by
  cases e:s.heap.get? a with
  |none=>exact I.fresh a e
  |some o=>
   cases q:G.own a with
   |none=>rfl
   |some x=>have:=hk a o e (.inl (by rw[q];simp));rw[h]at this;cases this
 old:=I.old
 bare:=hg
 tok:=ht
theorem Inv.toks(I:Inv Z s G V){t:Nat}(ht:Z.t₀<=t):Inv Z {s with toks:=t} G V:=I.still (s':={s with toks:=t}) (λ_ _ e _=>e) I.bare ht
theorem aK.toks{fp:List Addr}{t:Nat}:aK fp G s G {s with toks:=t}:=⟨λ_ _ e=>e,prefix_rfl,λ_ _ e h _ _=>⟨e,h⟩,rfl,rfl⟩
end
end Sd1x
section Sd2x
open PySem PySem.W PyProof.Rows
section
variable {Z:dK} {s s':Shared} {G G':Gh} {V:aI} {fp:List Addr}
theorem Inv.at(I:Inv Z s G V){i:Nat}{o:PO}(e:V[i]?=some o){a:Addr}(ha:G.ad[i]?=some a):G.own a=some (i,false)/\gn s.heap G i a o:=by obtain⟨b,h1,h2,h3⟩:=I.rep i o e;have:a=b:=Option.some.inj (ha.symm.trans h1);subst this;exact⟨h2,h3⟩
theorem Inv.junk(I:Inv Z s G V)(ob:Obj){t:Nat}(ht:Z.t₀<=t):Inv Z {s with heap:=s.heap.push ob,toks:=t} G V:=
 I.still (λ_ _ e _=>Heap.get?_push_of_some ob e) I.bare ht
theorem aK.junk(ob:Obj){t:Nat}:aK fp G s G {s with heap:=s.heap.push ob,toks:=t}:=
 ⟨λ_ _ e=>e,prefix_rfl,λ_ _ e h _ _=>⟨Heap.get?_push_of_some ob e,h⟩,rfl,rfl⟩
noncomputable def Gh.add(G:Gh)(a:Addr)(i:Nat):Gh:=⟨λb=>if b=a then some (i,false)else G.own b,G.ad++[a]⟩
theorem Inv.new(I:Inv Z s G V){ob:Obj}{o:PO}{t:Nat}(ht:Z.t₀<=t)(hf:ob.isFreed=false) (h:gn (s.heap.push ob) (G.add s.heap.objs.size V.length) V.length s.heap.objs.size o):Inv Z {s with heap:=s.heap.push ob,toks:=t} (G.add s.heap.objs.size V.length) (V++[o])where
 top:=Z.keeps _ _ I.top λb o hb e=>.inl (Heap.get?_push_of_some ob e)
 len:=by simp[Gh.add,I.len]
 rep i o' e:=by
  by_cases hi:i<V.length
  ·rw[List.getElem?_append_left hi]at e;obtain⟨a,h1,h2,h3⟩:=I.rep i o' e;have ne:∀b x,G.own b=some x->b≠s.heap.objs.size:=λb x ow q=>by rw[I.fresh b (bb (le_of_eq q.symm))]at ow;cases ow
   refine⟨a,bD ⟨_,rfl⟩ h1,by show(if a=_ then _ else _)=_;rw[if_neg (ne a _ h2)];exact h2,?_⟩;exact h3.keep (λ_ e=>Heap.get?_push_of_some ob e) (λd ow=>⟨λ_ e=>Heap.get?_push_of_some ob e,by show(if d=_ then _ else _)=_;rw[if_neg (ne d _ ow)];exact ow⟩) ⟨_,rfl⟩
  ·have:i=V.length:=by have:=(List.getElem?_eq_some_iff.mp e).1;simp at this;lia
   subst this;simp at e;subst e;exact⟨s.heap.objs.size,by simp[Gh.add,<-I.len],by simp[Gh.add],h⟩
 fresh a h:=by
  have h':(s.heap.push ob).get? a=none:=h;have ne:a≠s.heap.objs.size:=λq=>by rw[q,Heap.get?_push_size _ hf]at h';cases h'
  show(if a=_ then _ else _)=_;rw[if_neg ne];refine I.fresh a ?_;cases e:s.heap.get? a with
  |none=>rfl
  |some o=>rw[Heap.get?_push_of_some ob e]at h';cases h'
 old a h:=by show(if a=_ then _ else _)=_;rw[if_neg (by have:=I.above;lia)];exact I.old a h
 bare:=I.bare
 tok:=ht
theorem Gh.add_ne{G:Gh}{a b:Addr}{i:Nat}(h:b≠a):(G.add a i).own b=G.own b:=by show(if b=a then _ else _)=_;rw[if_neg h]
theorem aK.new(I:Inv Z s G V){ob:Obj}{t:Nat}{i:Nat}:aK fp G s (G.add s.heap.objs.size i) {s with heap:=s.heap.push ob,toks:=t}:=
 ⟨λa x e=>(Gh.add_ne (λq=>by rw[I.fresh a (bb (le_of_eq q.symm))]at e;cases e)).trans e,⟨_,rfl⟩,λb o e h _ _=>⟨Heap.get?_push_of_some ob e,(Gh.add_ne (ne_of_lt (lt_size e))).trans h⟩,rfl,rfl⟩
theorem Gh.add_at(I:Inv Z s G V)(a:Addr)(i:Nat):(G.add a i).ad[V.length]?=some a:=by simp[Gh.add,<-I.len]
theorem Inv.change(I:Inv Z s G V){i:Nat}{o o':PO}{b:Addr}{k:Bool}(hi:V[i]?=some o)(hb:G.own b=some (i,k))(hs:Heap.SameBut b s.heap s'.heap) (hl:∃o,s'.heap.get? b=some o)(h:∀a,G.ad[i]?=some a->gn s'.heap G i a o')(hg:s'.gens=s.gens)(ht:Z.t₀<=s'.toks):Inv Z s' G (V.set i o')where
 top:=Z.keeps _ _ I.top λc o hc e=>.inl ((hs.2 c (λq=>by rw[<-q,I.old c hc]at hb;cases hb)).trans e)
 len:=by rw[length_set];exact I.len
 rep j oj e:=by
  by_cases hj:j=i
  ·subst hj;have hl:j<V.length:=(List.getElem?_eq_some_iff.mp hi).1;rw[List.getElem?_set_self hl]at e;obtain rfl:=Option.some.inj e;obtain⟨a,h1,h2,_⟩:=I.rep j o hi;exact⟨a,h1,h2,h a h1⟩
  ·rw[List.getElem?_set_ne (Ne.symm hj)]at e;obtain⟨a,h1,h2,h3⟩:=I.rep j oj e;refine⟨a,h1,h2,h3.keep (λo e=>(hs.2 a (λq=>?_)).trans e) (λd ow=>⟨λo e=>(hs.2 d (λq=>?_)).trans e,ow⟩) prefix_rfl⟩
   ·rw[q,hb]at h2;cases h2;exact hj rfl
   ·rw[q,hb]at ow;cases ow;exact hj rfl
 fresh a h:=by
  by_cases q:a=b
  ·subst q;cases e:s.heap.get? a with
   |none=>exact I.fresh a e
   |some o=>obtain⟨o',e'⟩:=hl;rw[h]at e';cases e'
  ·exact I.fresh a ((hs.2 a q).symm.trans h)
 old:=I.old
 bare:=by rw[hg];exact I.bare
 tok:=ht
theorem aK.change{b:Addr}{x:Nat×Bool}(hb:G.own b=some x)(hs:Heap.SameBut b s.heap s'.heap)(ho:s'.os=s.os)(hd:s'.drawn=s.drawn):aK fp G s G s':=
 ⟨λ_ _ e=>e,prefix_rfl,λc o e h1 _ _=>⟨(hs.2 c (λq=>by rw[q,hb]at h1;cases h1)).trans e,h1⟩,ho,hd⟩
theorem Inv.aside(I:Inv Z s G V){L:Addr}(hL:G.own L=none)(hn:Z.n₀<=L)(hs:Heap.ExtBut L s.heap s'.heap)(hg:s'.gens=s.gens)(ht:Z.t₀<=s'.toks):Inv Z s' G V:=
 I.still (λb o e q=>hs b o (λz=>by
  subst z;rcases q with q|q
  ·exact q hL
  ·exact absurd q (not_lt.mpr hn)) e) (by rw[hg];exact I.bare) ht
theorem aK.aside{L:Addr}(hs:Heap.ExtBut L s.heap s'.heap)(ho:s'.os=s.os)(hd:s'.drawn=s.drawn)(hm:L∈fp):aK fp G s G s':=
 ⟨λ_ _ e=>e,prefix_rfl,λc o e h1 h2 _=>⟨hs c o (λq=>h2 (q▸hm)) e,h1⟩,ho,hd⟩
end
def Run(Z:dK)(prog:Program)(w:World)(A:Around)(fp:List Addr)(G:Gh)(s:Shared){α:Type}(t:Sem α)(V':aI)(P:Gh->Shared->α->Prop):Prop:=
 ∀(Q:α->Shared->Prop) (E:Value->Shared->Prop),(∀a s' G',Inv Z s' G' V'->aK fp G s G' s'->P G' s' a->Q a s')->wpAny (model prog w) A t Q E s
section
variable {Z:dK} {prog:Program} {w:World} {A:Around} {fp:List Addr} {G:Gh} {s:Shared} {V' V'':aI} {α β:Type}
theorem Run.bind{m:Sem α}{f:α->Sem β}{P:Gh->Shared->α->Prop}{P':Gh->Shared->β->Prop}(h:Run Z prog w A fp G s m V' P) (k:∀a LK G₁,Inv Z LK G₁ V'->aK fp G s G₁ LK->P G₁ LK a->Run Z prog w A fp G₁ LK (f a) V'' P'):Run Z prog w A fp G s (m>>=f) V'' P':=
 λQ E q=>wpAny_bind (h _ E λa LK G₁ I S p=>k a LK G₁ I S p Q E λb LL G₂ I₂ S2 p₂=>q b LL G₂ I₂ (S.trans S2) p₂)
theorem Run.pure{a:α}{V:aI}{P:Gh->Shared->α->Prop}(I:Inv Z s G V)(p:P G s a):Run Z prog w A fp G s (pure a) V P:=λ_ _ q=>wpAny_pure (q a s G I (aK.refl _ _ _) p)
theorem Run.weak{m:Sem α}{fp':List Addr}{P:Gh->Shared->α->Prop}(h:Run Z prog w A fp' G s m V' P)(k:∀a∈fp',a∈fp):Run Z prog w A fp G s m V' P:=
 λQ E q=>h Q E λa s' G' I S p=>q a s' G' I (S.weak k) p
theorem Run.mono{m:Sem α}{P P':Gh->Shared->α->Prop}(h:Run Z prog w A fp G s m V' P)(k:∀a s' G',aK fp G s G' s'->P G' s' a->P' G' s' a):Run Z prog w A fp G s m V' P':=
 λQ E q=>h Q E λa s' G' I S p=>q a s' G' I S (k a s' G' S p)
end
noncomputable abbrev bj(v:PV):Gh->Shared->Value->Prop:=λG _ x=>az G.ad x v
noncomputable abbrev ub(b:Bool):Gh->Shared->Bool->Prop:=λ_ _ x=>x=b
noncomputable abbrev Hz:Gh->Shared->Unit->Prop:=λ_ _ _=>True
end Sd2x
section Monox
open PySem
def Later(s s':Shared):Prop:=s.toks<=s'.toks/\s.heap.objs.size<=s'.heap.objs.size
theorem Later.refl(s:Shared):Later s s:=⟨le_refl _,le_refl _⟩
theorem Later.trans{a b c:Shared}(x:Later a b)(y:Later b c):Later a c:=⟨Nat.le_trans x.1 y.1,Nat.le_trans x.2 y.2⟩
theorem nz{s:Shared}{a:Addr}{f:Obj->Obj}:Later s {s with heap:=s.heap.update a f}:=⟨le_refl _,le_of_eq (Heap.size_after_update ..).symm⟩
theorem mD{s:Shared}{o:Obj}:Later s {s with heap:=s.heap.push o}:=⟨le_refl _,by show _<=(s.heap.push o).objs.size;rw[size_push];exact le_succ _⟩
theorem ni{s:Shared}:Later s {s with toks:=s.toks+1}:=⟨le_succ _,le_refl _⟩
set_option tactic.hygienic true in
theorem ix{M:Model}{Γ:Ctx}{p:Pos}{t:Sem PySem.Fin}{fs:List Frame}{s s':Shared}{e:End}(h:Runs M Γ p t fs s e s'):Later s s':=by
 induction h with
 |done=>exact .refl _
 |raise=>exact .refl _
 |update _ _ ih=>exact nz.trans ih
 |alloc _ ih=>exact mD.trans ih
 |fresh _ ih=>exact ni.trans ih
 |yield=>exact .refl _
 |call _ _ ih1 ih2=>exact ih1.trans ih2
 |callSusp _ ih=>exact ih
 |resumeFresh _ _ _ _ ih1 ih2=>exact Later.trans ih1 ih2
 |resumeSuspended _ _ _ _ ih1 ih2=>exact Later.trans ih1 ih2
 |segRet _ _ ih1 ih2=>exact ih1.trans ih2
 |segGen _ _ ih1 ih2=>exact Later.trans ih1 ih2
 |segSuspOut _ _ ih=>exact ih
 |segSuspGen _ _ _ _ ih1 ih2=>exact Later.trans ih1 ih2
 |_=>first|assumption|(rename_i ih;exact ih)
theorem ql{M:Model}{Γ:Ctx}{p:Pos}{g:Nat}{r:Resume}{s s':Shared}{res:GenResult}(h:Wakes M Γ p g r s res s'):Later s s':=by
 unfold Wakes at h;split at h
 ·exact h.elim
 ·split at h
  ·obtain⟨e,LK,h1,_,_,rfl⟩:=h;have l:=ix h1;exact⟨l.1,l.2⟩
  ·rw[h.2];exact .refl _
  ·rw[h.2];exact .refl _
 ·obtain⟨e,LK,h1,_,_,rfl⟩:=h;have l:=ix h1;exact⟨l.1,l.2⟩
 ·rw[h.2];exact .refl _
 ·rw[h.2];exact .refl _
theorem zH{α:Type}{M:Model}{Γ:Ctx}{Q:α->Pos->Shared->Prop}{E:Value->Pos->Shared->Prop}(t:Sem α):∀(p:Pos) (s:Shared),t.wp M Γ Q E p s->t.wp M Γ (λa p' s'=>Later s s'/\Q a p' s') E p s:=by
 have up:∀(t:Sem α) (p:Pos) (s₀ s:Shared),Later s₀ s->t.wp M Γ (λa p' s'=>Later s s'/\Q a p' s') E p s->t.wp M Γ (λa p' s'=>Later s₀ s'/\Q a p' s') E p s:=
  λt p s₀ s l h=>Sem.wp_mono M Γ t (λ_ _ _ q=>⟨l.trans q.1,q.2⟩) (λ_ _ _ q=>q) p s h
 induction t with
 |pure a=>intro p s h;exact⟨.refl _,h⟩
 |raise e=>intro p s h;exact h
 |unsupported _=>intro p s h;exact h
 |finish _=>intro p s h;exact h
 |rule _ k ih=>intro p s h;exact ih () p s h
 |«at» q k ih=>intro p s h;exact ih () q s h
 |load a _ k ih=>intro p s h;rw[Sem.wp_load]at h⊢;obtain⟨o,e,h⟩:=h;exact⟨o,e,ih o p s h⟩
 |update a _ f k ih=>intro p s h;rw[Sem.wp]at h⊢;exact⟨h.1,up _ _ _ _ nz (ih () p _ h.2)⟩
 |alloc o k ih=>intro p s h;rw[Sem.wp]at h⊢;exact up _ _ _ _ mD (ih _ p _ h)
 |loadIfAlive a k ih=>intro p s h;rw[Sem.wp]at h⊢;exact ih _ p s h
 |point _ k ih=>intro p s h;exact ih () p s h
 |register _ _ _=>intro p s h;rw[Sem.wp]at h;exact h.elim
 |fresh k ih=>intro p s h;rw[Sem.wp]at h⊢;exact up _ _ _ _ ni (ih _ p _ h)
 |ask k ih=>intro p s h;rw[Sem.wp]at h⊢;exact ih _ p s h
 |choose src n k ih=>intro p s h;rw[Sem.wp]at h⊢;exact⟨h.1,up _ _ _ _ ⟨le_refl _,le_refl _⟩ (ih _ p _ h.2)⟩
 |os q _ k ih=>intro p s h;rw[Sem.wp]at h⊢;exact up _ _ _ _ ⟨le_refl _,le_refl _⟩ (ih _ p _ h)
 |call c hd _ _ k ih=>intro p s h;rw[Sem.wp]at h⊢;obtain⟨r,s',h1,h2⟩:=h;exact⟨r,s',h1,up _ _ _ _ (ix h1) (ih r p s' h2)⟩
 |handled own k ih=>intro p s h;rw[Sem.wp]at h⊢;exact ih _ p s h
 |newGen c k ih=>intro p s h;rw[Sem.wp]at h⊢;exact up _ _ _ _ ⟨le_refl _,le_refl _⟩ (ih _ p _ h)
 |genState g k ih=>intro p s h;rw[Sem.wp]at h⊢;obtain⟨st,e,h⟩:=h;exact⟨st,e,ih _ p s h⟩
 |resume g r _ k ih=>intro p s h;rw[Sem.wp]at h⊢;obtain⟨res,s',h1,h2⟩:=h;exact⟨res,s',h1,up _ _ _ _ (ql h1) (ih res p s' h2)⟩
 |yield _ _ _ _ _=>intro p s h;rw[Sem.wp]at h;exact h.elim
 |stack k ih=>intro p s h;rw[Sem.wp]at h⊢;exact ih _ p s h
 |fork _ _ _=>intro p s h;rw[Sem.wp]at h;exact h.elim
 |thread k ih=>intro p s h;rw[Sem.wp]at h⊢;exact ih _ p s h
 |await _ _ _ _ _ _=>intro p s h;rw[Sem.wp]at h;exact h.elim
theorem cy{α:Type}{M:Model}{A:Around}{t:Sem α}{Q:α->Shared->Prop}{E:Value->Shared->Prop}{s:Shared}(h:wpAny M A t (λa s'=>Later s s'->Q a s') E s):wpAny M A t Q E s:=
 λΓ p hΓ=>Sem.wp_mono M Γ t (λ_ _ _ q=>q.2 q.1) (λ_ _ _ q=>q) p s (zH t p s (h Γ p hΓ))
end Monox
section R1
open PySem PySem.W PyProof.Rows PySem.SeqAt
variable {V V' V'' V1:aI}{Z:dK}{prog:Program}{w:World}{A:Around}{ad fp:List Addr}{G G':Gh}{s s':Shared}{cenv env:Env}{sc sc' scope:Scope}{m m':Loc}{D I J L a sl:Addr}{it it':It}{T:kp}{ev:Ev}{i j k k' line n:Nat}{v Mb:PV}{b:Bool}{name x:Str}{f u va vb y z:Value}{apos p p' pos px:Pos}{M:Model}{E Q:Value->Shared->Prop}{o:PO}{e elt iter l r t:Expr}{ob:Obj}{vs ys:List Value}{as xs:List PV}{op:Operator}{h h':Heap}{c:Int}{args es ifs ts us:List Expr}{ml:Str->Option Value}{ns:List Int}{whole:Sem Value}{R:PySem.Result->Shared->Prop}
--the little monad
noncomputable def vz{α:Type}(P:α->Prop):Option α->Prop
 |none=>True
 |some c=>P c
theorem uE{α:Type}{P:α->Prop}{o:Option α}{c:α}(h:vz P o)(e:o=some c):P c:=by subst e;exact h
set_option tactic.hygienic true in
theorem bt{α β:Type}{x:Mo α}{f:α->Mo β}{b:β}(h:(x>>=f) V=some (b,V')):∃a V1,x V=some (a,V1)/\f a V1=some (b,V'):=by
 have h':bd x f V=some (b,V'):=h;unfold bd at h';split at h'
 ·cases h'
 ·rename_i a V1 e;exact⟨a,V1,e,h'⟩
theorem not_true(h:(!b)=true):b=false:=by cases b<;>first|rfl|cases h
theorem af{α:Type}{a b:α}(h:(ok a:Mo α) V=some (b,V')):a=b/\V=V':=by cases h;exact⟨rfl,rfl⟩
theorem aQ{α:Type}{b:α}(h:(no:Mo α) V=some (b,V')):False:=by cases h
theorem aW{α:Type}{x:Option α}{b:α}(h:lift x V=some (b,V')):x=some b/\V=V':=by
 cases x with
 |none=>cases h
 |some a=>cases h;exact⟨rfl,rfl⟩
set_option tactic.hygienic true in
theorem xz(h:getO i V=some (o,V')):V[i]?=some o/\V=V':=by
 unfold getO at h;split at h
 ·cases h
 ·rename_i o' e;cases h;exact⟨e,rfl⟩
set_option tactic.hygienic true in
theorem gS{u:Unit}(h:ek i o V=some (u,V')):i<V.length/\V'=V.set i o:=by
 unfold ek at h;split at h
 ·cases h;rename_i q;exact⟨q,rfl⟩
 ·cases h
theorem bJ(h:fH o V=some (v,V')):v=.ref V.length/\V'=V++[o]:=by cases h;exact⟨rfl,rfl⟩
set_option tactic.hygienic true in
theorem xX{u:Unit}(h:must b V=some (u,V')):b=true/\V=V':=by
 unfold must at h;split at h
 ·rename_i q;cases h;exact⟨q,rfl⟩
 ·cases h
section
variable {α β:Type}{r:β×aI}
theorem jh{f:Unit->Mo β}(h:(must b>>=f) V=some r):b=true/\f () V=some r:=by obtain⟨x,V'⟩:=r;obtain⟨_,V1,e,h⟩:=bt h;obtain⟨q,rfl⟩:=xX e;exact⟨q,h⟩
theorem CS{f:PO->Mo β}(h:(getO i>>=f) V=some r):∃o,V[i]?=some o/\f o V=some r:=by obtain⟨x,V'⟩:=r;obtain⟨o,V1,e,h⟩:=bt h;obtain⟨q,rfl⟩:=xz e;exact⟨o,q,h⟩
theorem Et{x:Option α}{f:α->Mo β}(h:(lift x>>=f) V=some r):∃a,x=some a/\f a V=some r:=by obtain⟨y,V'⟩:=r;obtain⟨o,V1,e,h⟩:=bt h;obtain⟨q,rfl⟩:=aW e;exact⟨o,q,h⟩
theorem fU{f:Unit->Mo β}(h:(ek i o>>=f) V=some r):i<V.length/\f () (V.set i o)=some r:=by obtain⟨y,V'⟩:=r;obtain⟨_,V1,e,h⟩:=bt h;obtain⟨q,rfl⟩:=gS e;exact⟨q,h⟩
theorem aj{x:Mo α}{f:α->Mo β}{P:Prop}(h:(x>>=f) V=some r)(k:∀a V1,x V=some (a,V1)->f a V1=some r->P):P:=let⟨a,V1,h1,h2⟩:=bt (b:=r.1) (V':=r.2) h;k a V1 h1 h2
theorem ag{f:Unit->Mo β}{P:Prop}(h:(must b>>=f) V=some r)(k:b=true->f () V=some r->P):P:=let⟨h1,h2⟩:=jh h;k h1 h2
theorem aM{f:PO->Mo β}{P:Prop}(h:(getO i>>=f) V=some r)(k:∀o,V[i]?=some o->f o V=some r->P):P:=let⟨o,h1,h2⟩:=CS h;k o h1 h2
theorem ah{x:Option α}{f:α->Mo β}{P:Prop}(h:(lift x>>=f) V=some r)(k:∀a,x=some a->f a V=some r->P):P:=let⟨a,h1,h2⟩:=Et h;k a h1 h2
theorem k8{f:PV->Mo β}(h:(fH o>>=f) V=some r):f (.ref V.length) (V++[o])=some r:=h
end
theorem cM:lim<=sizeLine:=by rw[sizeLine_eq];decide
theorem ay{α:Type}{t:Sem α}{P:Gh->Shared->α->Prop}(I:Inv Z s G V) (h:∀(Q:α->Shared->Prop) (E:Value->Shared->Prop),(∀a k,s.toks<=k->P G {s with toks:=k} a->Q a {s with toks:=k})->wpAny (model prog w) A t Q E s):Run Z prog w A fp G s t V P:=
 λQ E q=>h Q E λa k hk p=>q a _ G (I.toks (Nat.le_trans I.tok hk)) aK.toks p
theorem dh{t:Sem Value}(I:Inv Z s G V)(hf:ob.isFreed=false)(ho:gn (s.heap.push ob) (G.add s.heap.objs.size V.length) V.length s.heap.objs.size o) (h:∀(Q:Value->Shared->Prop) (E:Value->Shared->Prop),(∀k,s.toks<=k->Q (.ref s.heap.objs.size) {s with heap:=s.heap.push ob,toks:=k})->wpAny (model prog w) A t Q E s):Run Z prog w A fp G s t (V++[o]) (bj (.ref V.length)):=
 λQ E q=>h Q E λk hk=>q _ _ _ (I.new (Nat.le_trans I.tok hk) hf ho) (aK.new I) ⟨_,Gh.add_at I _ _,rfl⟩
theorem dQ(hl:xs.length<=lim)(h:aC G.ad vs xs)(e:ob=aT vs 0):gn (s.heap.push ob) (G.add s.heap.objs.size i) i s.heap.objs.size (.list xs):=by subst e;exact⟨hl,vs,0,Heap.get?_push_size _ rfl,bf ⟨_,rfl⟩ h⟩
theorem zt(hl:xs.length<=lim)(h:aC G.ad vs xs)(e:ob=tH vs 0):gn (s.heap.push ob) (G.add s.heap.objs.size i) i s.heap.objs.size (.tup xs):=by subst e;exact⟨hl,vs,0,Heap.get?_push_size _ rfl,bf ⟨_,rfl⟩ h⟩
theorem kg(I:Inv Z s G V)(h:aC G.ad vs xs)(hl:xs.length<=lim):Run Z prog w A fp G s (PySem.newList vs) (V++[.list xs]) (bj (.ref V.length)):=
 dh (ob:=aT vs 0) I rfl (dQ hl h rfl) λQ E q=>wpAny_newObj_type (q s.toks (le_refl _)) (by show vs.toArray.size<=sizeLine;rw[size_toArray,h.length];exact Nat.le_trans hl cM)
theorem fG(I:Inv Z s G V)(h:aC G.ad vs xs)(hl:xs.length<=lim):Run Z prog w A fp G s (PySem.newTuple vs) (V++[.tup xs]) (bj (.ref V.length)):=
 dh (ob:=tH vs 0) I rfl (zt hl h rfl) λQ E q=>wpAny_newObj_type (q s.toks (le_refl _)) (by show vs.toArray.size<=sizeLine;rw[size_toArray,h.length];exact Nat.le_trans hl cM)
theorem Am{v:Value}(h:Q v s):(Made.val v).post Q s:=h
inductive tF(h:Heap)(ad:List Addr)(a:Addr)(xs:List PV)(k:List Value->Nat->Obj):Prop where
 |mk (hl:xs.length<=lim) (vs:List Value) (n:Nat) (g:h.get? a=some (k vs n)) (r:aC ad vs xs):tF h ad a xs k
theorem bp(I:Inv Z s G V)(ha:G.ad[i]?=some a)(e:V[i]?=some (.list xs)):tF s.heap G.ad a xs aT:=let⟨h,vs,n,g,r⟩:=(I.at e ha).2;⟨h,vs,n,g,r⟩
theorem iu(I:Inv Z s G V)(ha:G.ad[i]?=some a)(e:V[i]?=some (.tup xs)):tF s.heap G.ad a xs tH:=let⟨h,vs,n,g,r⟩:=(I.at e ha).2;⟨h,vs,n,g,r⟩
theorem lH{x:Int}(h:nK x=true):Builtin.Int.intBits x<=64:=by have:x.natAbs<2^60:=of_decide_eq_true h;exact intBits_le_64 (by lia) (by lia)
theorem gi(x y:Str)(h:(x.length==0)=true):x++y=y:=by have:x.cps= #[]:=Array.eq_empty_of_size_eq_zero (beq_iff_eq.mp h);refine(?_:(⟨x.cps++y.cps⟩:Str)=y);rw[this];simp
theorem c5(x y:Str)(h:(y.length==0)=true):x++y=x:=by have:y.cps= #[]:=Array.eq_empty_of_size_eq_zero (beq_iff_eq.mp h);refine(?_:(⟨x.cps++y.cps⟩:Str)=x);rw[this];simp
theorem iK(h:strOk x=true):x.length<=sizeLine:=Nat.le_trans (of_decide_eq_true h) cM
set_option tactic.hygienic true in
theorem qf{y:Str}{t u:Tok}(I:Inv Z s G V)(h:strOk (x++y)=true):Run Z prog w A fp G s (binaryOp .Add (.str x t) (.str y u)) V (bj (.str (x++y))):=by
 refine ay I λQ E q=>P.add_str ?_;split
 ·rename_i e;rw[gi x y e]at q h;exact q _ s.toks (le_refl _) ⟨⟨u,rfl⟩,h⟩
 ·split
  ·rename_i e;rw[c5 x y e]at q h;exact q _ s.toks (le_refl _) ⟨⟨t,rfl⟩,h⟩
  ·exact⟨iK h,q _ _ (le_succ _) ⟨⟨_,rfl⟩,h⟩⟩
theorem Cz(n:Nat)(x:Str):(⟨(List.replicate n x.cps).foldl (·++·) #[]⟩:Str)=iC n x:=by
 have key:∀(n:Nat) (acc:Array Nat),(List.replicate n x.cps).foldl (·++·) acc=acc++(iC n x).cps:=by
  intro n;induction n with
  |zero=>intro acc;exact Array.append_empty.symm
  |succ n ih=>intro acc;rw[replicate_succ,foldl_cons,ih];show _=acc++(x.cps++(iC n x).cps);rw[Array.append_assoc]
 rw[key];simp
theorem AI(n:Nat)(x:Str):(iC n x).length=n*x.length:=by
 induction n with
 |zero=>exact(Nat.zero_mul _).symm
 |succ n ih=>show(x.cps++(iC n x).cps).size=_;rw[Array.size_append];have:(iC n x).cps.size=n*x.cps.size:=ih;rw[this];show _=(n+1)*x.cps.size;rw[Nat.succ_mul];(exact add_comm ..)
set_option tactic.hygienic true in
theorem rW{n:Int}{t u:Tok}(I:Inv Z s G V)(hk:strOk (iC n.toNat x)=true)(h:x.length*n.toNat<=lim)(hn:n.natAbs<2^60):Run Z prog w A fp G s (binaryOp .Mult (.str x t) (.int n u)) V (bj (.str (iC n.toNat x))):=by
 refine ay I λQ E q=>P.mul_str (by simp;omega) (λh1 h2=>?_) (λh1 h2=>?_) ?_
 ·simp at h2;have hx:x.length<=x.length*n.toNat:=Nat.le_mul_of_pos_right _ (by omega);have hl:x.length*n.toNat<=1000000:=h;have:(x.length:Int)*n<=1000000:=by have e:(n.toNat:Int)=n:=Int.toNat_of_nonneg (by lia);have:=ofNat_le.mpr hl;rw[Int.natCast_mul,e]at this;exact this
  intro hc;have hc':(2^63-1)/n<(x.length:Int):=hc;have hd:(2^63-1:Int)<(x.length:Int)*n:=Int.lt_mul_of_ediv_lt (by lia) hc';lia
 ·have:x.length*n.toNat<=1000000:=h;unfold Builtin.Str.tooLong;simp[sizeLine_eq];(exact Nat.le_trans (by assumption) (le_add_left ..))
 ·split
  ·rename_i e;have:n.toNat=0:=by lia
   rw[this]at q hk;exact⟨by decide,q _ _ (le_succ _) ⟨⟨_,rfl⟩,hk⟩⟩
  ·split
   ·rename_i e1 e2;have:iC n.toNat x=x:=by
     simp at e2;rcases e2 with rfl|e2
     ·show x++⟨#[]⟩=x;exact c5 x _ rfl
     ·have hx:x=⟨#[]⟩:=by obtain⟨c⟩:=x;exact congrArg Str.mk (Array.eq_empty_of_size_eq_zero e2)
      subst hx;have:∀n,iC n ⟨#[]⟩=⟨#[]⟩:=λn=>by induction n with|zero=>rfl|succ n ih=>show(⟨#[]⟩:Str)++iC n ⟨#[]⟩=_;rw[ih];rfl
      exact this _
    rw[this]at q hk;exact q _ s.toks (le_refl _) ⟨⟨t,rfl⟩,hk⟩
   ·rw[Cz];exact⟨by rw[AI,Nat.mul_comm];exact Nat.le_trans h cM,q _ _ (le_succ _) ⟨⟨_,rfl⟩,hk⟩⟩
theorem pS{b:Addr}{ys:List PV}(I:Inv Z s G V)(ha:G.ad[i]?=some a)(hb:G.ad[j]?=some b)(ei:V[i]?=some (.list xs))(ej:V[j]?=some (.list ys))(hl:(xs++ys).length<=lim):Run Z prog w A fp G s (binaryOp .Add (.ref a) (.ref b)) (V++[.list (xs++ys)]) (bj (.ref V.length)):=by
 obtain⟨_,vs,n,h1,r1⟩:=bp I ha ei;obtain⟨_,us,k,h2,r2⟩:=bp I hb ej;have hz:vs.toArray.size+us.toArray.size<=sizeLine:=by rw[size_toArray,size_toArray,r1.length,r2.length,<-List.length_append];exact Nat.le_trans hl cM
 refine dh (ob:=aT (vs++us) 0) I rfl (dQ hl (r1.append r2) rfl) λQ E q=>P.add_list h1 h2 ?_ hz;have:=q s.toks (le_refl _);simpa using this
set_option tactic.hygienic true in
theorem pL{x:Int}{u:Tok}(I:Inv Z s G V)(ha:G.ad[i]?=some a)(ei:V[i]?=some (.list xs))(hk:(List.replicate x.toNat xs).flatten.length<=lim)(hl:xs.length*x.toNat<=lim)(hx:x.natAbs<2^60):Run Z prog w A fp G s (binaryOp .Mult (.ref a) (.int x u)) (V++[.list (List.replicate x.toNat xs).flatten]) (bj (.ref V.length)):=by
 obtain⟨_,vs,n,h1,r1⟩:=bp I ha ei;have key:∀(k:Nat) (acc:Array Value),(List.replicate k vs.toArray).foldl (·++·) acc=acc++(List.replicate k vs).flatten.toArray:=by
  intro k;induction k with
  |zero=>intro acc;simp
  |succ k ih=>intro acc;rw[replicate_succ,foldl_cons,ih,replicate_succ];simp[Array.append_assoc]
 have rr:∀k:Nat,aC G.ad (List.replicate k vs).flatten (List.replicate k xs).flatten:=by
  intro k;induction k with
  |zero=>exact .nil
  |succ k ih=>rw[replicate_succ,replicate_succ];exact r1.append ih
 have sz:vs.toArray.size*x.toNat<=1000000:=by rw[size_toArray,r1.length];exact hl
 have e:(List.foldl (λx1 x2=>x1++x2) #[] (List.replicate (if vs.toArray.isEmpty=true then 0 else x.toNat) vs.toArray))=(List.replicate x.toNat vs).flatten.toArray:=by
  split
  ·rename_i he;have hv:vs=[]:=by simpa using he
   subst hv;have:∀k:Nat,(List.replicate k ([]:List Value)).flatten=[]:=λk=>by simp
   rw[this];simp
  ·rw[key];simp
 refine dh (ob:=aT (List.replicate x.toNat vs).flatten 0) I rfl (dQ hk (rr _) rfl) λQ E q=>?_;refine wpAny_binaryOp_repeat_ref (T:="list") (U:="int") (by decide) ⟨_,h1,rfl⟩ (λs'=>typeIs_int s' x u) noFill_list_mul F.fills_int_mul F.slot_int_rmul repeat_list F.slot_int_index.lookup (call_meets F.slot_int_rmul (typeIs_int s x u) F.entry_int_rmul (F.args_int_rmul_2 _ _) (int___rmul___int_list x u a vs.toArray n) ⟨h1,rfl,⟨_,h1,rfl⟩,call_meets F.slot_list_mul ⟨_,h1,rfl⟩ F.entry_list_mul (F.args_list_mul_2 _ _) (AutoListH.list___mul___list_int_3 a vs.toArray n x u (by simp[Builtin.List.listFitsIndex];lia) (by lia) (by simp[Builtin.List.listTooLong,sizeLine_eq];simp at sz;(exact Nat.le_trans (by assumption) (le_add_left ..)))) ⟨h1,?_⟩⟩);rw[e];exact q s.toks (le_refl _)
theorem cu{v:Value}(h:az G.ad v (.ref i)):∃a,G.ad[i]?=some a/\v=.ref a:=h
theorem cf{x:Value}{i:Int}(e:cL v=some i)(r:az ad x v):∃t,x=.int i t:=by cases v<;>cases e;exact r
theorem gw{x:Value}{y:Str}(e:gf v=some y)(r:az ad x v):∃t,x=.str y t:=by cases v<;>cases e;exact r.1
theorem eH(e:c4 o=some xs):o=.list xs:=by cases o<;>cases e;rfl
theorem t6{a b:PV}(h:Ei a b V=some (v,V'))(I:Inv Z s G V)(ra:az G.ad va a)(rb:az G.ad vb b):Run Z prog w A fp G s (binaryOp .Add va vb) V' (bj v):=by
 cases a<;>first|exact(aQ h).elim|(cases h;done)|skip
 ·refine ah h λy e h=>?_;obtain⟨t,rfl⟩:=ra;obtain⟨u,rfl⟩:=cf e rb;obtain⟨rfl,rfl⟩:=af h;exact ay I λQ E q=>P.add_int (q _ _ (le_succ _) ⟨_,rfl⟩)
 ·refine ah h λy e h=>ag h λhm h=>?_;obtain⟨⟨t,rfl⟩,_⟩:=ra;obtain⟨u,rfl⟩:=gw e rb;obtain⟨rfl,rfl⟩:=af h;exact qf I hm
 ·obtain⟨a,ha,rfl⟩:=cu ra;cases b<;>first|exact(aQ h).elim|(cases h;done)|skip
  obtain⟨b,hb,rfl⟩:=cu rb;refine aM h λoi e1 h=>ah h λxs f1 h=>aM h λoj e2 h=>ah h λys f2 h=>ag h λhm h=>?_;rw[eH f1]at e1;rw[eH f2]at e2;obtain⟨rfl,rfl⟩:=bJ h;exact pS I ha hb e1 e2 (of_decide_eq_true hm)
theorem sC{a:PV}{y:Int}{u:Tok}(h:Dh a y V=some (v,V'))(I:Inv Z s G V)(ra:az G.ad va a):Run Z prog w A fp G s (binaryOp .Mult va (.int y u)) V' (bj v):=by
 cases a<;>first|exact(aQ h).elim|(cases h;done)|skip
 ·refine ag h λhm h=>?_;obtain⟨t,rfl⟩:=ra;obtain⟨rfl,rfl⟩:=af h;refine ay I λQ E q=>P.mul_int (q _ _ (le_succ _) ⟨_,rfl⟩) ?_;exact(Bool.or_eq_true_iff.mp hm).elim (λhm=>IntMulOk.of_left (lH hm)) λhm=>IntMulOk.of_right (lH hm)
 ·refine ag h λhm h=>ag h λhm' h=>?_;obtain⟨⟨t,rfl⟩,_⟩:=ra;have hm:=of_decide_eq_true hm;obtain⟨rfl,rfl⟩:=af h;exact rW I hm' hm.1 hm.2
 ·refine aM h λoi e1 h=>ah h λxs f1 h=>ag h λhm h=>ag h λhm' h=>?_;obtain⟨a,ha,rfl⟩:=cu ra;rw[eH f1]at e1;have hm:=of_decide_eq_true hm;obtain⟨rfl,rfl⟩:=bJ h;exact pL I ha e1 (of_decide_eq_true hm') hm.1 hm.2
theorem sS{x y:Int}{t u:Tok}(h:FZ op x y V=some (v,V'))(I:Inv Z s G V):Run Z prog w A fp G s (binaryOp op (.int x t) (.int y u)) V' (bj v):=by
 cases op<;>first|exact(aQ h).elim|(cases h;done)|skip
 ·obtain⟨rfl,rfl⟩:=af h;exact ay I λQ E q=>P.sub_int (q _ _ (le_succ _) ⟨_,rfl⟩)
 ·refine ag h λhm h=>?_;have hm:=of_decide_eq_true hm;obtain⟨rfl,rfl⟩:=af h;exact ay I λQ E q=>mod_int' hm.1 (q _ _ (le_succ _) ⟨_,rfl⟩)
 ·refine ag h λhm h=>?_;have hm:=of_decide_eq_true hm;obtain⟨rfl,rfl⟩:=af h;exact ay I λQ E q=>floordiv_int hm.1 (q _ _ (le_succ _) ⟨_,rfl⟩) (Or.inl (PyProof.noPylong_small (lt_of_lt_of_le hm.2 (by decide))))
theorem tv{a b:PV}(h:hY op a b V=some (v,V'))(I:Inv Z s G V)(ra:az G.ad va a)(rb:az G.ad vb b):Run Z prog w A fp G s (binaryOp op va vb) V' (bj v):=by
 have plain:(do let x<-lift (cL a);let y<-lift (cL b);FZ op x y:Mo PV) V=some (v,V')->Run Z prog w A fp G s (binaryOp op va vb) V' (bj v):=λh=>
  ah h λx e1 h=>ah h λy e2 h=>by obtain⟨t,rfl⟩:=cf e1 ra;obtain⟨u,rfl⟩:=cf e2 rb;exact sS h I
 cases op
 case Add=>exact t6 h I ra rb
 case Mult=>refine ah h λy e h=>?_;obtain⟨u,rfl⟩:=cf e rb;exact sC h I ra
 all_goals exact plain h
theorem pq(x y:Int):(x==y)=decide (x=y):=by by_cases h:x=y<;>simp[h]
theorem D2(x y:Str):(x==y)=decide (x=y):=by by_cases h:x=y<;>simp[h]
theorem qJ(x y:Str):(x.cps.toList==y.cps.toList)=decide (x=y):=by
 by_cases h:x=y
 ·subst h;simp
 ·have:¬x.cps.toList=y.cps.toList:=λe=>h (by obtain⟨⟨a⟩⟩:=x;obtain⟨⟨b⟩⟩:=y;exact congrArg (λl=>Str.mk (Array.mk l)) e);rw[decide_eq_false h];exact beq_eq_false_iff_ne.mpr this
theorem qG{f:PV->PV->Option Bool}:∀{ys:List PV} {r:Bool},Hy f xs ys=some r->xs.length=ys.length->∃e:Nat->Bool,(∀j x y,xs[j]?=some x->ys[j]?=some y->f x y=some (e j))/\r=(List.range xs.length).all e:=by
 induction xs with
 |nil=>intro ys r h hl;cases h;exact⟨λ_=>true,⟨λj x y h=>(nomatch h),rfl⟩⟩
 |cons x xs ih=>intro ys r h hl;cases ys with
  |nil=>cases hl
  |cons y ys=>
   obtain⟨p,e1,h⟩:=bind_eq_some_iff.mp h;obtain⟨q,e2,rfl⟩:=map_eq_some_iff.mp h;obtain⟨e,h1,h2⟩:=ih e2 (Nat.succ.inj hl);refine⟨λj=>Nat.casesOn j p e,λj a b ha hb=>?_,?_⟩
   ·cases j with
    |zero=>cases ha;cases hb;exact e1
    |succ j=>exact h1 j a b ha hb
   ·rw[h2,length_cons,List.range_succ_eq_map,all_cons,List.all_map];rfl
theorem jz{α:Type}{k:Int->Option α}{r:α}(h:f9 v k=some r):∃x,v=.int x/\k x=some r:=by cases v<;>first|exact⟨_,rfl,h⟩|cases h
theorem i0{α:Type}{k:Str->Option α}{r:α}(h:onStr v k=some r):∃x,v=.str x/\k x=some r:=by cases v<;>first|exact⟨_,rfl,h⟩|cases h
theorem r5{r:Addr}(h:y1 v=some r):v=.obj r:=by cases v<;>cases h;rfl
theorem gY(h:c4 o=some xs):o=.list xs:=by cases o<;>cases h;rfl
theorem lY(h:vJ o=some xs):o=.tup xs:=by cases o<;>cases h;rfl
theorem b8{r:Nat}(h:bX v=some r):v=.ref r:=by cases v<;>cases h;rfl
theorem G7(I:Inv Z s G V){b:Addr}(ha:G.ad[i]?=some a)(hb:G.ad[j]?=some b)(hij:i≠j):a≠b:=λq=>by
 subst q;obtain⟨oi,ei⟩:∃o,V[i]?=some o:=by
  have:i<V.length:=by rw[<-I.len];exact(List.getElem?_eq_some_iff.mp ha).1
  exact⟨_,List.getElem?_eq_getElem this⟩
 obtain⟨oj,ej⟩:∃o,V[j]?=some o:=by
  have:j<V.length:=by rw[<-I.len];exact(List.getElem?_eq_some_iff.mp hb).1
  exact⟨_,List.getElem?_eq_getElem this⟩
 have h1:=(I.at ei ha).1;have h2:=(I.at ej hb).1;rw[h1]at h2;cases h2;exact hij rfl
theorem uL(ih:∀{a b:PV} {r:Bool} {A:Around} {va vb:Value},nY n V a b=some r->Inv Z s G V->az G.ad va a->az G.ad vb b->A.units+n<cLine->EqAt A s va vb r) {r:Bool}{b:Addr}(h:(if i=j then none else(V[i]?).bind λo=>(V[j]?).bind λo'=>Jo (nY n V) o' o)=some r)(I:Inv Z s G V)(ha:G.ad[i]?=some a)(hb:G.ad[j]?=some b)(hu:A.units+(n+1)<cLine):a≠b/\RcAt A s (.ref a) (.ref b) r/\RcNeAt A s (.ref a) (.ref b) (!r):=by
 by_cases hij:i=j
 ·rw[if_pos hij]at h;cases h
 rw[if_neg hij]at h;refine⟨G7 I ha hb hij,?_⟩;obtain⟨o,e1,h⟩:=bind_eq_some_iff.mp h;obtain⟨o',e2,h⟩:=bind_eq_some_iff.mp h;have hu':A.units+1+n<cLine:=by rw[Nat.add_assoc,add_comm 1 n];exact hu
 have hu1:A.units<cLine:=lt_of_le_of_lt (le_add_right _ _) hu;have elems:∀{xs ys:List PV} {vs us:List Value} {e:Nat->Bool},aC G.ad vs xs->aC G.ad us ys->(∀j x y,xs[j]?=some x->ys[j]?=some y->nY n V x y=some (e j))->∀j (z1:j<vs.toArray.size) (z2:j<us.toArray.size),EqAt A.in1 s vs.toArray[j] us.toArray[j] (e j):=by intro xs ys vs us e r1 r2 h1 j z1 z2;have z1':j<xs.length:=r1.length▸(size_toArray▸z1);have z2':j<ys.length:=r2.length▸(size_toArray▸z2);obtain⟨v,q1,p1⟩:=r1.get (List.getElem?_eq_getElem z1');obtain⟨u,q2,p2⟩:=r2.get (List.getElem?_eq_getElem z2');have i1:vs.toArray[j]=v:=(List.getElem?_eq_some_iff.mp q1).2;have i2:us.toArray[j]=u:=(List.getElem?_eq_some_iff.mp q2).2;rw[i1,i2];exact ih (h1 j _ _ (List.getElem?_eq_getElem z1') (List.getElem?_eq_getElem z2')) I p1 p2 hu'
 have hsz:∀{vs:List Value} {xs:List PV},aC G.ad vs xs->vs.toArray.size=xs.length:=λr=>size_toArray.trans r.length;cases o with
 |list xs=>
  obtain⟨ys,e,h2⟩:=bind_eq_some_iff.mp h;clear h;cases gY e;obtain⟨_,vs,k,g1,r1⟩:=bp I ha e1;obtain⟨_,us,k',g2,r2⟩:=bp I hb e2;by_cases hl:xs.length=ys.length
  ·rw[if_pos hl]at h2;obtain⟨e,h1,rfl⟩:=qG h2 hl;have hz:vs.toArray.size=us.toArray.size:=(hsz r1).trans (hl.trans (hsz r2).symm);rw[<-hsz r1];exact⟨RcAt.lists ⟨_,g1,rfl,k,rfl⟩ ⟨_,g2,rfl,k',rfl⟩ hz hu1 (elems r1 r2 h1),RcNeAt.lists ⟨_,g1,rfl,k,rfl⟩ ⟨_,g2,rfl,k',rfl⟩ hz hu1 (elems r1 r2 h1)⟩
  ·rw[if_neg hl]at h2;cases h2;have hz:(vs.toArray.size !=us.toArray.size)=true:=bne_iff_ne.mpr (by rw[hsz r1,hsz r2];exact hl);exact⟨RcAt.lists_lengths ⟨_,g1,rfl,k,rfl⟩ ⟨_,g2,rfl,k',rfl⟩ hz hu1,RcNeAt.lists_lengths ⟨_,g1,rfl,k,rfl⟩ ⟨_,g2,rfl,k',rfl⟩ hz hu1⟩
 |tup xs=>
  obtain⟨ys,e,h2⟩:=bind_eq_some_iff.mp h;clear h;cases lY e;obtain⟨_,vs,k,g1,r1⟩:=iu I ha e1;obtain⟨_,us,k',g2,r2⟩:=iu I hb e2;by_cases hl:xs.length=ys.length
  ·rw[if_pos hl]at h2;obtain⟨e,h1,rfl⟩:=qG h2 hl;have t1:=RcAt.tuples (A:=A) (s:=s) (l:=a) (b:=b) (e:=e) ⟨_,g1,rfl,k,rfl⟩ ⟨_,g2,rfl,k',rfl⟩ hu1 (elems r1 r2 h1);have t2:=RcNeAt.tuples (A:=A) (s:=s) (l:=a) (b:=b) (e:=e) ⟨_,g1,rfl,k,rfl⟩ ⟨_,g2,rfl,k',rfl⟩ hu1 (elems r1 r2 h1);rw[hsz r1,(hsz r2).trans hl.symm,Nat.min_self,beq_self_eq_true,Bool.and_true]at t1 t2;exact⟨t1,t2⟩
  ·rw[if_neg hl]at h2;cases h2
 |_=>cases h
theorem B1:∀{a b:PV} {r:Bool} {A:Around} {va vb:Value},nY n V a b=some r->Inv Z s G V->az G.ad va a->az G.ad vb b->A.units+n<cLine->EqAt A s va vb r:=by
 induction n with
 |zero=>intro a b r A va vb h;cases h
 |succ n ih=>
  intro a b r A va vb h I ra rb hu;cases a with
  |int x=>obtain⟨y,rfl,h2⟩:=jz h;obtain rfl:=Option.some.inj h2;obtain⟨t,rfl⟩:=ra;obtain⟨u,rfl⟩:=rb;rw[<-pq];exact EqAt.int_int _ _ _ _
  |str x=>obtain⟨y,rfl,h2⟩:=i0 h;obtain rfl:=Option.some.inj h2;obtain⟨⟨t,rfl⟩,_⟩:=ra;obtain⟨⟨u,rfl⟩,_⟩:=rb;rw[<-D2];exact EqAt.str_str _ _ _ _
  |ref i=>obtain⟨j,e,h⟩:=bind_eq_some_iff.mp h;cases b8 e;obtain⟨a,ha,rfl⟩:=cu ra;obtain⟨b,hb,rfl⟩:=cu rb;obtain⟨ne,z,_⟩:=uL ih h I ha hb hu;exact EqAt.of_refs ne z
  |_=>cases h
theorem vB{a b:PV}{r:Bool}(h:nY n V a b=some r)(I:Inv Z s G V)(ra:az G.ad va a)(rb:az G.ad vb b)(hu:A.units+n<cLine):Run Z prog w A fp G s (compareOp .Eq va vb) V (bj (.bool r))/\Run Z prog w A fp G s (compareOp .NotEq va vb) V (bj (.bool (!r))):=by
 cases n with
 |zero=>cases h
 |succ n=>
  cases a with
  |int x=>obtain⟨y,rfl,h2⟩:=jz h;obtain rfl:=Option.some.inj h2;obtain⟨t,rfl⟩:=ra;obtain⟨u,rfl⟩:=rb;rw[<-pq];exact⟨ay I λQ E q=>P.eq_int (q _ s.toks (le_refl _) rfl),ay I λQ E q=>P.ne_int (q _ s.toks (le_refl _) rfl)⟩
  |str x=>obtain⟨y,rfl,h2⟩:=i0 h;obtain rfl:=Option.some.inj h2;obtain⟨⟨t,rfl⟩,_⟩:=ra;obtain⟨⟨u,rfl⟩,_⟩:=rb;rw[<-qJ];exact⟨ay I λQ E q=>P.eq_str (q _ s.toks (le_refl _) rfl),ay I λQ E q=>P.ne_str (q _ s.toks (le_refl _) rfl)⟩
  |ref i=>obtain⟨j,e,h⟩:=bind_eq_some_iff.mp h;cases b8 e;obtain⟨a,ha,rfl⟩:=cu ra;obtain⟨b,hb,rfl⟩:=cu rb;obtain⟨ne,z1,z2⟩:=uL B1 h I ha hb hu;exact⟨ay I λQ E q=>z1 prog w E Q (q _ s.toks (le_refl _) rfl),ay I λQ E q=>z2 prog w E Q (q _ s.toks (le_refl _) rfl)⟩
  |_=>cases h
theorem fV{op:CmpOp}{a b:PV}(h:kN op a b V=some (v,V'))(I:Inv Z s G V)(ra:az G.ad va a)(rb:az G.ad vb b)(hu:A.units+4<cLine):Run Z prog w A fp G s (compareOp op va vb) V' (bj v):=by
 have intz:∀{f:Int->Int->Bool},(f9 a λx=>f9 b λy=>some (PV.bool (f x y),V))=some (v,V')->(∀x y t u,Run Z prog w A fp G s (compareOp op (.int x t) (.int y u)) V (bj (.bool (f x y))))->Run Z prog w A fp G s (compareOp op va vb) V' (bj v):=by intro f h k;obtain⟨x,rfl,h1⟩:=jz h;obtain⟨y,rfl,h2⟩:=jz h1;obtain⟨rfl,rfl⟩:=af h2;obtain⟨t,rfl⟩:=ra;obtain⟨u,rfl⟩:=rb;exact k x y t u
 cases op with
 |Eq=>obtain⟨r,e,h⟩:=map_eq_some_iff.mp h;cases h;exact(vB e I ra rb hu).1
 |NotEq=>obtain⟨r,e,h⟩:=map_eq_some_iff.mp h;cases h;exact(vB e I ra rb hu).2
 |Lt=>exact intz h λx y t u=>ay I λQ E q=>P.lt_int (q _ s.toks (le_refl _) rfl)
 |LtE=>exact intz h λx y t u=>ay I λQ E q=>P.le_int (q _ s.toks (le_refl _) rfl)
 |Gt=>exact intz h λx y t u=>ay I λQ E q=>P.gt_int (q _ s.toks (le_refl _) rfl)
 |In=>obtain⟨x,rfl,h1⟩:=i0 h;obtain⟨y,rfl,h2⟩:=i0 h1;cases h2;obtain⟨⟨t,rfl⟩,_⟩:=ra;obtain⟨⟨u,rfl⟩,_⟩:=rb;exact ay I λQ E q=>P.in_str (q _ s.toks (le_refl _) rfl)
 |GtE=>exact intz h λx y t u=>ay I λQ E q=>P.ge_int (q _ s.toks (le_refl _) rfl)
 |_=>cases h
theorem bL{x:Value}(h:fR v V=some (b,V'))(I:Inv Z s G V)(r:az G.ad x v):Run Z prog w A fp G s (truthy x) V' (ub b):=by
 cases v with
 |none=>obtain⟨rfl,rfl⟩:=af h;cases r;exact ay I λQ E q=>truthy_none (q _ s.toks (le_refl _) rfl)
 |bool b=>obtain⟨rfl,rfl⟩:=af h;cases r;exact ay I λQ E q=>wpAny_truthy_bool (q _ s.toks (le_refl _) rfl)
 |int i=>obtain⟨rfl,rfl⟩:=af h;obtain⟨t,rfl⟩:=r;refine ay I λQ E q=>P.truthy_int (q _ s.toks (le_refl _) ?_);refine(?_:(!(i==0))=_);rw[pq,decide_not]
 |str x=>
  obtain⟨rfl,rfl⟩:=af h;obtain⟨⟨t,rfl⟩,hk⟩:=r;have hk:x.length<=1000000:=of_decide_eq_true hk;refine ay I λQ E q=>P.truthy_str (by lia) (q _ _ (le_add_right _ 2) ?_);refine(?_:(!((x.length:Int)==0))=decide (x.length≠0));by_cases hi:x.length=0
  ·rw[hi];rfl
  ·rw[beq_eq_false_iff_ne.mpr (show(x.length:Int)≠0 from λe=>hi (Int.ofNat.inj e)),decide_eq_true hi];rfl
 |ref i=>refine aM h λo e h=>ah h λxs ex h=>?_;obtain rfl:=gY ex;obtain⟨rfl,rfl⟩:=af h;obtain⟨a,ha,rfl⟩:=cu r;obtain⟨hl,vs,k,g1,r1⟩:=bp I ha e;have hz:(vs.toArray.size:Int)<2^63:=ofNat_lt.mpr (by rw[size_toArray,r1.length];exact lt_of_le_of_lt hl (by decide));refine ay I λQ E q=>wpAny_truthy_list (items:=vs.toArray) ⟨_,g1,rfl,k,rfl⟩ hz (q _ _ (le_add_right _ 2) ?_);cases r1<;>rfl
 |_=>cases h
set_option tactic.hygienic true in
theorem fC{k:Int}(h:place k n=some j):seqIndex? k n=some j/\j<n/\(0<=k->k<n/\j=k.toNat)/\(k<0-> -(n:Int)<=k/\j=(k+n).toNat):=by
 unfold place at h;unfold seqIndex?;dsimp only at h;by_cases hk:k<0
 ·simp-iota only[hk,if_true]at h⊢;split at h
  ·rename_i q;cases h;refine⟨by simp[q],by simp_all,λh=>by grind_order,λ_=>⟨by lia,rfl⟩⟩
  ·cases h
 ·simp-iota only[hk,if_false]at h⊢;split at h
  ·rename_i q;cases h;refine⟨by simp[q],by simp_all,λ_=>⟨by simp_all,rfl⟩,λh=>False.elim h⟩
  ·cases h
theorem uT(m:Nat):(max 0 (m:Int)).toNat=m:=by rw[Int.max_eq_right (natCast_nonneg m)];rfl
theorem wx(j n:Nat):min (j:Int) (n:Int)=((min j n:Nat):Int):=by
 rcases le_total j n with h|h
 ·rw[min_eq_left h,Int.min_eq_left (ofNat_le.mpr h)]
 ·rw[Nat.min_eq_right h,Int.min_eq_right (ofNat_le.mpr h)]
theorem H0(a b:Nat):(max (a:Int) (b:Int)).toNat=max a b:=by
 rcases le_total a b with h|h
 ·rw[Int.max_eq_right (ofNat_le.mpr h),Nat.max_eq_right h];rfl
 ·rw[Int.max_eq_left (ofNat_le.mpr h),Nat.max_eq_left h];rfl
theorem G8{x:Int}(h:x.toNat=n+1):(x-1).toNat=n:=by
 cases x with
 |ofNat k=>obtain rfl:k=n+1:=h;refine(?_:(((n:Int)+1)-1).toNat=n);rw[Int.add_sub_cancel];rfl
 |negSucc k=>cases h
theorem A0{x:Int}{B:Nat}(h:x.natAbs<=B): -(B:Int)<=x/\x<=B:=by
 cases x with
 |ofNat k=>exact⟨Int.le_trans (Int.neg_nonpos_of_nonneg (natCast_nonneg B)) (natCast_nonneg k),ofNat_le.mpr h⟩
 |negSucc k=>exact⟨Int.neg_le_neg (ofNat_le.mpr h),Int.le_trans (Int.le_of_lt (Int.negSucc_lt_zero k)) (natCast_nonneg B)⟩
theorem ft(j d n:Nat):eg (some (j:Int)) d n=min j n:=by unfold eg;dsimp only;rw[if_neg (Int.not_lt.mpr (natCast_nonneg j)),wx,uT]
set_option tactic.hygienic true in
theorem rJ(k d n:Nat):eg (some (-((k:Int)+1))) d n=n-(k+1):=by
 show(max 0 (min (if Int.negSucc k<0 then Int.negSucc k+(n:Int)else Int.negSucc k) (n:Int))).toNat=_;rw[if_pos (Int.negSucc_lt_zero k),Int.negSucc_add_ofNat];unfold Int.subNatNat;split
 ·rename_i h;refine(?_:(max 0 (min ((n-k.succ:Nat):Int) (n:Int))).toNat=_);rw[wx,uT,min_eq_left (sub_le _ _)]
 ·rename_i m h;rw[Nat.sub_eq_zero_of_le (Nat.le_of_lt (Nat.lt_of_sub_eq_succ h)),Int.min_eq_left (Int.le_trans (Int.le_of_lt (Int.negSucc_lt_zero m)) (natCast_nonneg n)),Int.max_eq_left (Int.le_of_lt (Int.negSucc_lt_zero m))];rfl
theorem vg(v:Option Int)(d n:Nat)(hd:d<=n):eg v d n<=n:=by
 match v with
 |none=>exact hd
 |some (.ofNat j)=>exact ft j d n▸Nat.min_le_right ..
 |some (.negSucc k)=>exact rJ k d n▸sub_le ..
theorem jW(lo hi:Option Int)(n:Nat):sliceBounds lo hi none n=(((eg lo 0 n:Nat):Int),((eg hi n n:Nat):Int),(1:Int)):=by
 unfold sliceBounds eg;simp-iota only[Option.getD_none,show(1:Int)>0 by decide,if_true];congr 1
 ·cases lo with
  |none=>rfl
  |some i=>dsimp only;simp
 ·congr 1;cases hi with
  |none=>rfl
  |some i=>dsimp only;simp_all
theorem im(items:Array Value)(lo hi:Option Int):slicePick items lo hi none=(c9 items.toList lo hi).toArray:=by unfold slicePick c9;rw[jW];dsimp only;rw[sliceRange_one,pick_run];simp
theorem jY{k:Int}{t:Tok}(I:Inv Z s G V)(g:s.heap.get? a=some (aT vs n))(r:aC G.ad vs xs)(hl:xs.length<=lim) (hp:place k xs.length=some j)(hv:xs[j]?=some v):Run Z prog w A fp G s (getItem (.ref a) (.int k t)) V (bj v):=by
 obtain⟨_,hj,hpos,hneg⟩:=fC hp;obtain⟨x,hx,rx⟩:=r.get hv;have hL:s.heap.IsList a vs.toArray:=⟨_,g,rfl,n,rfl⟩;have hn:=r.length;have:lim=1000000:=rfl;refine ay I λQ E q=>?_;by_cases h0:0<=k
 ·obtain⟨h1,h2⟩:=hpos h0;exact wpAny_getItem_list hL h0 (by lia) (by rw[<-h2];simpa using hx) (q _ s.toks (le_refl _) rx)
 ·obtain⟨h1,h2⟩:=hneg (by(exact Int.not_le.mp (by assumption)));refine wpAny_getItem_list_neg hL (by lia) (by simp;simp_all) (by lia) ?_ (q _ s.toks (le_refl _) rx);have e:(k+(vs.toArray.size:Nat)).toNat=j:=by rw[size_toArray,hn,h2]
  rw[e];simpa using hx
theorem kG{k:Int}{t:Tok}(I:Inv Z s G V)(g:s.heap.get? a=some (tH vs n))(r:aC G.ad vs xs)(hl:xs.length<=lim) (hp:place k xs.length=some j)(hv:xs[j]?=some v):Run Z prog w A fp G s (getItem (.ref a) (.int k t)) V (bj v):=by
 obtain⟨h1,hj,hpos,hneg⟩:=fC hp;obtain⟨x,hx,rx⟩:=r.get hv;have hn:=r.length;have:lim=1000000:=rfl;have b1: -2^63<=k:=by
  by_cases h0:0<=k
  ·lia
  ·have:=hneg (by lia);lia
 have b2:k<2^63:=by
  by_cases h0:0<=k
  ·have:=hpos h0;lia
  ·lia
 exact ay I λQ E q=>P.getItem_tuple (items:=vs.toArray) (n:=n) g b1 b2 (by rw[size_toArray,hn];exact h1) (by simpa using hx) (q _ s.toks (le_refl _) rx)
theorem kI{c:Nat}{k:Int}{t u:Tok}(I:Inv Z s G V)(hl:strOk x=true) (hp:place k x.length=some j)(hv:x.cps[j]?=some c):Run Z prog w A fp G s (getItem (.str x u) (.int k t)) V (bj (.str (ca c))):=by
 obtain⟨h1,hj,hpos,hneg⟩:=fC hp;have hl:x.length<=1000000:=of_decide_eq_true hl;have b1: -2^63<=k:=by
  by_cases h0:0<=k
  ·lia
  ·have:=hneg (by lia);lia
 have b2:k<2^63:=by
  by_cases h0:0<=k
  ·have:=hpos h0;omega
  ·lia
 refine ay I λQ E q=>P.getItem_str (by simp;simp_all) (by rw[h1];exact hv) (q _ _ (le_succ _) ⟨⟨_,rfl⟩,decide_eq_true (by show 1<=1000000;decide)⟩)
theorem gA{x:Value}(g:s.heap.get? a=some (aT vs n))(hx:vs[if b then 1 else 0]?=some x)(h:Q x s):wpAny (model prog w) A (getItem (.ref a) (.bool b)) Q E s:=by
 have hL:s.heap.IsList a vs.toArray:=⟨_,g,rfl,n,rfl⟩;have key:∀{Q:Option Int->Shared->Prop} {A:Around} {E:Value->Shared->Prop},Q (some (if b then 1 else 0)) s->wpAny (model prog w) A (Builtin.List.listSubscript? (.bool b)) Q E s:=by intro Q A E hq;unfold Builtin.List.listSubscript?;refine wpAny_bind (wpAny_specialOf (T:="bool") (PySem.typeIs_bool s b) F.slot_bool_index.lookup ?_);refine(?_:wpAny _ A (asIndex (.bool b)>>=_) Q E s);refine wpAny_bind (wpAny_of_eq (a:=if b then 1 else 0) (by cases b<;>rfl) ?_);show wpAny _ A (if(!Builtin.List.listFitsIndex _)=true then _ else _) Q E s;rw[if_neg (by cases b<;>decide)];exact wpAny_pure hq
 unfold getItem
 try with_reducible refine wpAny_holding ?_
 first|refine wpAny_bind (wpAny_pure ?_)|skip
 refine wpAny_bind (wpAny_sequenceKey hL.typeIs (by decide) ?_);refine wpAny_bind (wpAny_callSpecial?_slot (name:=Str.ofString "__getitem__") hL.typeIs slot_list_getitem (wpAny_call_entry slot_list_getitem hL.typeIs entry_list_getitem ?_ (args_list_getitem _ _)));refine(?_:wpAny _ _ (Builtin.List.listSubscript? (.bool b)>>=_) _ _ s);refine wpAny_bind (key ?_);have hx':vs.toArray[if b then 1 else 0]?=some x:=by simpa using hx
 cases b
 ·refine(?_:wpAny _ _ ((seqItemAt a 0>>=λr=>pure (r.map (0,·)))>>=_) _ _ s);refine wpAny_bind (wpAny_bind (wpAny_seqItemAt g rfl (wpAny_pure ?_)));rw[show vs.toArray[0]?=some x from hx']
  first
   |exact wpAny_bind (wpAny_pure (wpAny_pure ⟨x,rfl,wpAny_pure h⟩))
   |exact wpAny_pure ⟨x,rfl,wpAny_pure h⟩
 ·refine(?_:wpAny _ _ ((seqItemAt a 1>>=λr=>pure (r.map (1,·)))>>=_) _ _ s);refine wpAny_bind (wpAny_bind (wpAny_seqItemAt g rfl (wpAny_pure ?_)));rw[show vs.toArray[1]?=some x from hx']
  first
   |exact wpAny_bind (wpAny_pure (wpAny_pure ⟨x,rfl,wpAny_pure h⟩))
   |exact wpAny_pure ⟨x,rfl,wpAny_pure h⟩
noncomputable def gm(v:Value):Option Int->Prop
 |none=>v=.none
 |some i=>∃t,v=.int i t
theorem gm.isPart{v:Value}{o:Option Int}(h:gm v o):IsPart v o:=by
 cases o with
 |none=>cases h;exact .none
 |some i=>obtain⟨t,rfl⟩:=h;exact .int i t
theorem gm.value{v:Value}{o:Option Int}(h:gm v o):∃l,v=partValue l/\l.map (·.1)=o:=by
 cases o with
 |none=>cases h;exact⟨none,rfl,rfl⟩
 |some i=>obtain⟨t,rfl⟩:=h;exact⟨some (i,t),rfl,rfl⟩
noncomputable abbrev bw(l u:Value):Obj:={cls:=.type "slice",data:=.fields #[l,u,.none]}
theorem kU{α:Type}(xs:List α)(lo hi:Option Int):(c9 xs lo hi).length<=xs.length:=by unfold c9;rw[length_take,length_drop];exact Nat.le_trans (Nat.min_le_right ..) (sub_le ..)
theorem n6(r:aC ad vs xs)(lo hi:Option Int):aC ad (c9 vs lo hi) (c9 xs lo hi):=by unfold c9;rw[r.length];exact(r.drop _).take _
theorem gO{l:Value}{lo hi:Option Int}(I:Inv Z s G V)(g:s.heap.get? a=some (aT vs n))(r:aC G.ad vs xs)(hl:xs.length<=lim) (gs:s.heap.get? sl=some (bw l u))(pl:gm l lo)(pu:gm u hi):Run Z prog w A fp G s (getItem (.ref a) (.ref sl)) (V++[.list (c9 xs lo hi)]) (bj (.ref V.length)):=by have hL:s.heap.IsList a vs.toArray:=⟨_,g,rfl,n,rfl⟩;refine dh (ob:=aT (c9 vs lo hi) 0) I rfl (dQ (Nat.le_trans (kU _ _ _) hl) (n6 r _ _) rfl) λQ E q=>?_;refine wpAny_getItem_list_slice hL ⟨_,gs,rfl,rfl⟩ pl.isPart pu.isPart .none (by simp) ?_ (by rw[size_toArray,r.length];exact Nat.le_trans hl cM);rw[im];exact q s.toks (le_refl _)
set_option tactic.hygienic true in
theorem nd{t:Tok}{l:Value}{lo hi:Option Int}(I:Inv Z s G V)(hx:strOk x=true) (gs:s.heap.get? sl=some (bw l u))(pl:gm l lo)(pu:gm u hi):Run Z prog w A fp G s (getItem (.str x t) (.ref sl)) V (bj (.str ⟨(c9 x.cps.toList lo hi).toArray⟩)):=by
 obtain⟨pl',rfl,el⟩:=pl.value;obtain⟨pu',rfl,eu⟩:=pu.value;have e:slicePicked x pl' pu' none=(List.range (eg hi x.length x.length-eg lo 0 x.length)).map (eg lo 0 x.length+·):=by unfold slicePicked;rw[el,eu];refine(?_:sliceRange (sliceBounds lo hi none x.length).1 (sliceBounds lo hi none x.length).2.1 1=_);rw[jW];exact sliceRange_one _ _
 have pk:(slicePicked x pl' pu' none).filterMap (x.cps[·]?)=c9 x.cps.toList lo hi:=by rw[e,pick_run];rfl
 have hz:strOk ⟨(c9 x.cps.toList lo hi).toArray⟩=true:=by have h1:=kU x.cps.toList lo hi;have h2:x.cps.size<=lim:=of_decide_eq_true hx;refine decide_eq_true ?_;refine(?_:(c9 x.cps.toList lo hi).toArray.size<=lim);rw[size_toArray];exact Nat.le_trans h1 (by rw[Array.length_toList];exact h2)
 refine ay I λQ E q=>wpAny_getItem_str_slice (l:=pl') (u:=pu') (st:=none) ⟨_,gs,rfl,rfl⟩ rfl ?_;unfold sliceMade;split
 ·rename_i hc;have hc:(slicePicked x pl' pu' none).length=x.length:=by simpa using hc
  refine Am ?_;have hw:(⟨(c9 x.cps.toList lo hi).toArray⟩:Str)=x:=by
   rw[e,length_map,length_range]at hc;have h1:=vg lo 0 x.length (zero_le _);have h2:=vg hi x.length x.length (le_refl _);have h3:x.length=x.cps.toList.length:=by simp[Str.length]
   have key:eg lo 0 x.length=0/\eg hi x.length x.length=x.length∨x.length=0:=by lia
   have:c9 x.cps.toList lo hi=x.cps.toList:=by
    unfold c9;rw[<-h3];rcases key with⟨k1,k2⟩|k
    ·rw[k1,k2,h3];dsimp only;rw[List.drop_zero,Nat.sub_zero,List.take_length]
    ·have:x.cps.toList=[]:=List.eq_nil_of_length_eq_zero (by rw[<-h3];exact k);rw[this];simp
   rw[this]
  rw[hw]at q;exact q _ s.toks (le_refl _) ⟨⟨t,rfl⟩,hx⟩
 ·rw[pk];exact⟨by exact iK hz,q _ _ (le_succ _) ⟨⟨_,rfl⟩,hz⟩⟩
theorem kJ{k:Int}{t:Tok}{v:Value}{Q:Unit->Shared->Prop}(g:s.heap.get? a=some (aT vs n)) (h0:0<=k)(hn:k<vs.length)(hl:vs.length<=lim)(hQ:∀h',h'.get? a=some (aT (vs.set k.toNat v) n)->Heap.SameBut a s.heap h'->Q () {s with heap:=h'}):wpAny (model prog w) A (setItem (.ref a) (.int k t) v) Q E s:=by
 have hL:s.heap.IsList a vs.toArray:=⟨_,g,rfl,n,rfl⟩;have:lim=1000000:=rfl;unfold setItem
 try with_reducible refine wpAny_holding ?_
 first|refine wpAny_bind (wpAny_pure ?_)|skip
 refine wpAny_bind (wpAny_sequenceKey hL.typeIs (by decide) ?_);refine wpAny_bind (wpAny_callSpecial?_slot (name:=Str.ofString "__setitem__") hL.typeIs slot_list_setitem (wpAny_call_entry slot_list_setitem hL.typeIs entry_list_setitem ?_ (args_list_setitem _ _ _)));refine(?_:wpAny _ _ (Builtin.List.listSubscript? (.int k t)>>=_) _ _ s);refine wpAny_bind (wpAny_listSubscript_int (fitsIndex_of h0 (by lia)) ?_);obtain⟨j,rfl⟩:=Int.eq_ofNat_of_zero_le h0;have hj:j<vs.toArray.size:=by simp;(exact ofNat_lt.mp (by assumption))
 have hx':vs.toArray[j]?=some vs.toArray[j]:=Array.getElem?_eq_getElem hj;refine(?_:wpAny _ _ ((seqItemAt a j>>=λr=>pure (r.map (j,·)))>>=_) _ _ s);refine wpAny_bind (wpAny_bind (wpAny_seqItemAt g rfl (wpAny_pure ?_)));rw[hx'];refine(?_:wpAny _ _ (setSeqItemAt a j v>>=_) _ _ s);have hfin:(s.heap.update a (Obj.mapSeq (·.setIfInBounds j v))).get? a=some (aT (vs.set j v) n):=by refine(Heap.get?_update_self (Obj.mapSeq (·.setIfInBounds j v)) g rfl).trans ?_;simp[Obj.mapSeq,aT]
 refine wpAny_bind (wpAny_setSeqItemAt g rfl ?_)
 first
  |exact wpAny_bind (wpAny_pure (wpAny_pure ⟨.none,rfl,wpAny_pure (hQ _ hfin (Heap.SameBut.update ..))⟩))
  |exact wpAny_pure ⟨.none,rfl,wpAny_pure (hQ _ hfin (Heap.SameBut.update ..))⟩
theorem vF{α:Type}{t:Sem α}{o':PO}{P:Gh->Shared->α->Prop}(I:Inv Z s G V)(ha:G.ad[i]?=some a)(hi:V[i]?=some o) (hlive:∀h',gn h' G i a o'->∃ob,h'.get? a=some ob) (h:∀(Q:α->Shared->Prop) (E:Value->Shared->Prop),(∀r h' k,Heap.SameBut a s.heap h'->gn h' G i a o'->s.toks<=k->P G {s with heap:=h',toks:=k} r->Q r {s with heap:=h',toks:=k})->wpAny (model prog w) A t Q E s):Run Z prog w A fp G s t (V.set i o') P:=by
 obtain⟨ow,_⟩:=I.at hi ha;refine λQ E q=>h Q E λr h' k hs ho hk p=>q r _ G ?_ ?_ p
 ·exact I.change (s':={s with heap:=h',toks:=k}) hi ow hs (hlive _ ho) (λb hb=>by have:=Option.some.inj (hb.symm.trans ha);subst this;exact ho) rfl (Nat.le_trans I.tok hk)
 ·exact aK.change (s':={s with heap:=h',toks:=k}) ow hs rfl rfl
theorem jV{k:Int}{t:Tok}{x:Value}(I:Inv Z s G V)(ha:G.ad[i]?=some a)(e:V[i]?=some (.list xs))(h0:0<=k)(hk:k<xs.length)(rv:az G.ad x v):Run Z prog w A fp G s (setItem (.ref a) (.int k t) x) (V.set i (.list (xs.set k.toNat v))) Hz:=by obtain⟨hl,vs,n,g,r⟩:=bp I ha e;have hn:=r.length;refine vF I ha e (λh' r=>⟨_,r.2.choose_spec.choose_spec.1⟩) λQ E q=>kJ g h0 (by simp_all) (by simp_all) λh' g' hs=>q () h' s.toks hs ⟨by simpa using hl,_,n,g',r.set _ rv⟩ (le_refl _) trivial
def aL(n:Nat)(A:Around):Prop:=A.handled=none/\A.depth+2*n<recursionLimit/\A.units+20*n<cLine
theorem aL.less(h:aL n A)(hk:k<=n):aL k A:=⟨h.1,by have:=h.2.1;lia,by have:=h.2.2;lia⟩
theorem aL.deeper(h:aL (n+1) A)(env:Env):aL n (A.deeper env):=
 ⟨h.1,by have:=h.2.1;show A.depth+1+2*n<_;lia,by have:=h.2.2;show A.units+3+20*n<_;lia⟩
theorem aL.units4(h:aL (n+1) A):A.units+4<cLine:=lt_of_le_of_lt (by lia) h.2.2
inductive EV(sc:Scope)(m:Loc)(ad:List Addr)(h:Heap)(L:Addr):Prop where
 |mk (o:Obj) (ml:Str->Option Value) (e:h.get? L=some o) (hc:o.cls≠.none) (hn:h.Ns L ml) (hv:∀x v,sc.names.lookup x=some .local->m x=some v->∃w,ml x=some w/\az ad w v):EV sc m ad h L
inductive th(n₀:Nat)(env:Env)(G:Gh)(h:Heap)(mv:Option PV)(x:Str):Prop where
 |mk (c:Addr) (o:Obj) (u:Option Value) (e1:env.cells.lookup x=some c) (e2:c≠env.locals) (e3:n₀<=c) (e4:G.own c=none) (e5:h.get? c=some o) (e6:o.cls≠.none) (e7:o.data=.cell u) (e8:∀v,mv=some v->∃w,u=some w/\az G.ad w v):th n₀ env G h mv x
structure aF(Z:dK)(env:Env)(sc:Scope)(m:Loc)(G:Gh)(h:Heap):Prop where
 kind:env.scope.kind=.function
 gl:env.globals=mainGlobals
 bl:env.builtins=builtinsNs
 kinds:∀x,env.kindOf x=sc.names.lookup x∨(sc.names.lookup x=some .free/\env.kindOf x=some .cell)
 above:Z.n₀<=env.locals
 own:G.own env.locals=none
 loc:EV sc m G.ad h env.locals
 cell:∀x,(sc.names.lookup x=some .cell∨sc.names.lookup x=some .free)->th Z.n₀ env G h (m x) x
 apart:∀x y c,env.cells.lookup x=some c->env.cells.lookup y=some c->x=y
noncomputable def iH(env:Env)(x:Str):Bool:=match env.kindOf x with
 |some .cell|some .free=>true
 |_=>false
noncomputable abbrev bB(env:Env):List Addr:=env.locals::env.scope.names.filterMap λy=>if iH env y.1 then env.cells.lookup y.1 else none
theorem kj(h:iH env x=true):env.kindOf x=some .cell∨env.kindOf x=some .free:=by
 unfold iH at h;split at h
 ·exact .inl (by assumption)
 ·exact .inr (by assumption)
 ·cases h
theorem mI(h:a∈bB env):a=env.locals∨∃y,iH env y=true/\env.cells.lookup y=some a:=by
 rcases mem_cons.mp h with h|h
 ·exact .inl h
 ·obtain⟨y,_,e⟩:=List.mem_filterMap.mp h;split at e
  ·exact .inr ⟨y.1,by assumption,e⟩
  ·cases e
theorem aF.kindCell(F:aF Z env sc m G h)(hx:sc.names.lookup x=some .cell∨sc.names.lookup x=some .free):iH env x=true/\∃k,env.kindOf x=some k:=by
 unfold iH;rcases F.kinds x with k|⟨_,k⟩
 ·rcases hx with hx|hx<;>(rw[k,hx];exact⟨rfl,_,rfl⟩)
 ·rw[k];exact⟨rfl,_,rfl⟩
theorem aF.cellIn(F:aF Z env sc m G h){c:Addr}(hx:sc.names.lookup x=some .cell∨sc.names.lookup x=some .free)(e:env.cells.lookup x=some c):c∈bB env:=by refine mem_cons_of_mem _ (List.mem_filterMap.mpr ?_);obtain⟨hc,k,hk⟩:=F.kindCell hx;exact⟨(x,k),mem_of_lookup hk,by rw[if_pos hc];exact e⟩
theorem aF.fpLive(F:aF Z env sc m G h)(ha:a∈bB env):∃o,h.get? a=some o:=by
 rcases mI ha with rfl|⟨y,hy,e⟩
 ·obtain⟨o,_,e,_⟩:=F.loc;exact⟨o,e⟩
 ·have:sc.names.lookup y=some .cell∨sc.names.lookup y=some .free:=by
   rcases F.kinds y with k|⟨k,_⟩
   ·rw[<-k];exact kj hy
   ·exact .inr k
  obtain⟨c,o,u,e1,_,_,_,e5,_⟩:=F.cell y this;rw[e]at e1;cases e1;exact⟨o,e5⟩
theorem aF.keep(F:aF Z env sc m G s.heap)(S:aK fp G s G' s')(hd:∀a∈bB env,a∉fp):aF Z env sc m G' s'.heap where
 kind:=F.kind
 gl:=F.gl
 bl:=F.bl
 kinds:=F.kinds
 above:=F.above
 own:=by obtain⟨o,ml,e,hc,_⟩:=F.loc;exact(S.keep _ _ e F.own (hd _ (mem_cons_self ..)) (.inl hc)).2
 loc:=by obtain⟨o,ml,e,hc,hn,hv⟩:=F.loc;have e':=(S.keep _ _ e F.own (hd _ (mem_cons_self ..)) (.inl hc)).1;refine⟨o,ml,e',hc,?_,λx v hx hm=>let⟨w,h1,h2⟩:=hv x v hx hm;⟨w,h1,h2.mono S.ad⟩⟩;obtain⟨o',es,ep,e2,r⟩:=hn;obtain rfl:o=o':=Option.some.inj (e.symm.trans e2);exact⟨o,es,ep,e',r⟩
 cell x hx:=by obtain⟨c,o,u,e1,e2,e3,e4,e5,e6,e7,e8⟩:=F.cell x hx;exact⟨c,o,u,e1,e2,e3,(S.keep _ _ e5 e4 (hd _ (F.cellIn hx e1)) (.inl e6)).2,(S.keep _ _ e5 e4 (hd _ (F.cellIn hx e1)) (.inl e6)).1,e6,e7,λv hm=>let⟨w,h1,h2⟩:=e8 v hm;⟨w,h1,h2.mono S.ad⟩⟩
 apart:=F.apart
theorem aF.keepE(F:aF Z env sc m G s.heap)(S:aK [] G s G' s'):aF Z env sc m G' s'.heap:=F.keep S λ_ _ h=>nomatch h
structure Names(Z:dK)(T:kp):Prop where
 glob:∀x v,T.glob x=some v->∀h,Z.P h->∃mg y,h.Ns mainGlobals mg/\mg x=some y/\∀ad,az ad y v
 bltn:∀x v,T.glob x=none->T.bltn x=some v->∀h,Z.P h->∃mg mb y,h.Ns mainGlobals mg/\mg x=none/\h.Ns builtinsNs mb/\mb x=some y/\∀ad,az ad y v
theorem cr(hk:env.scope.kind=.function)(hx:env.kindOf x=some .globalImplicit)(h:wpAny M A (loadGlobal env x) Q E s):wpAny M A (loadName env x) Q E s:=by rw[loadName_read hk hx];exact h
set_option tactic.hygienic true in
theorem fQ(N:Names Z T)(h:bQ T sc m x V=some (v,V'))(I:Inv Z s G V)(F:aF Z env sc m G s.heap):Run Z prog w A fp G s (loadName env x) V' (bj v)/\(x==("__debug__":Str))=false:=by
 unfold bQ at h;split at h
 ·cases h
 rename_i hx;have hd:(x==("__debug__":Str))=false:=by simp;exact λe=>hx (.inl e)
 have hcd:(x==("__classdict__":Str))=false:=by simp;exact λe=>hx (.inr e)
 refine⟨?_,hd⟩;have cellCase:(sc.names.lookup x=some .cell∨sc.names.lookup x=some .free)->m x=some v->V=V'->Run Z prog w A fp G s (loadName env x) V' (bj v):=by
  intro hk hm e;subst e;obtain⟨c,o,u,e1,e2,e3,e4,e5,e6,e7,e8⟩:=F.cell x hk;obtain⟨y,rfl,ry⟩:=e8 v hm;have hC:s.heap.IsCell c (some y):=⟨o,e5,e7⟩;refine ay I λQ E q=>?_;have bn:=q y s.toks (le_refl _) ry;rcases F.kinds x with k|⟨_,k⟩
  ·rcases hk with hk|hk
   ·exact wpAny_loadName_cell F.kind (k.trans hk) e1 hC bn
   ·exact wpAny_loadName_free F.kind (k.trans hk) e1 hC bn hcd
  ·exact wpAny_loadName_cell F.kind k e1 hC bn
 have globCase:sc.names.lookup x=some .globalImplicit->(match T.glob x with|some v=>ok v|none=>lift (T.bltn x):Mo PV) V=some (v,V')->Run Z prog w A fp G s (loadName env x) V' (bj v):=by
  intro hl h;have k:env.kindOf x=some .globalImplicit:=by
   rcases F.kinds x with k|⟨k,_⟩
   ·exact k.trans hl
   ·rw[hl]at k;cases k
  cases hg:T.glob x with
  |some v'=>rw[hg]at h;obtain⟨rfl,rfl⟩:=af h;obtain⟨mg,y,hn,hy,ry⟩:=N.glob x _ hg _ I.top;exact ay I λQ E q=>cr F.kind k (PySem.Calls.loadGlobal_global (by rw[F.gl];exact hn) hy (q y s.toks (le_refl _) (ry _)))
  |none=>rw[hg]at h;obtain⟨hb,rfl⟩:=aW h;obtain⟨mg,mb,y,hn,hmiss,hbn,hy,ry⟩:=N.bltn x v hg hb _ I.top;exact ay I λQ E q=>cr F.kind k (PySem.Calls.loadGlobal_builtin (by rw[F.gl];exact hn) hmiss (by rw[F.bl];exact hbn) hy (q y s.toks (le_refl _) (ry _)))
 cases hl:sc.names.lookup x with
 |none=>rw[hl]at h;cases h
 |some k=>
  rw[hl]at h;cases k with
  |«local»=>
   obtain⟨hm,rfl⟩:=aW h;obtain⟨o,ml,e,hc,hn,hv⟩:=F.loc;obtain⟨y,hy,ry⟩:=hv x v hl hm;have k:env.kindOf x=some .local:=by
    rcases F.kinds x with k|⟨k,_⟩
    ·exact k.trans hl
    ·rw[hl]at k;cases k
   exact ay I λQ E q=>wpAny_loadName_local F.kind k hn hy (q y s.toks (le_refl _) ry)
  |cell=>obtain⟨hm,e⟩:=aW h;exact cellCase (.inl hl) hm e
  |free=>obtain⟨hm,e⟩:=aW h;exact cellCase (.inr hl) hm e
  |globalImplicit=>exact globCase hl h
  |_=>first|exact(aQ h).elim|cases h
theorem tT(N:Names Z T)(h:bQ T sc m x V=some (v,V'))(I:Inv Z s G V)(F:aF Z env sc m G s.heap):Run Z prog w A fp G s (eval (.Name x pos) env) V' (bj v):=λQ E q=>wpAny_Name ((fQ N h I F).1 Q E q) (fQ (prog:=prog) (w:=w) (A:=A) (fp:=fp) N h I F).2
noncomputable def nC(h:Heap)(G:Gh)(I:Addr):It->Prop
 | .live r k=>∃l,G.ad[r]?=some l/\h.IsListIter I l k
 | .vals l=>(∃x left step,IsRangeIter h I x left step/\l=((List.range left.toNat).map λ(k:Nat)=>PV.int (x+step*k)))∨(∃x t i ty,(ty="str_ascii_iterator"∨ty="str_iterator")/\h.IsStrIter I ty x t i/\l=(x.cps.toList.drop i).map λc=>PV.str (ca c))
structure lK(Z:dK)(h:Heap)(G:Gh)(I:Addr)(it:It):Prop where
 rep:nC h G I it
 own:G.own I=none
 above:Z.n₀<=I
theorem nC.obj(r:nC h G I it):∃o,h.get? I=some o/\o.cls≠.none/\∀h':Heap,∀G':Gh,G.ad<+:G'.ad->h'.get? I=some o->nC h' G' I it:=by
 cases it with
 |live r k=>obtain⟨l,e,o,ho,hc,hd⟩:=r;exact⟨o,ho,(by rw[hc];intro h;cases h),λh' G' ha e'=>⟨l,bD ha e,o,e',hc,hd⟩⟩
 |vals l=>
  rcases r with⟨x,left,step,e,el⟩|⟨x,t,i,ty,ht,⟨o,ho,hc,hd⟩,el⟩
  ·exact⟨_,e,λh=>(nomatch h),λh' G' ha e'=>.inl ⟨x,left,step,e',el⟩⟩
  ·exact⟨o,ho,(by rw[hc];intro h;cases h),λh' G' ha e'=>.inr ⟨x,t,i,ty,ht,⟨o,e',hc,hd⟩,el⟩⟩
theorem lK.keep(T:lK Z s.heap G I it)(S:aK fp G s G' s')(hd:I∉fp):lK Z s'.heap G' I it:=by obtain⟨o,e,hc,k⟩:=T.rep.obj;obtain⟨e',ow⟩:=S.keep _ _ e T.own hd (.inl hc);exact⟨k _ _ S.ad e',ow,T.above⟩
noncomputable abbrev LG(Z:dK)(s:Shared)(it:It):Gh->Shared->Value->Prop:=λG' s' x=>∃I,x=.ref I/\lK Z s'.heap G' I it/\s.heap.objs.size<=I
theorem gH{α:Type}{t:Sem α}{P:Gh->Shared->α->Prop}(I:Inv Z s G V) (h:∀(Q:α->Shared->Prop) (E:Value->Shared->Prop),(∀a,P G {s with heap:=s.heap.push ob} a->Q a {s with heap:=s.heap.push ob})->wpAny (model prog w) A t Q E s):Run Z prog w A fp G s t V P:=
 λQ E q=>h Q E λa p=>q a _ G (I.junk ob I.tok) (aK.junk ob) p
set_option tactic.hygienic true in
theorem ku{x:Value}(h:jk v V=some (it,V'))(J:Inv Z s G V)(r:az G.ad x v):Run Z prog w A fp G s (pyIter x) V' (LG Z s it):=by
 have nw:s.heap.get? s.heap.objs.size=none:=bb (le_refl _);unfold jk at h;split at h
 ·rename_i y;obtain⟨rfl,rfl⟩:=af h;obtain⟨⟨t,rfl⟩,hk⟩:=r;cases ha:y.cps.all (·<128)with
  |true=>refine gH J λQ E q=>wpAny_pyIter_ascii ha (q _ ⟨_,rfl,⟨.inr ⟨y,t,0,_,.inl rfl,⟨_,Heap.get?_push_size _ rfl,rfl,rfl⟩,by simp⟩,J.fresh _ nw,J.above⟩,le_refl _⟩)
  |false=>refine gH J λQ E q=>wpAny_pyIter_wide ha (q _ ⟨_,rfl,⟨.inr ⟨y,t,0,_,.inr rfl,⟨_,Heap.get?_push_size _ rfl,rfl,rfl⟩,by simp⟩,J.fresh _ nw,J.above⟩,le_refl _⟩)
 ·refine aM h λo e h=>?_;obtain⟨a,ha,rfl⟩:=cu r;split at h
  ·obtain⟨rfl,rfl⟩:=af h;obtain⟨hl,vs,k,g1,r1⟩:=bp J ha e;refine gH J λQ E q=>wpAny_pyIter_list (items:=vs.toArray) ⟨_,g1,rfl,k,rfl⟩ (q _ ⟨_,rfl,⟨⟨a,ha,⟨_,Heap.get?_push_size _ rfl,rfl,rfl⟩⟩,J.fresh _ nw,J.above⟩,le_refl _⟩)
  ·refine ag h λhm h=>?_;obtain⟨rfl,rfl⟩:=af h;obtain⟨t,u,v,g1⟩:=(J.at e ha).2;refine gH J λQ E q=>wpAny_pyIter_range g1 hm (q _ ⟨_,rfl,⟨.inl ⟨_,_,_,Heap.get?_push_size _ rfl,by simp[cm]⟩,J.fresh _ nw,J.above⟩,le_refl _⟩)
  ·cases h
 ·cases h
theorem Ec(r:nC s.heap G I it)(q:Q (.ref I) s):wpAny (model prog w) A (pyIter (.ref I)) Q E s:=by
 cases it with
 |live r k=>obtain⟨l,_,hit⟩:=r;exact wpAny_pyIter_listiter hit q
 |vals l=>
  rcases r with⟨x,left,step,e,_⟩|⟨x,t,i,ty,ht,hit,_⟩
  ·exact wpAny_pyIter_rangeiter e q
  ·rcases ht with rfl|rfl
   ·exact wpAny_pyIter_striter_ascii hit q
   ·exact wpAny_pyIter_striter_wide hit q
noncomputable abbrev Ls(Z:dK)(I:Addr)(r:Option (PV×It)):Gh->Shared->Option Value->Prop:=λG' s' x=>match r with
 |none=>x=none
 |some (v,it')=>∃y,x=some y/\az G'.ad y v/\lK Z s'.heap G' I it'
theorem cV{α:Type}{t:Sem α}{P:Gh->Shared->α->Prop}(J:Inv Z s G V)(hL:G.own L=none)(hn:Z.n₀<=L)(hm:L∈fp) (h:∀(Q:α->Shared->Prop) (E:Value->Shared->Prop),(∀a h' k,Heap.ExtBut L s.heap h'->s.toks<=k->P G {s with heap:=h',toks:=k} a->Q a {s with heap:=h',toks:=k})->wpAny (model prog w) A t Q E s):Run Z prog w A fp G s t V P:=
 λQ E q=>h Q E λa h' k hs hk p=>q a _ G (J.aside (s':={s with heap:=h',toks:=k}) hL hn hs rfl (Nat.le_trans J.tok hk)) (aK.aside (s':={s with heap:=h',toks:=k}) hs rfl rfl hm) p
set_option tactic.hygienic true in
theorem kv{r:Option (PV×It)}(h:fc it V=some (r,V'))(J:Inv Z s G V)(T:lK Z s.heap G I it)(hm:I∈fp)(hh:A.handled=none):Run Z prog w A fp G s (pyNext (.ref I)) V' (Ls Z I r):=by
 obtain⟨rep,ow,ab⟩:=T;unfold fc at h;split at h
 ·obtain⟨rfl,rfl⟩:=af h;rcases rep with⟨x,left,step,e,el⟩|⟨x,t,i,ty,ht,hit,el⟩
  ·have hl:left<=0:=by
    have:(List.range left.toNat)=[]:=List.map_eq_nil_iff.mp el.symm;have:=List.range_eq_nil.mp this
    simp_all
   exact cV J ow ab hm λQ E q=>wpAny_pyNext_range_end hh e hl λh' hs=>q none h' s.toks hs (le_refl _) rfl
  ·have hx:x.cps[i]?=none:=by have:x.cps.toList.drop i=[]:=List.map_eq_nil_iff.mp el.symm;have:=List.drop_eq_nil_iff.mp this;exact Array.getElem?_eq_none (by simpa using this)
   rcases ht with rfl|rfl
   ·exact cV J ow ab hm λQ E q=>wpAny_pyNext_ascii_end hh hit hx λh' hs=>q none h' s.toks hs (le_refl _) rfl
   ·exact cV J ow ab hm λQ E q=>wpAny_pyNext_wide_end hh hit hx λh' hs=>q none h' s.toks hs (le_refl _) rfl
 ·rename_i v rest;obtain⟨rfl,rfl⟩:=af h;rcases rep with⟨x,left,step,e,el⟩|⟨x,t,i,ty,ht,hit,el⟩
  ·have hl:0<left:=by
    rcases Int.lt_or_le 0 left with h|h
    ·exact h
    ·have:left.toNat=0:=Int.toNat_of_nonpos h;rw[this]at el;cases el
   obtain⟨n,hn⟩:∃n,left.toNat=n+1:=⟨left.toNat-1,(sub_add_cancel (Int.pos_iff_toNat_pos.mp hl)).symm⟩;rw[hn,List.range_succ_eq_map,map_cons,map_map]at el;obtain⟨e1,e2⟩:=List.cons.inj el;refine cV J ow ab hm λQ E q=>wpAny_pyNext_range_item e hl λh' hI hs=>q _ h' _ hs.extBut (le_succ _) ⟨_,rfl,?_,.inl ⟨x+step,left-1,step,hI,?_⟩,ow,ab⟩
   ·rw[e1];exact⟨s.toks,by simp⟩
   ·rw[e2];have:(left-1).toNat=n:=G8 hn;rw[this];refine map_congr_left λk _=>?_;refine(?_:PV.int (x+step*((k:Int)+1))=PV.int (x+step+step*k));rw[Int.mul_add,Int.mul_one,Int.add_comm (step*(k:Int)) step,Int.add_assoc]
  ·have hlt:i<x.cps.toList.length:=by
    rcases Nat.lt_or_ge i x.cps.toList.length with h|h
    ·exact h
    ·rw[List.drop_eq_nil_of_le h]at el;cases el
   rw[List.drop_eq_getElem_cons hlt,map_cons]at el;obtain⟨e1,e2⟩:=List.cons.inj el;have hx:x.cps[i]?=some x.cps.toList[i]:=by rw[Array.getElem?_eq_getElem (by simpa using hlt)];simp
   have bn:az G.ad (.str ⟨#[x.cps.toList[i]]⟩ s.toks) v:=by rw[e1];exact⟨⟨_,rfl⟩,decide_eq_true (by show 1<=1000000;decide)⟩
   rcases ht with rfl|rfl
   ·exact cV J ow ab hm λQ E q=>wpAny_pyNext_ascii_item hit hx λh' hI hs=>q _ h' _ hs.extBut (le_succ _) ⟨_,rfl,bn,.inr ⟨x,t,i+1,_,.inl rfl,hI,e2⟩,ow,ab⟩
   ·exact cV J ow ab hm λQ E q=>wpAny_pyNext_wide_item hit hx λh' hI hs=>q _ h' _ hs.extBut (le_succ _) ⟨_,rfl,bn,.inr ⟨x,t,i+1,_,.inr rfl,hI,e2⟩,ow,ab⟩
 ·rename_i r k;refine aM h λo e h=>?_;obtain⟨l,hl,hit⟩:=rep;split at h
  ·rename_i xs;obtain⟨_,vs,n,g1,r1⟩:=bp J hl e;have hL:s.heap.IsList l vs.toArray:=⟨_,g1,rfl,n,rfl⟩;cases hv:xs[k]? with
   |some v=>rw[hv]at h;obtain⟨rfl,rfl⟩:=af h;obtain⟨y,hy,ry⟩:=r1.get hv;exact cV J ow ab hm λQ E q=>wpAny_pyNext_list_item hit hL (by simpa using hy) λh' hI hs=>q _ h' s.toks hs.extBut (le_refl _) ⟨y,rfl,ry,⟨l,hl,hI⟩,ow,ab⟩
   |none=>
    rw[hv]at h;obtain⟨rfl,rfl⟩:=af h;have hn:vs.toArray[k]?=none:=by have:=List.getElem?_eq_none_iff.mp hv;have h2:=r1.length;exact Array.getElem?_eq_none (by simp;simp_all)
    exact cV J ow ab hm λQ E q=>wpAny_pyNext_list_end hh hit hL hn λh' hs=>q none h' s.toks hs (le_refl _) rfl
  ·cases h
noncomputable def z8(e:Expr):dH->Prop
 | .name x=>∃p,e=.Name x p
 | .tuple es=>∃k p,e=.Tuple es k p
 | .comp x g s=>∃p,e=.ListComp x g s p
 | .const c=>∃k p,e=.Constant c k p
 | .star x=>∃p,e=.Starred x p
 | .slice lo hi st=>∃p,e=.Slice lo hi st p
 | .sub o i=>∃p,e=.Subscript o i p
 | .call=>∃f as ks p,e=.Call f as ks p
 | .other=>True
theorem DL(e:Expr):z8 e (view e):=by cases e<;>first|exact trivial|exact⟨_,rfl⟩|exact⟨_,_,rfl⟩|exact⟨_,_,_,_,rfl⟩
theorem dT{α:Type}{f:dH->Option α}{P:α->Prop}{a:α}(h:f (view e)=some a)(k:∀w,z8 e w->vz P (f w)):P a:=uE (k _ (DL e)) h
theorem tE{x:Expr}(h:EM x=some e):∃p,x=.Starred e p:=dT (f:=dH.star?) (P:=λe=>∃p,x=.Starred e p) h λw q=>by cases w<;>first|exact trivial|exact q
set_option tactic.hygienic true in
theorem oO{lo hi:Option Expr}(h:sliceOf e=some (lo,hi)):∃p,e=.Slice lo hi none p:=dT (f:=dH.slice?) (P:=λc=>∃p,e=.Slice c.1 c.2 none p) h λw q=>by
 cases w<;>first|exact trivial|skip
 rename_i lo' hi' st;cases st<;>first|exact trivial|exact q
theorem cU(h:nameOf e=some x):∃p,e=.Name x p:=dT (f:=dH.name?) (P:=λx=>∃p,e=.Name x p) h λw q=>by cases w<;>first|exact trivial|exact q
theorem tX{c:Expr×Expr}(h:(view e).sub?=some c):∃p,e=.Subscript c.1 c.2 p:=dT (f:=dH.sub?) (P:=λc=>∃p,e=.Subscript c.1 c.2 p) h λw q=>by cases w<;>first|exact trivial|exact q
theorem lz(h:r6 e=some us):∃k p,e=.Tuple us k p:=dT (f:=dH.tup?) (P:=λus=>∃k p,e=.Tuple us k p) h λw q=>by cases w<;>first|exact trivial|exact q
theorem uC{x:Expr}{c:Expr×List Comprehension×Scope}(h:vj x=some c):∃p,x=.ListComp c.1 c.2.1 c.2.2 p:=dT (f:=dH.comp?) (P:=λc=>∃p,x=.ListComp c.1 c.2.1 c.2.2 p) h λw q=>by cases w<;>first|exact trivial|exact q
theorem z0{x:Expr}(h:o5 x=true):∃f as ks p,x=.Call f as ks p:=by obtain⟨_,h⟩:=isSome_iff_exists.mp h;exact dT (f:=dH.call?) (P:=λ_=>∃f as ks p,x=.Call f as ks p) h λw q=>by cases w<;>first|exact trivial|exact q
theorem Inv.kept(I:Inv Z s G V){t:Nat}(ht:s.toks<=t)(hk:∀b o,s.heap.get? b=some o->h'.get? b=some o):Inv Z {s with heap:=h',toks:=t} G V:=
 I.still (s':={s with heap:=h',toks:=t}) (λb o e _=>hk b o e) I.bare (Nat.le_trans I.tok ht)
theorem aK.kept{t:Nat}(hk:∀b o,s.heap.get? b=some o->h'.get? b=some o):aK fp G s G {s with heap:=h',toks:=t}:=
 ⟨λ_ _ e=>e,prefix_rfl,λb o e h _ _=>⟨hk b o e,h⟩,rfl,rfl⟩
theorem gF{α:Type}{t:Sem α}{P:Gh->Shared->α->Prop}(I:Inv Z s G V) (h:∀(Q:α->Shared->Prop) (E:Value->Shared->Prop),(∀a h' k,(∀b o,s.heap.get? b=some o->h'.get? b=some o)->P G {s with heap:=h',toks:=k} a->Q a {s with heap:=h',toks:=k})->wpAny (model prog w) A t Q E s):Run Z prog w A fp G s t V P:=
 λQ E q=>cy (h _ E λa h' k hs p l=>q a _ G (I.kept l.1 hs) (aK.kept hs) p)
theorem CN{c:Value}{d:Option Addr}{es:Array DictEntry}{ep:Nat}{sl:Array (Option Value)}{k:Int}{t:Tok}{v:Value}(ho:h.get? L=some ⟨c,d,.dict es ep,sl⟩)(hn:h.Ns L ml):∃o',Obj.putName x k (.str x t) v ⟨c,d,.dict es ep,sl⟩=o'/\o'.isFreed=false/\o'.cls=c/\∀h':Heap,h'.get? L=some o'->h'.Ns L λy=>if y=x then some v else ml y:=by
 obtain⟨o1,es,ep,ho1,hd,hk,hm⟩:=hn;obtain rfl:=Option.some.inj (ho.symm.trans ho1);cases hd;rw[Obj.putName_eq];cases hi:es.findIdx? (·.key.isStr x)with
 |some i=>
  refine⟨_,(by unfold Obj.putNameByArray;dsimp only;rw[hi]:Obj.putNameByArray x k (.str x t) v ⟨c,d,.dict es ep,sl⟩=⟨c,d,.dict (es.modify i λe=>{e with val:=v}) ep,sl⟩),rfl,rfl,λh' e=>⟨_,_,ep,e,rfl,hk.modify _ _,λy=>?_⟩⟩;show _=if y=x then some v else ml y
  rw[<-hm];exact findBy_modify (λn v=>v.isStr n) Value.isStr_inj es x y v i hi
 |none=>
  refine⟨_,(by unfold Obj.putNameByArray;dsimp only;rw[hi]:Obj.putNameByArray x k (.str x t) v ⟨c,d,.dict es ep,sl⟩=⟨c,d,.dict (es.push ⟨k,.str x t,v⟩) (ep+1),sl⟩),rfl,rfl,λh' e=>⟨_,_,ep+1,e,rfl,hk.push _ _ _ _,λy=>?_⟩⟩;show _=if y=x then some v else ml y
  rw[<-hm];exact findBy_push (λn v=>v.isStr n) es x y _ _ v (λz=>by
   refine(?_:(x==z)=decide (z=x));by_cases h:z=x
   ·subst h;simp
   ·have:¬x=z:=λe=>h e.symm;simp[h,this]) hi
theorem CK{α:Type}{c:Bool}{x y:Sem α}{Q:α->Shared->Prop}(hc:c=false)(h:wpAny M A y Q E s):wpAny M A (if c=true then x else y) Q E s:=by rw[hc];exact h
theorem j5{v:Value}{o:Obj}{Q:Unit->Shared->Prop}(ho:s.heap.get? L=some o)(hn:s.heap.Ns L ml) (h:∀h' o',h'.get? L=some o'->o'.cls=o.cls->h'.Ns L (λy=>if y=x then some v else ml y)->Heap.SameBut L s.heap h'->Q () {s with heap:=h',toks:=s.toks+1}):wpAny (model prog w) A (nsSet L x v) Q E s:=by
 obtain⟨es,hd,hany⟩:∃es,(∃ep,o.data=.dict es ep)/\es.any (·.refKey)=false:=by obtain⟨o1,es,ep,ho1,hd,hk,_⟩:=hn;refine⟨es,⟨ep,(Option.some.inj (ho.symm.trans ho1))▸hd⟩,?_⟩;rw[Array.any_eq_false'];intro e he;obtain⟨n,t,h⟩:=hk e he;simp[DictEntry.refKey,h]
 obtain⟨ep,hd⟩:=hd;obtain⟨c,d,dt,sl⟩:=o;cases hd;refine wpAny_bind (wpAny_bind (wpAny_askSetting (wpAny_pure (wpAny_bind (wpAny_mkText (wpAny_bind (wpAny_loadPart ho (CK ?_ (wpAny_updatePart ho ?_)))))))))
 ·rw[aRefKeyMayBeTheName_eq];exact(congrArg (_&&·) hany).trans (Bool.and_false _)
 ·obtain⟨o',e,ef,ec,hN⟩:=CN (x:=x) (v:=v) (t:=s.toks) ho hn;have g:=(Heap.get?_update_self (Obj.putName x _ (.str x s.toks) v) ho ((congrArg Obj.isFreed e).trans ef)).trans (congrArg some e);exact h _ o' g ec (hN _ g) (Heap.SameBut.update ..)
noncomputable abbrev Hi(Z:dK)(env:Env)(sc:Scope)(m:Loc):Gh->Shared->Unit->Prop:=λG s _=>aF Z env sc m G s.heap
noncomputable abbrev Cc(env:Env)(x:Str):List Addr:=env.locals::(if iH env x then(env.cells.lookup x).toList else [])
set_option tactic.hygienic true in
theorem vt(F:aF Z env sc m G h):∀a∈Cc env x,a∈bB env:=by
 intro a ha;rcases mem_cons.mp ha with rfl|ha
 ·exact mem_cons_self ..
 ·split at ha
  ·rename_i hc;cases e:env.cells.lookup x with
   |none=>rw[e]at ha;cases ha
   |some c=>
    rw[e]at ha;have:a=c:=by simpa using ha
    subst this;obtain⟨k,hk⟩:∃k,env.kindOf x=some k:=by rcases kj hc with k|k<;>exact⟨_,k⟩
    exact mem_cons_of_mem _ (List.mem_filterMap.mpr ⟨(x,k),mem_of_lookup hk,by rw[if_pos hc];exact e⟩)
  ·cases ha
theorem nu(hl:sc.names.lookup x=some .local∨sc.names.lookup x=some .cell)(I:Inv Z s G V)(F:aF Z env sc m G s.heap)(r:az G.ad y v):Run Z prog w A (Cc env x) G s (bindName env x y) V (Hi Z env sc (Loc.set m x v)):=by
 have k:env.kindOf x=sc.names.lookup x:=by
  rcases F.kinds x with k|⟨k,_⟩
  ·exact k
  ·rcases hl with hl|hl<;>(rw[hl]at k;cases k)
 rcases hl with hl|hl
 ·obtain⟨o,ml,e,hc,hn,hv⟩:=F.loc;have key:∀h':Heap,∀o' t,h'.get? env.locals=some o'->o'.cls=o.cls->h'.Ns env.locals (λz=>if z=x then some y else ml z)->Heap.SameBut env.locals s.heap h'->aF Z env sc (Loc.set m x v) G ({s with heap:=h',toks:=t}:Shared).heap:=by
   intro h' o' t e' ec hn' hs;refine{F with loc:=⟨o',_,e',by rw[ec];exact hc,hn',λz u hz hm=>?_⟩,cell:=λz hz=>?_}
   ·by_cases q:z=x
    ·subst q;simp-iota only[Loc.set,if_true]at hm⊢;cases hm;exact⟨y,rfl,r⟩
    ·simp-iota only[Loc.set,q,if_false]at hm⊢;exact hv z u hz hm
   ·obtain⟨c,oc,u,e1,e2,e3,e4,e5,e6,e7,e8⟩:=F.cell z hz;refine⟨c,oc,u,e1,e2,e3,e4,(hs.2 c e2).trans e5,e6,e7,λu' hm=>e8 u' ?_⟩;have q:z≠x:=by rintro rfl;rcases hz with hz|hz<;>(rw[hl]at hz;cases hz)
    simpa only[Loc.set,q,if_false]using hm
  intro Q E q;refine wpAny_bindName ?_;rw[storeName_local (k.trans hl) (by rw[F.kind];rfl)];refine j5 e hn λh' o' e' ec hn' hs=>?_;exact q () _ G (I.aside (s':={s with heap:=h',toks:=s.toks+1}) F.own F.above hs.extBut rfl (Nat.le_trans I.tok (le_succ _))) (aK.aside (s':={s with heap:=h',toks:=s.toks+1}) hs.extBut rfl rfl (mem_cons_self ..)) (key h' o' _ e' ec hn' hs)
 ·obtain⟨c,oc,u,e1,e2,e3,e4,e5,e6,e7,e8⟩:=F.cell x (.inl hl);intro Q E q;refine wpAny_bindName ?_;unfold storeName;simp-iota only[k,hl,F.kind];refine wpAny_bind (wpAny_cellOf e1 ?_);unfold cellSet;refine wpAny_bind (wpAny_load e5 ?_);rw[e7];refine wpAny_update e5 ?_;have hs:Heap.SameBut c s.heap (s.heap.update c λo=>{o with data:=.cell (some y)}):=Heap.SameBut.update ..;have e5':(s.heap.update c λo=>{o with data:=.cell (some y)}).get? c=some {oc with data:=.cell (some y)}:=Heap.get?_update_self _ e5 rfl;refine q () _ G (I.aside (s':={s with heap:=s.heap.update c λo=>{o with data:=.cell (some y)}}) e4 e3 hs.extBut rfl I.tok) (aK.aside (s':={s with heap:=s.heap.update c λo=>{o with data:=.cell (some y)}}) hs.extBut rfl rfl (mem_cons_of_mem _ (by rw[if_pos (F.kindCell (.inl hl)).1,e1];simp))) ?_;obtain⟨o,ml,e,hc,hn,hv⟩:=F.loc;refine{F with loc:=⟨o,ml,(hs.2 _ (Ne.symm e2)).trans e,hc,hn.sameBut hs (Ne.symm e2),λz v' hz hm=>hv z v' hz ?_⟩,cell:=λz hz=>?_}
  ·have q:z≠x:=by rintro rfl;rw[hl]at hz;cases hz
   simpa only[Loc.set,q,if_false]using hm
  ·by_cases q:z=x
   ·subst q;exact⟨c,_,some y,e1,e2,e3,e4,e5',e6,rfl,λv' hm=>by simp-iota only[Loc.set,if_true]at hm;cases hm;exact⟨y,rfl,r⟩⟩
   ·obtain⟨c',oc',u',f1,f2,f3,f4,f5,f6,f7,f8⟩:=F.cell z hz;have hne:c'≠c:=λh=>q (F.apart z x c (h▸f1) e1);exact⟨c',oc',u',f1,f2,f3,f4,(hs.2 c' hne).trans f5,f6,f7,λv' hm=>f8 v' (by simpa only[Loc.set,q,if_false]using hm)⟩
theorem se(hl:sc.names.lookup x=some .local∨sc.names.lookup x=some .cell)(I:Inv Z s G V)(F:aF Z env sc m G s.heap)(r:az G.ad y v):Run Z prog w A (bB env) G s (bindName env x y) V (Hi Z env sc (Loc.set m x v)):=(nu hl I F r).weak (vt F)
theorem rm(h:aV sc m x v=some m'):(sc.names.lookup x=some .local∨sc.names.lookup x=some .cell)/\m'=Loc.set m x v:=by
 unfold aV at h;cases hl:sc.names.lookup x with
 |none=>rw[hl]at h;cases h
 |some k=>rw[hl]at h;cases k<;>first|(cases h;simp)|cases h
theorem dI(h:aV sc m x v=some m')(I:Inv Z s G V)(F:aF Z env sc m G s.heap)(r:az G.ad y v):Run Z prog w A (bB env) G s (bindName env x y) V (Hi Z env sc m'):=by obtain⟨hl,rfl⟩:=rm h;exact se hl I F r
theorem j9{vs:List PV}(h:cP sc m ts vs=some m')(I:Inv Z s G V)(F:aF Z env sc m G s.heap)(r:aC G.ad ys vs):Run Z prog w A (bB env) G s (assignInOrder ((assignEach ts env).map (·.2)) ys) V (Hi Z env sc m'):=by
 induction ts generalizing vs ys m s G with
 |nil=>
  cases vs with
  |nil=>cases r;cases h;exact Run.pure I F
  |cons _ _=>cases h
 |cons t ts ih=>
  cases vs with
  |nil=>cases h
  |cons v vs=>
   obtain⟨x,h0,h3⟩:=bind_eq_some_iff.mp h;obtain⟨p,rfl⟩:=cU h0;obtain⟨m₁,h1,h2⟩:=bind_eq_some_iff.mp h3;cases r with
   |cons ra rb=>intro Q E q;refine wpAny_assignInOrder_more (?_:wpAny _ _ (assign (.Name x p) env _) _ _ _);rw[arm_assign_Name];refine wpAny_bind (wpAny_standAt (dI h1 I F ra _ E λ_ LK G₁ I₁ S1 F₁=>?_));exact ih h2 I₁ F₁ (bf S1.ad rb) Q E λ_ LL G₂ I₂ S2 F₂=>q _ _ _ I₂ (S1.trans S2) F₂
theorem jZ{vs:List PV}(h:cP sc m ts vs=some m'):(assignEach ts env).length=ts.length/\(assignEach ts env).findIdx? (·.1)=none:=by
 induction ts generalizing vs m with
 |nil=>exact⟨rfl,rfl⟩
 |cons t ts ih=>
  cases vs with
  |nil=>cases h
  |cons v vs=>obtain⟨x,h0,h3⟩:=bind_eq_some_iff.mp h;obtain⟨p,rfl⟩:=cU h0;obtain⟨m₁,h1,h2⟩:=bind_eq_some_iff.mp h3;obtain⟨i1,i2⟩:=ih h2;refine⟨congrArg (·+1) i1,(List.findIdx?_cons (p:=(·.1)) (x:=(false,assign (.Name x p) env)) (xs:=assignEach ts env)).trans ?_⟩;exact congrArg (Option.map _) i2
theorem eE{us:List PV}(h:pC v n V=some (us,V'))(I:Inv Z s G V)(r:az G.ad y v)(hh:A.handled=none):Run Z prog w A fp G s (unpackItems y n none) V' (λG _ ys=>aC G.ad ys us):=
 ah h λi ei h1=>aM h1 λo e h2=>ah h2 λxs ex h3=>ag h3 λhm h4=>by obtain rfl:=b8 ei;obtain rfl:=lY ex;obtain⟨rfl,rfl⟩:=af h4;obtain⟨a,ha,rfl⟩:=cu r;obtain⟨hl,vs,k,g1,r1⟩:=iu I ha e;have hn:n=vs.toArray.size:=(of_decide_eq_true hm).symm.trans r1.length.symm;subst hn;exact gF I λQ E q=>wpAny_unpackItems_tuple hh ⟨_,g1,rfl,k,rfl⟩ λh' hs=>q vs h' s.toks (λb o e=>hs b o (ne_of_lt (lt_size e)) e) r1
theorem lS(h:strOk x=true):(Builtin.Str.tooLong x.length)=false:=by have:x.length<=1000000:=of_decide_eq_true h;unfold Builtin.Str.tooLong;rw[sizeLine_eq];exact decide_eq_false (by lia)
theorem ds(h:eM x V=some (v,V')):strOk x=true/\v=.str x/\V=V':=by obtain⟨hm,h⟩:=jh (f:=λ_=>ok (PV.str x)) h;obtain⟨rfl,rfl⟩:=af h;exact⟨hm,rfl,rfl⟩
set_option tactic.hygienic true in
theorem gK(h:iM xs=some ns):xs=ns.map PV.int:=by
 induction xs generalizing ns with
 |nil=>cases h;rfl
 |cons x xs ih=>
  cases x<;>first|cases h;done|skip
  rename_i i;obtain⟨l,e,h⟩:=map_eq_some_iff.mp h;cases h;rw[ih e];rfl
set_option tactic.hygienic true in
theorem rR{ts:List Str}(h:l5 xs=some ts):xs=ts.map PV.str:=by
 induction xs generalizing ts with
 |nil=>cases h;rfl
 |cons x xs ih=>
  cases x<;>first|cases h;done|skip
  rename_i i;obtain⟨l,e,h⟩:=map_eq_some_iff.mp h;cases h;rw[ih e];rfl
theorem wQ{ts:List Str}(h:aC ad vs (ts.map PV.str)):∃l:List (Str×Tok),vs=strValues l/\l.map (·.1)=ts:=by
 induction ts generalizing vs with
 |nil=>cases h;exact⟨[],rfl,rfl⟩
 |cons t ts ih=>
  cases h with
  |cons a b=>obtain⟨l,e1,e2⟩:=ih b;obtain⟨⟨k,rfl⟩,_⟩:=a;exact⟨(t,k)::l,by rw[e1];rfl,by rw[map_cons,e2]⟩
theorem xI(h:aC ad vs (ns.map PV.int)):∃l:List (Int×Tok),vs=l.map (λp=>Value.int p.1 p.2)/\l.map (·.1)=ns:=by
 induction ns generalizing vs with
 |nil=>cases h;exact⟨[],rfl,rfl⟩
 |cons t ts ih=>
  cases h with
  |cons a b=>obtain⟨l,e1,e2⟩:=ih b;obtain⟨k,rfl⟩:=a;exact⟨(t,k)::l,by rw[e1];rfl,by rw[map_cons,e2]⟩
theorem kD(l:List (Int×Tok)):∀j,j<=l.length->preSum (numAt l.toArray) j=((l.map (·.1)).take j).sum:=by
 intro j;induction j with
 |zero=>intro _;simp[preSum]
 |succ j ih=>intro h;rw[preSum,ih (by(exact Nat.le_of_lt (by assumption))),List.take_succ_eq_append_getElem (by rw[length_map];assumption),List.sum_append];simp[numAt,List.getElem?_eq_getElem (show j<l.length by lia)]
theorem xk(ns:List Int)(h:∀n∈ns,n.natAbs<2^40):ns.sum.natAbs<=ns.length*2^40:=by
 induction ns with
 |nil=>simp
 |cons n ns ih=>have h1:=h n (mem_cons_self ..);have h2:=ih λm hm=>h m (mem_cons_of_mem _ hm);rw[sum_cons,length_cons,Nat.succ_mul,add_comm (_*_)];exact Nat.le_trans (Int.natAbs_add_le ..) (add_le_add (Nat.le_of_lt h1) h2)
theorem fe(h:strOk x=true):az G.ad (.str x k) (.str x):=⟨⟨_,rfl⟩,h⟩
theorem qL{t:Tok}(I:Inv Z s G V)(h:strOk x=true):Run Z prog w A fp G s (call (.builtin "len") [.str x t]) V (bj (.int x.length)):=
 have:x.length<=1000000:=of_decide_eq_true h
 ay I λQ E q=>P.len_str (by lia) (q _ _ (by lia) ⟨_,rfl⟩)
theorem o6(I:Inv Z s G V)(ha:G.ad[i]?=some a)(e:V[i]?=some (.list xs)):Run Z prog w A fp G s (call (.builtin "len") [.ref a]) V (bj (.int xs.length)):=by obtain⟨hl,vs,n,g,r⟩:=bp I ha e;have:lim=1000000:=rfl;refine ay I λQ E q=>PySem.Calls.call_len_list (items:=vs.toArray) ⟨_,g,rfl,n,rfl⟩ (by rw[size_toArray,r.length];lia) (q _ _ (by lia) ⟨s.toks+1,?_⟩);rw[size_toArray,r.length]
theorem rU(I:Inv Z s G V)(ha:G.ad[i]?=some a)(e:V[i]?=some (.tup xs)):Run Z prog w A fp G s (call (.builtin "len") [.ref a]) V (bj (.int xs.length)):=by obtain⟨hl,vs,n,g,r⟩:=iu I ha e;have:lim=1000000:=rfl;refine ay I λQ E q=>P.len_tuple (items:=vs.toArray) g (by rw[size_toArray,r.length];lia) (q _ _ (by lia) ⟨s.toks+1,?_⟩);rw[size_toArray,r.length]
theorem Cb{x y:Int}{t u:Tok}(I:Inv Z s G V)(hh:A.handled=none):Run Z prog w A fp G s (call (.builtin "max") [.int x t,.int y u]) V (bj (.int (if x<y then y else x))):=
 gF I λQ E q=>max_two_ints hh λh' tk hk=>q _ h' tk hk (by split<;>exact⟨_,rfl⟩)
theorem DX(I:Inv Z s G V)(hh:A.handled=none)(ha:G.ad[i]?=some a)(e:V[i]?=some (.list (ns.map PV.int)))(h1:∀n∈ns,n.natAbs<2^40)(h2:ns.length<=1000):Run Z prog w A fp G s (call (.builtin "sum") [.ref a]) V (bj (.int ns.sum)):=by
 obtain⟨hl,vs,n,g,r⟩:=bp I ha e;obtain⟨l,rfl,rfl⟩:=xI r;have hlen:l.length<=1000:=by simpa using h2
 refine gF I λQ E q=>sum_intList (xs:=l.toArray) hh ⟨_,g,rfl,n,?_⟩ (λj hj=>?_) λh' tk t' hk=>?_
 ·simp[intItems]
 ·have hj':j<l.length:=by simpa using hj
  refine⟨?_,?_⟩
  ·have:numAt l.toArray j=l[j].1:=by simp[numAt,List.getElem?_eq_getElem hj']
   rw[this];have:=A0 (Nat.le_of_lt (h1 l[j].1 (mem_map.mpr ⟨l[j],getElem_mem _,rfl⟩)));exact⟨Int.le_trans (by decide) this.1,Int.lt_of_le_of_lt this.2 (by decide)⟩
  ·rw[kD l (j+1) hj'];have h3:=xk ((l.map (·.1)).take (j+1)) λn hn=>h1 n (List.mem_of_mem_take hn);have h4:((l.map (·.1)).take (j+1)).length<=1000:=Nat.le_trans (List.length_take_le ..) (Nat.le_trans (Nat.succ_le_of_lt hj') hlen);have:=A0 (Nat.le_trans h3 (Nat.mul_le_mul_right _ h4));exact⟨Int.le_trans (by decide) this.1,Int.lt_of_le_of_lt this.2 (by decide)⟩
 ·have:=q (.int (preSum (numAt l.toArray) l.toArray.size) t') h' tk hk ⟨t',by rw[show l.toArray.size=l.length from rfl,kD l _ (le_refl _),List.take_of_length_le (by simp)]⟩;exact this
theorem xf{t:Tok}(I:Inv Z s G V)(h:strOk (Txt.upper x)=true):Run Z prog w A fp G s (call (.builtin "str.upper") [.str x t]) V (bj (.str (Txt.upper x))):=
 ay I λQ E q=>SC.upper (lS h) (q _ _ (le_succ _) (fe h))
theorem B6{x y:Int}{t u:Tok}(I:Inv Z s G V)(hh:A.handled=none):Run Z prog w A fp G s (call (.builtin "min") [.int x t,.int y u]) V (bj (.int (if y<x then y else x))):=
 gF I λQ E q=>min_two_ints hh λh' tk hk=>q _ h' tk hk (by split<;>exact⟨_,rfl⟩)
theorem xi{t:Tok}(I:Inv Z s G V)(h:strOk (Txt.lower x)=true):Run Z prog w A fp G s (call (.builtin "str.lower") [.str x t]) V (bj (.str (Txt.lower x))):=
 ay I λQ E q=>SC.lower (lS h) (q _ _ (le_succ _) (fe h))
theorem kh{t:Tok}(I:Inv Z s G V):Run Z prog w A fp G s (call (.builtin "str.isspace") [.str x t]) V (bj (.bool (Txt.isspace x))):=
 ay I λQ E q=>SC.isspace (q _ s.toks (le_refl _) rfl)
theorem zQ{t:Tok}{ts:List Str}(I:Inv Z s G V)(ha:G.ad[i]?=some a)(e:V[i]?=some (.list (ts.map PV.str)))(hok:JoinOk x ts=true)(h:strOk (Txt.join x ts)=true):Run Z prog w A fp G s (call (.builtin "str.join") [.str x t,.ref a]) V (bj (.str (Txt.join x ts))):=by obtain⟨hl,vs,n,g,r⟩:=bp I ha e;obtain⟨l,rfl,rfl⟩:=wQ r;exact gF I λQ E q=>SC.join ⟨_,g,rfl,n,rfl⟩ rfl hok λt' k=>q _ s.heap k (λ_ _ e=>e) (fe h)
theorem lQ{x:Value}(I:Inv Z s G V)(ha:G.ad[i]?=some a)(e:V[i]?=some (.list xs))(hl:xs.length<lim)(rv:az G.ad x v):Run Z prog w A fp G s (call (.builtin "list.append") [.ref a,x]) (V.set i (.list (xs++[v]))) (bj .none):=by obtain⟨_,vs,n,g,r⟩:=bp I ha e;have hn:=r.length;have:lim=1000000:=rfl;refine vF I ha e (λh' r=>⟨_,r.2.choose_spec.choose_spec.1⟩) λQ E q=>append_at (its:=vs.toArray) g (λh' hs g'=>?_) (by rw[sizeLine_eq,size_toArray];lia);refine q _ h' s.toks hs ⟨by simp;assumption,vs++[x],n+1,?_,r.append (.one rv)⟩ (le_refl _) rfl;rw[g'];simp[aT]
theorem tW{b:Int}{t:Tok}(I:Inv Z s G V):Run Z prog w A fp G s (call (.type "range") [.int b t]) (V++[.rng 0 b 1]) (bj (.ref V.length)):=
 dh (ob:=Cj 0 b 1 s.toks t (s.toks+1)) I rfl ⟨_,_,_,Heap.get?_push_size _ rfl⟩ λQ E q=>call_range_1 (q _ (by lia))
theorem sZ{a b:Int}{t u:Tok}(I:Inv Z s G V):Run Z prog w A fp G s (call (.type "range") [.int a t,.int b u]) (V++[.rng a b 1]) (bj (.ref V.length)):=
 dh (ob:=Cj a b 1 t u s.toks) I rfl ⟨_,_,_,Heap.get?_push_size _ rfl⟩ λQ E q=>call_range_2 (q _ (by(exact le_succ _)))
theorem uf{a b:Int}{t u v:Tok}(I:Inv Z s G V)(hc:c≠0)(hs:c.natAbs<2^28):Run Z prog w A fp G s (call (.type "range") [.int a t,.int b u,.int c v]) (V++[.rng a b c]) (bj (.ref V.length)):=
 dh (ob:=Cj a b c t u v) I rfl ⟨_,_,_,Heap.get?_push_size _ rfl⟩ λQ E q=>call_range_3 hc (q _ (le_refl _)) (Or.inl (PyProof.noPylong_small (by(exact Nat.le_trans (by assumption) (le_add_left ..)))))
theorem Inv.newAt(I:Inv Z s G V){t:Nat}(ht:s.toks<=t)(hk:∀b o,s.heap.get? b=some o->h'.get? b=some o)(ha:s.heap.get? a=none)(hn:Z.n₀<=a)(hl:∃ob,h'.get? a=some ob) (h:gn h' (G.add a V.length) V.length a o):Inv Z {s with heap:=h',toks:=t} (G.add a V.length) (V++[o])where
 top:=Z.keeps _ _ I.top λb o hb e=>.inl (hk b o e)
 len:=by simp[Gh.add,I.len]
 rep i o' e:=by
  have ne:∀b x,G.own b=some x->b≠a:=λb x ow q=>by rw[I.fresh b (q▸ha)]at ow;cases ow
  by_cases hi:i<V.length
  ·rw[List.getElem?_append_left hi]at e;obtain⟨b,h1,h2,h3⟩:=I.rep i o' e;exact⟨b,bD ⟨_,rfl⟩ h1,(Gh.add_ne (ne b _ h2)).trans h2,h3.keep (λo e=>hk b o e) (λd ow=>⟨λo e=>hk d o e,(Gh.add_ne (ne d _ ow)).trans ow⟩) ⟨_,rfl⟩⟩
  ·have:i=V.length:=by have:=(List.getElem?_eq_some_iff.mp e).1;simp at this;lia
   subst this;simp at e;subst e;exact⟨a,by simp[Gh.add,<-I.len],by simp[Gh.add],h⟩
 fresh b hb:=by
  have hb':h'.get? b=none:=hb;have ne:b≠a:=λq=>by obtain⟨ob,e⟩:=hl;rw[q,e]at hb';cases hb'
  refine(Gh.add_ne ne).trans (I.fresh b ?_);cases e:s.heap.get? b with
  |none=>rfl
  |some o=>rw[hk b o e]at hb';cases hb'
 old b hb:=(Gh.add_ne (λ(q:b=a)=>absurd hb (not_lt.mpr (by rw[q];exact hn)))).trans (I.old b hb)
 bare:=I.bare
 tok:=Nat.le_trans I.tok ht
theorem aK.newAt(I:Inv Z s G V){t:Nat}(hk:∀b o,s.heap.get? b=some o->h'.get? b=some o)(ha:s.heap.get? a=none):aK fp G s (G.add a i) {s with heap:=h',toks:=t}:=
 ⟨λb x e=>(Gh.add_ne (λq=>by rw[I.fresh b (q▸ha)]at e;cases e)).trans e,⟨_,rfl⟩,λb o e h _ _=>⟨hk b o e,(Gh.add_ne (λq=>by rw[q,ha]at e;cases e)).trans h⟩,rfl,rfl⟩
theorem nD{t:Sem Value}(I:Inv Z s G V) (h:∀(Q:Value->Shared->Prop) (E:Value->Shared->Prop),(∀a h' k,(∀b o,s.heap.get? b=some o->h'.get? b=some o)->s.heap.get? a=none->Z.n₀<=a->(∃ob,h'.get? a=some ob)->gn h' (G.add a V.length) V.length a o->Q (.ref a) {s with heap:=h',toks:=k})->wpAny (model prog w) A t Q E s):Run Z prog w A fp G s t (V++[o]) (bj (.ref V.length)):=
 λQ E q=>cy (h _ E λa h' k hk ha hn hl ho l=>q _ _ _ (I.newAt l.1 hk ha hn hl ho) (aK.newAt I hk ha) ⟨_,Gh.add_at I _ _,rfl⟩)
theorem wS(I:Inv Z s G V)(ha:G.ad[i]?=some a)(e:V[i]?=some (.list xs)):Run Z prog w A fp G s (call (.type "tuple") [.ref a]) (V++[.tup xs]) (bj (.ref V.length)):=by
 obtain⟨hl,vs,n,g,r⟩:=bp I ha e;refine nD I λQ E q=>call_tuple_list (items:=vs.toArray) ⟨_,g,rfl,n,rfl⟩ (λh' hk=>?_) (by rw[size_toArray,r.length];exact Nat.le_trans hl cM);have hno:s.heap.get? h'.objs.size=none:=by
  cases e:s.heap.get? h'.objs.size with
  |none=>rfl
  |some o=>exact absurd (lt_size (hk _ _ e)) (lt_irrefl _)
 refine q _ _ s.toks (λb o e=>Heap.get?_push_of_some _ (hk b o e)) hno (Z.size h' (Z.keeps _ _ I.top λb o _ e=>.inl (hk b o e))) ⟨_,Heap.get?_push_size _ rfl⟩ ⟨hl,vs,0,Heap.get?_push_size _ rfl,bf ⟨_,rfl⟩ r⟩
theorem oM{a:Int}{acc:Array Value}(h:ItemsOf (λi v=>∃t,v=.int (a+i*c) t) acc n):aC ad acc.toList (((List.range n).map λ(k:Nat)=>a+c*k).map PV.int):=by
 obtain⟨hs,hi⟩:=h;have key:∀(l:List Value) (k:Nat),(∀(j:Nat) (v:Value),l[j]?=some v->∃t,v=Value.int (a+((k+j:Nat):Int)*c) t)->aC ad l (((List.range' k l.length).map λ(k:Nat)=>a+c*k).map PV.int):=by
  intro l;induction l with
  |nil=>intro k _;exact .nil
  |cons x l ih=>
   intro k hl;rw[length_cons,List.range'_succ,map_cons,map_cons];refine .cons ?_ (ih (k+1) λj v e=>?_)
   ·obtain⟨t,rfl⟩:=hl 0 x rfl;exact⟨t,by simp[Int.mul_comm]⟩
   ·have:=hl (j+1) v (by simpa using e);rw[show k+1+j=k+(j+1) by(exact add_right_comm ..)];exact this
 have:=key acc.toList 0 λj v e=>by obtain⟨t,e⟩:=hi j v (by simpa using e);exact⟨t,by simpa using e⟩
 rw[<-List.range_eq_range',show acc.toList.length=n by simpa using hs]at this;exact this
theorem m7{r:Addr}{a b:Int}(I:Inv Z s G V)(hh:A.handled=none)(ha:G.ad[i]?=some r)(e:V[i]?=some (.rng a b c))(hs:Builtin.Range.small a b c=true)(hl:(cm a b c).length<=lim):Run Z prog w A fp G s (call (.type "list") [.ref r]) (V++[.list ((cm a b c).map PV.int)]) (bj (.ref V.length)):=by
 obtain⟨t,u,v,g⟩:=(I.at e ha).2;have hn:(cm a b c).length=(Builtin.Range.rangeSize a b c).toNat:=by simp[cm]
 have hpos:0<=Builtin.Range.rangeSize a b c:=by
  unfold Builtin.Range.rangeSize;split
  ·split
   ·have:=Int.ediv_nonneg (show 0<=b-a-1 by lia) (show 0<=c by(exact Int.le_of_lt (by assumption)));omega
   ·simp_all
  ·split
   ·have:=Int.ediv_nonneg (show 0<=a-b-1 by lia) (show 0<= -c by simp_all);omega
   ·lia
 have:lim=1000000:=rfl;have nw:s.heap.get? s.heap.objs.size=none:=bb (le_refl _);refine nD I λQ E q=>call_list_range hh g hs (Int.toNat_of_nonneg hpos).symm (by lia) λh' tk acc c' hk hg hacc=>?_;have hr:=oM (ad:=(G.add s.heap.objs.size V.length).ad) hacc;exact q _ h' tk hk nw I.above ⟨_,hg⟩ ⟨by simpa using hl,acc.toList,c',by rw[hg],hr⟩
theorem fD{o:Expr}{t:Sem Value}(h:aH o=true):attributeBase o x env t=t:=by
 cases o with
 |Call f as kws p=>
  cases f<;>first|exact Eq.refl t|skip
  cases as with
  |cons _ _=>exact Eq.refl t
  |nil=>
   cases kws with
   |cons _ _=>exact Eq.refl t
   |nil=>cases h
 |_=>exact Eq.refl t
theorem iw{rest:List Expr}(h:aE e=true):starEach (e::rest) env=(false,eval e env)::starEach rest env:=by cases e<;>first|rfl|cases h
section
variable {α β:Type}
theorem Run.stand{t:Sem α}{P:Gh->Shared->α->Prop}(h:Run Z prog w A fp G s t V P):Run Z prog w A fp G s (standAt p>>=λ_=>t) V P:=
 λQ E q=>wpAny_bind (wpAny_standAt (h Q E q))
theorem Run.hold{t:Sem α}{P:Gh->Shared->α->Prop}(h:Run Z prog w A fp G s t V P):Run Z prog w A fp G s (holding vs t) V P:=
 λQ E q=>wpAny_holding (h Q E q)
theorem Run.oper{t:Sem Value}{P:Gh->Shared->Value->Prop}(h:Run Z prog w A fp G s t V P):Run Z prog w A fp G s (operate vs t) V P:=
 λQ E q=>wpAny_operating (h Q E q)
theorem Run.nil{t:Sem α}{P:Gh->Shared->α->Prop}(h:Run Z prog w A [] G s t V P):Run Z prog w A fp G s t V P:=h.weak λ_ h=>nomatch h
theorem Run.later{t:Sem α}{P:Gh->Shared->α->Prop}(h:Run Z prog w A fp G s t V P):Run Z prog w A fp G s t V (λG' s' a=>Later s s'/\P G' s' a):=
 λQ E q=>cy (h _ E λa s' G' I S p l=>q a s' G' I S ⟨l,p⟩)
end
noncomputable def BO(ad:List Addr)(fl:Flow):a9->Prop
 | .next=>fl=.next
 | .brk=>fl=.brk
 | .cont=>fl=.cont
 | .ret v=>∃y,fl=.ret y/\az ad y v
noncomputable abbrev qV(Z:dK)(env:Env)(sc:Scope)(m':Loc)(f:a9):Gh->Shared->Flow->Prop:=λG' s' fl=>aF Z env sc m' G' s'.heap/\BO G'.ad fl f
def jm(Z:dK)(prog:Program)(w:World)(A:Around)(G:Gh)(s:Shared)(c:Code)(V':aI)(P:Gh->Shared->Value->Prop):Prop:=
 ∀(Q:Value->Shared->Prop) (E:Value->Shared->Prop),(∀a s' G',Inv Z s' G' V'->aK [] G s G' s'->P G' s' a->Q a s')->codeAny (model prog w) A c (λr s'=>match r with| .ok (.ret v)=>Q v s'| .ok _=>False| .error e=>E e s') s
theorem jm.call{P:Gh->Shared->Value->Prop}(h:jm Z prog w A G s (.call f ⟨vs,[]⟩) V' P):Run Z prog w A [] G s (PySem.call f vs) V' P:=λQ E q=>wpAny_call (h Q E q)
structure aP(Z:dK)(prog:Program)(w:World)(ev:Ev)(n:Nat):Prop where
 e:∀{A:Around} {env:Env} {sc:Scope} {m:Loc} {x:Expr} {v:PV} {V V':aI} {G:Gh} {s:Shared},ev.e sc m x V=some (v,V')->Inv Z s G V->aF Z env sc m G s.heap->aL (n+20) A->Run Z prog w A [] G s (eval x env) V' (bj v)
 b:∀{A:Around} {env:Env} {sc:Scope} {m:Loc} {x:Expr} {v:Bool} {V V':aI} {G:Gh} {s:Shared},ev.b sc m x V=some (v,V')->Inv Z s G V->aF Z env sc m G s.heap->aL (n+20) A->Run Z prog w A [] G s (isTrue x env (eval x env)) V' (ub v)
 ss:∀{A:Around} {env:Env} {sc:Scope} {m m':Loc} {l:List Stmt} {f:a9} {V V':aI} {G:Gh} {s:Shared},ev.ss sc m l V=some ((f,m'),V')->Inv Z s G V->aF Z env sc m G s.heap->aL (n+20) A->Run Z prog w A (bB env) G s (execs l env) V' (qV Z env sc m' f)
 call:∀{A:Around} {a:Addr} {as:List PV} {vs:List Value} {v:PV} {V V':aI} {G:Gh} {s:Shared},ev.call a as V=some (v,V')->Inv Z s G V->aC G.ad vs as->aL (n+20) A->jm Z prog w A G s (.call (.ref a) ⟨vs,[]⟩) V' (bj v)
structure bC(Z:dK)(prog:Program)(w:World)(T:kp):Prop extends Names Z T where
 tok:1<=Z.t₀
 getA:∀{A:Around} {o v:PV} {x:Str} {ov:Value} {V V':aI} {G:Gh} {s:Shared},dW T o x V=some (v,V')->Inv Z s G V->az G.ad ov o->aL 1 A->Run Z prog w A [] G s (getAttr ov x true) V' (bj v)
 setA:∀{A:Around} {o v:PV} {x:Str} {ov y:Value} {V V':aI} {G:Gh} {s:Shared},ez T o x v V=some ((),V')->Inv Z s G V->az G.ad ov o->az G.ad y v->aL 1 A->Run Z prog w A [] G s (setAttr ov x y) V' Hz
 meth:∀{A:Around} {i:Nat} {f:PV} {x:Str} {ov:Value} {V V':aI} {G:Gh} {s:Shared} {pl:Sem Bool},bx T (.ref i) x V=some (f,V')->(∀l,V[i]?≠some (.list l))->Inv Z s G V->az G.ad ov (.ref i)->aL 1 A->Run Z prog w A [] G s (getMethod ov x pl) V' (λG _ p=>∃fv,p=(fv,[ov])/\az G.ad fv f)
 bound:∀{A:Around} {i:Nat} {a:Addr} {x:Str} {ov:Value} {V V':aI} {G:Gh} {s:Shared},bx T (.ref i) x V=some (.obj a,V')->T.cls a=none->Inv Z s G V->az G.ad ov (.ref i)->aL 1 A->Run Z prog w A [] G s (getAttr ov x true) V' (λG' s' b=>∃ba,b=.ref ba/\G'.own ba=none/\s'.heap.get? ba=some {cls:=.type "method",data:=.fields #[.ref a,ov]})
 item:∀{A:Around} {i j:Nat} {C:Addr} {fs:List (Str×PV)} {xs:List PV} {v:PV} {k:Int} {t:Tok} {ov:Value} {V:aI} {G:Gh} {s:Shared},V[i]?=some (.acc C fs xs)->(T.cls C).any (·.isAcc)=true->0<=k->place k xs.length=some j->xs[j]?=some v->Inv Z s G V->az G.ad ov (.ref i)->aL 1 A->Run Z prog w A [] G s (getItem ov (.int k t)) V (bj v)
 itemPy:∀{A:Around} {i:Nat} {C:Addr} {fs:List (Str×PV)} {xs:List PV} {ov:Value} {V:aI} {G:Gh} {s:Shared},V[i]?=some (.acc C fs xs)->(T.cls C).any (·.isAcc)=true->Inv Z s G V->az G.ad ov (.ref i)->Run Z prog w A [] G s (getitemInPython ov) V (ub false)
 lenA:∀{A:Around} {i:Nat} {v:PV} {C:Addr} {fs:List (Str×PV)} {xs:List PV} {ov:Value} {V V':aI} {G:Gh} {s:Shared},V[i]?=some (.acc C fs xs)->T.lenA i V=some (v,V')->Inv Z s G V->az G.ad ov (.ref i)->aL 10 A->Run Z prog w A [] G s (call (.builtin "len") [ov]) V' (bj v)
 strA:∀{A:Around} {i:Nat} {v:PV} {C:Addr} {fs:List (Str×PV)} {xs:List PV} {ov:Value} {V V':aI} {G:Gh} {s:Shared},V[i]?=some (.acc C fs xs)->T.strA i V=some (v,V')->Inv Z s G V->az G.ad ov (.ref i)->aL 10 A->Run Z prog w A [] G s (call (.type "str") [ov]) V' (bj v)
 isCls:∀{a:Addr} {c:x7} {A:Around} {pos:Pos} {first:List Value} {args:List (Bool×Sem Value)} {Q:Value->Shared->Prop} {E:Value->Shared->Prop} {s:Shared},T.cls a=some c->args.any (·.1)=false->wpAny (model prog w) A (evalArgs (.ref a) true args []) (λx LK=>Z.P LK.heap/\wpAny (model prog w) A (PySem.call (.ref a) (first++x.pos) x.kw) Q E LK) E s->wpAny (model prog w) A (callWith pos (.ref a) first args []) Q E s
 isFn:∀{a:Addr} {h:Heap},T.cls a=none->(T.fn a).isSome=true->Z.P h->∃o fd,h.get? a=some o/\o.data=.func fd
 prim:∀{A:Around} {a:Addr} {p:List PV->Mo PV} {as:List PV} {vs:List Value} {v:PV} {V V':aI} {G:Gh} {s:Shared},T.prim a=some p->p as V=some (v,V')->Inv Z s G V->aC G.ad vs as->aL 10 A->jm Z prog w A G s (.call (.ref a) ⟨vs,[]⟩) V' (bj v)
 make:∀{A:Around} {C f:Addr} {c:x7} {as:List PV} {vs:List Value} {V V':aI} {G:Gh} {s:Shared},T.cls C=some c->c.init=some f->Inv Z s G V->aC G.ad vs as->aL 5 A->(∀{A':Around} {G':Gh} {s':Shared} {vs':List Value},A'.handled=none->A'.depth<=A.depth+2->A'.units<=A.units+20->Inv Z s' G' (V++[if c.isAcc then .acc C [] []else .inst C []])->aC G'.ad vs' (.ref V.length::as)->jm Z prog w A' G' s' (.call (.ref f) ⟨vs',[]⟩) V' (bj .none))->Run Z prog w A [] G s (call (.ref C) vs) V' (bj (.ref V.length))
theorem pI(H:aP Z prog w ev n){op:BoolOp}(h:lw ev sc m op es V=some (v,V'))(I:Inv Z s G V)(F:aF Z env sc m G s.heap)(hA:aL (n+20) A):Run Z prog w A [] G s (boolOp pos op (evalEach es env)) V' (bj v):=by
 induction es generalizing V s G with
 |nil=>cases h
 |cons e r ih=>
  cases r with
  |nil=>exact H.e h I F hA
  |cons e' r=>
   refine aj h λMb V1 h1 h=>?_;refine aj h λt V2 h2 h=>?_;refine(?_:Run Z prog w A [] G s (eval e env>>=λv=>standAt pos>>=λ_=>holding [v] (truthy v)>>=λt=>_) V' _);refine Run.bind (H.e h1 I F hA) λy LK G₁ I₁ S1 LM=>Run.stand (Run.bind (Run.hold (bL h2 I₁ LM)) λb LL G₂ I₂ S2 L0=>?_);subst L0;have F₂:=(F.keepE S1).keepE S2;cases op<;>cases b<;>dsimp only at h⊢
   ·obtain⟨rfl,rfl⟩:=af h;exact Run.pure I₂ (LM.mono S2.ad)
   ·exact ih h I₂ F₂
   ·exact ih h I₂ F₂
   ·obtain⟨rfl,rfl⟩:=af h;exact Run.pure I₂ (LM.mono S2.ad)
theorem oG(H:aP Z prog w ev n){op:BoolOp}{v:Bool}(h:jp ev sc m op es V=some (v,V'))(I:Inv Z s G V)(F:aF Z env sc m G s.heap)(hA:aL (n+20) A):Run Z prog w A [] G s (allTrue op es env) V' (ub v):=by
 induction es generalizing V s G with
 |nil=>obtain⟨rfl,rfl⟩:=af h;exact Run.pure I rfl
 |cons e r ih=>
  refine aj h λt V1 h1 h=>?_;rw[arm_allTrue_cons];refine Run.bind (H.b h1 I F hA) λb LK G₁ I₁ S1 Ma=>?_;subst Ma;have F₁:=F.keepE S1;cases op<;>cases b<;>dsimp only at h⊢
  ·obtain⟨rfl,rfl⟩:=af h;exact Run.pure I₁ rfl
  ·exact ih h I₁ F₁
  ·exact ih h I₁ F₁
  ·obtain⟨rfl,rfl⟩:=af h;exact Run.pure I₁ rfl
theorem nk{us:List PV}(h:sr ev sc m es V=some (us,V')):((backTo pos (starEach es env)).any (·.1)=false)/\((backTo pos (starEach es env)).all (!·.1)=true):=by
 induction es generalizing V us with
 |nil=>exact⟨rfl,rfl⟩
 |cons e r ih=>refine ag h λhs h=>?_;refine aj h λv V2 h1 h=>?_;refine aj h λus' V3 h2 h=>?_;obtain⟨rfl,rfl⟩:=af h;rw[iw hs];obtain⟨i1,i2⟩:=ih h2;exact⟨by show(false||_)=false;rw[Bool.false_or];exact i1,by show(true&&_)=true;rw[Bool.true_and];exact i2⟩
theorem eK(H:aP Z prog w ev n){vs:List PV}(h:sr ev sc m es V=some (vs,V'))(I:Inv Z s G V)(F:aF Z env sc m G s.heap)(hA:aL (n+20) A):Run Z prog w A [] G s (spliced (backTo pos (starEach es env))) V' (λG _ ys=>aC G.ad ys vs):=by
 induction es generalizing V s G vs with
 |nil=>obtain⟨rfl,rfl⟩:=af h;exact Run.pure I .nil
 |cons e r ih=>refine ag h λhs h=>?_;refine aj h λv V1 h1 h=>?_;refine aj h λus V2 h2 h=>?_;obtain⟨rfl,rfl⟩:=af h;rw[iw hs];have eq:backTo pos ((false,eval e env)::starEach r env)=(false,eval e env)::backTo pos (starEach r env):=rfl;rw[eq];refine λQ E q=>Calls.spliced_cons ?_;refine H.e h1 I F hA _ E λy LK G₁ I₁ S1 LM=>?_;exact ih h2 I₁ (F.keepE S1) _ E λys LL G₂ I₂ S2 LW=>q _ _ _ I₂ (S1.trans S2) (.cons (LM.mono S2.ad) LW)
theorem mJ(H:aP Z prog w ev n){vs:List PV}(h:sr ev sc m es V=some (vs,V'))(I:Inv Z s G V)(F:aF Z env sc m G s.heap)(hA:aL (n+20) A):Run Z prog w A [] G s (evalArgs f true (backTo pos (starEach es env)) []) V' (λG _ a=>a.kw=[]/\aC G.ad a.pos vs):=by
 cases es with
 |nil=>obtain⟨rfl,rfl⟩:=af h;exact λQ E q=>PySem.evalArgs_none (q _ s G I (aK.refl _ _ _) ⟨rfl,.nil⟩)
 |cons e r=>refine ag h λhs _=>?_;have sp:=eK H (pos:=pos) h I F hA;rw[iw hs]at sp⊢;exact λQ E q=>Calls.evalArgs_plain (sp _ E λys LK G₁ I₁ S1 LM=>q _ _ _ I₁ S1 ⟨rfl,LM⟩)
section
theorem EJ{a:PV}(h:aC ad vs [a]):∃x,vs=[x]/\az ad x a:=by
 cases h with
 |cons r h=>cases h;exact⟨_,rfl,r⟩
theorem IV{a b:PV}(h:aC ad vs [a,b]):∃x y,vs=[x,y]/\az ad x a/\az ad y b:=by
 cases h with
 |cons r h=>obtain⟨y,rfl,q⟩:=EJ h;exact⟨_,y,rfl,r,q⟩
theorem qF(h:aC ad vs (ns.map PV.int)):IntsAre vs ns:=by
 induction ns generalizing vs with
 |nil=>cases h;exact .nil
 |cons n ns ih=>
  cases h with
  |cons a b=>obtain⟨t,rfl⟩:=a;exact .cons n t (ih b)
theorem ms{r:Int}(h:cL v=some r):v=.int r:=by cases v<;>cases h;rfl
theorem dS{r:Str}(h:gf v=some r):v=.str r:=by cases v<;>cases h;rfl
theorem dN{α:Type}{f:PV->Option α}{K:α->List PV->Mo PV}{r:PV×aI}(h:pop f K as V=some r)(rv:aC ad vs as){P:Prop} (k:∀a x t v ws,f a=some x->az ad v a->vs=v::ws->aC ad ws t->K x t V=some r->P):P:=by
 cases rv with
 |nil=>cases h
 |cons ra rv=>
  exact match e:f _,(show KQ _ (f _) V=some r from h)with
  |some x,h=>k _ _ _ _ _ e ra rfl rv h
theorem kS{x:Mo PV}{r:PV×aI}(h:bn x as V=some r)(rv:aC ad vs as):vs=[]/\x V=some r:=by
 cases rv with
 |nil=>exact⟨rfl,h⟩
 |cons _ _=>cases h
theorem fj{K:Nat->Mo PV}{q:PV×aI}(h:pop bX (λr=>bn (K r)) as V=some q)(rv:aC ad vs as):∃r v,vs=[v]/\az ad v (.ref r)/\K r V=some q:=
 dN h rv λ_ x _ v _ ea ra ev rv h=>by obtain⟨rfl,h⟩:=kS h rv;exact⟨x,v,ev,b8 ea▸ra,h⟩
theorem CH{α:Type}{f:PV->Option α}{c:α->PV}(hf:∀{b y},f b=some y->b=c y){K:Nat->α->Mo PV}{q:PV×aI}(h:pop bX (λr=>pop f λy=>bn (K r y)) as V=some q)(rv:aC ad vs as):∃r y v u,vs=[v,u]/\az ad v (.ref r)/\az ad u (c y)/\K r y V=some q:=
 dN h rv λ_ x _ v _ ea ra ev rv h=>dN h rv λ_ y _ u _ eb rb eu rv h=>by obtain⟨rfl,h⟩:=kS h rv;exact⟨x,y,v,u,ev.trans (congrArg (v::·) eu),b8 ea▸ra,hf eb▸rb,h⟩
theorem gG{α:Type}{as:List α}{a:α}(h:one as=some a):as=[a]:=by
 cases as with
 |nil=>cases h
 |cons a as=>cases as with
  |nil=>cases h;rfl
  |cons _ _=>cases h
theorem tM{α:Type}{as:List α}{p:α×α}(h:two as=some p):as=[p.1,p.2]:=by
 cases as with
 |nil=>cases h
 |cons a as=>cases as with
  |nil=>cases h
  |cons b as=>cases as with
   |nil=>cases h;rfl
   |cons _ _=>cases h
theorem cz{f:PV->Mo PV}{t:Sem Value}{c:List Value->Sem Value}(h:oA f as V=some (v,V'))(rr:aC G.ad vs as)(ht:t=c vs) (k:∀a x,az G.ad x a->f a V=some (v,V')->Run Z prog w A fp G s (c [x]) V' (bj v)):Run Z prog w A fp G s t V' (bj v):=by refine ah h λa e h=>?_;rw[gG e]at rr;obtain⟨x,rfl,r⟩:=EJ rr;exact ht▸k a x r h
theorem db{f:PV->PV->Mo PV}{t:Sem Value}{c:List Value->Sem Value}(h:sJ f as V=some (v,V'))(rr:aC G.ad vs as)(ht:t=c vs) (k:∀a b x y,az G.ad x a->az G.ad y b->f a b V=some (v,V')->Run Z prog w A fp G s (c [x,y]) V' (bj v)):Run Z prog w A fp G s t V' (bj v):=by refine ah h λp e h=>?_;rw[tM e]at rr;obtain⟨x,y,rfl,r,r'⟩:=IV rr;exact ht▸k _ _ x y r r' h
theorem jt{x:Value}(e:bX v=some i)(r:az ad x v):∃a,ad[i]?=some a/\x=.ref a:=by cases v<;>cases e;exact r
variable {a b:PV}{x:Value}
theorem sU(R:bC Z prog w T)(r:az G.ad x a)(h:y4 T a V=some (v,V'))(I:Inv Z s G V)(hA:aL 10 A):Run Z prog w A [] G s (call (.builtin "len") [x]) V' (bj v):=by
 cases a<;>first|exact(aQ h).elim|(cases h;done)|skip
 ·obtain⟨⟨t,rfl⟩,hk⟩:=r;obtain⟨rfl,rfl⟩:=af h;exact qL I hk
 ·refine aM h λo e h=>?_;have r':=r;obtain⟨a,ha,rfl⟩:=cu r';cases o with
  |list xs=>obtain⟨rfl,rfl⟩:=af h;exact o6 I ha e
  |tup xs=>obtain⟨rfl,rfl⟩:=af h;exact rU I ha e
  |acc C fs xs=>exact R.lenA e h I r hA
  |_=>first|exact(aQ h).elim|cases h
theorem fM{P:Prop}(r:az G.ad x a)(h:listAt a V=some (xs,V1))(k:∀(i:Nat) (c:Addr),G.ad[i]?=some c->x=.ref c->V[i]?=some (PO.list xs)->V1=V->P):P:=by refine ah h λi e h=>aM h λo e1 h=>?_;obtain⟨e2,rfl⟩:=aW h;obtain⟨c,ha,hx⟩:=jt e r;rw[eH e2]at e1;exact k i c ha hx e1 rfl
theorem ye{l:List (Str×Tok)}{ts:List Str}(h:l.map (·.1)=ts)(hk:ts.all strOk=true):aC ad (strValues l) (ts.map PV.str):=by
 subst h;induction l with
 |nil=>exact .nil
 |cons p l ih=>rw[map_cons,all_cons,and_eq_true]at hk;exact .cons ⟨⟨_,rfl⟩,hk.1⟩ (ih hk.2)
theorem xu{x y:Str}{t u:Tok}(I:Inv Z s G V)(hx:strOk x=true)(hy:y.length≠0)(h1:(Txt.split x y).all strOk=true)(h2:(Txt.split x y).length<=lim):Run Z prog w A fp G s (call (.builtin "str.split") [.str x t,.str y u]) (V++[.list ((Txt.split x y).map PV.str)]) (bj (.ref V.length)):=by
 have hy:(y.length==0)=false:=by simpa using hy
 have go:∀l:List (Str×Tok),l.map (·.1)=Txt.split x y->(∀(Q:Value->Shared->Prop) (E:Value->Shared->Prop),(∀k,s.toks<=k->Q (.ref s.heap.objs.size) {s with heap:=s.heap.push (aT (strValues l) 0),toks:=k})->wpAny (model prog w) A (call (.builtin "str.split") [.str x t,.str y u]) Q E s)->Run Z prog w A fp G s (call (.builtin "str.split") [.str x t,.str y u]) (V++[.list ((Txt.split x y).map PV.str)]) (bj (.ref V.length)):=
  λl hl h=>dh (ob:=aT (strValues l) 0) I rfl (dQ (by simpa using h2) (ye hl h1) rfl) h
 cases h1:(decide (x.length<y.length)||decide (Builtin.Str.strKind x<Builtin.Str.strKind y))
 ·cases hf:(Builtin.Str.occurrences x y 0 x.length (x.length+1)).isEmpty
  ·have hs:Txt.split x y=Builtin.Str.partsBetween x (Builtin.Str.occurrences x y 0 x.length (x.length+1)) y.length:=(if_neg (ne_true_of_eq_false h1)).trans (if_neg (ne_true_of_eq_false hf));refine go (numbered s.toks _) ((numbered_texts _ _).trans hs.symm) λQ E q=>call_meets F.slot_str_split (typeIs_str _ _ _) F.entry_str_split (F.args_str_split_2 _ _) (meets_str_split_sep x y t u h1 hy hf (iK hx) (by rw[<-hs];exact Nat.le_trans h2 cM)) ?_;refine(?_:wants Q E _ {s with toks:=_,heap:=s.heap.push {cls:=.type "list",data:=.seq (strsFrom s.toks (Builtin.Str.partsBetween x (Builtin.Str.occurrences x y 0 x.length (x.length+1)) y.length)).toArray}});rw[strsFrom_eq];exact q _ (le_add_right _ _)
  ·exact go [(x,t)] ((if_neg (ne_true_of_eq_false h1)).trans (if_pos hf)).symm λQ E q=>call_meets F.slot_str_split (typeIs_str _ _ _) F.entry_str_split (F.args_str_split_2 _ _) (meets_str_split_not_found x y t u h1 hy hf) (q s.toks (le_refl _))
 ·exact go [(x,t)] (if_pos h1).symm λQ E q=>call_meets F.slot_str_split (typeIs_str _ _ _) F.entry_str_split (F.args_str_split_2 _ _) (meets_str_split_cannot_occur x y t u h1) (q s.toks (le_refl _))
theorem lJ{a:Addr}{k:Int}{t:Tok}(I:Inv Z s G V)(ha:G.ad[i]?=some a)(e:V[i]?=some (.list (ns.map PV.int))):Run Z prog w A fp G s (call (.builtin "list.count") [.ref a,.int k t]) V (bj (.int (ns.count k:Nat))):=by obtain⟨_,vs,n,g,r⟩:=bp I ha e;exact ay I λQ E q=>PyProof.Rows.count_list_ints ⟨_,g,rfl,n,rfl⟩ (qF r) (q _ _ (le_succ _) ⟨_,rfl⟩)
theorem t4(r:az G.ad x a)(h:Ha a V=some (v,V'))(I:Inv Z s G V)(hA:A.handled=none):Run Z prog w A fp G s (call (.builtin "sum") [x]) V' (bj v):=by refine aj h λxs V1 h1 k=>fM r h1 λi c ha hx e1 hs=>?_;subst hs hx;refine ah k λns e2 h=>ag h λh1 h=>?_;obtain⟨h1,h2⟩:=and_eq_true_iff.mp h1;obtain⟨rfl,rfl⟩:=af h;rw[gK e2]at e1;exact DX I hA ha e1 (λn hn=>of_decide_eq_true (all_eq_true.mp h1 n hn)) (of_decide_eq_true h2)
theorem oP(r:az G.ad x a)(r':az G.ad y b)(h:o9 a b V=some (v,V'))(I:Inv Z s G V):Run Z prog w A fp G s (call (.builtin "str.split") [x,y]) V' (bj v):=by refine ah h λs' e h=>ah h λz e' h=>ag h λh1 h=>?_;obtain⟨rfl,rfl⟩:=bJ h;obtain⟨h1,h3⟩:=and_eq_true_iff.mp h1;obtain⟨h1,h2⟩:=and_eq_true_iff.mp h1;obtain rfl:=dS e;obtain rfl:=dS e';obtain⟨⟨t,rfl⟩,hk⟩:=r;obtain⟨⟨u,rfl⟩,_⟩:=r';exact xu I hk (of_decide_eq_true h1) h2 (of_decide_eq_true h3)
theorem pw(r:az G.ad x a)(r':az G.ad y b)(h:sV a b V=some (v,V'))(I:Inv Z s G V):Run Z prog w A fp G s (call (.builtin "list.count") [x,y]) V' (bj v):=by refine aj h λxs V1 h1 k=>fM r h1 λi c ha hx e1 hs=>?_;subst hs hx;refine ah k λn e2 h=>ah h λns e3 h=>?_;obtain⟨rfl,rfl⟩:=af h;obtain⟨u,rfl⟩:=cf e2 r';rw[gK e3]at e1;exact lJ I ha e1
theorem rD(r:az G.ad x a)(r':az G.ad y b)(h:nG a b V=some (v,V'))(I:Inv Z s G V):Run Z prog w A fp G s (call (.builtin "str.join") [x,y]) V' (bj v):=by refine ah h λs' e h=>aj h λxs V1 h1 k=>fM r' h1 λi c ha hx e1 hs=>?_;subst hs hx;refine ah k λts e2 h=>ag h λh1 h=>?_;obtain⟨h2,rfl,rfl⟩:=ds h;obtain⟨t,rfl⟩:=gw e r;rw[rR e2]at e1;exact zQ I ha e1 h1 h2
theorem mY(r:az G.ad x a)(r':az G.ad y b)(h:kW a b V=some (v,V'))(I:Inv Z s G V):Run Z prog w A fp G s (call (.builtin "list.append") [x,y]) V' (bj v):=by refine ah h λi e h=>aM h λo e1 h=>ah h λxs e2 h=>ag h λh1 h=>?_;obtain⟨_,h⟩:=fU h;obtain⟨rfl,rfl⟩:=af h;obtain⟨c,ha,rfl⟩:=jt e r;rw[eH e2]at e1;exact lQ I ha e1 (of_decide_eq_true h1) r'
theorem bv{α:Type}{P:α->Prop}{c:Prop}[Decidable c]{x y:α}(h1:c->P x)(h2:P y):P (if c then x else y):=by
 by_cases e:c
 ·rw[if_pos e];exact h1 e
 ·rw[if_neg e];exact h2
def zj(Z:dK)(prog:Program)(w:World)(A:Around)(G:Gh)(s:Shared)(V V':aI)(f:Value)(vs:List Value)(v:PV)(x:Mo PV):Prop:=x V=some (v,V')->Run Z prog w A [] G s (call f vs) V' (bj v)
theorem xM(R:bC Z prog w T){id:String}(h:D9 T id as V=some (v,V'))(I:Inv Z s G V)(rr:aC G.ad vs as)(hA:aL 10 A):Run Z prog w A [] G s (call (.builtin id) vs) V' (bj v):=by
 revert h;refine(?_:zj Z prog w A G s V V' (.builtin id) vs v (D9 T id as));unfold D9;refine bv (λe h=>?_) (bv (λe h=>?_) (bv (λe h=>?_) (bv (λe h=>?_) (bv (λe h=>?_) (bv (λe h=>?_) (bv (λe h=>?_) (bv (λe h=>?_) (bv (λe h=>?_) (bv (λe h=>?_) (bv (λe h=>?_) nofun))))))))))
 all_goals subst e
 ·exact cz (c:=λvs=>call (.builtin "len") vs) h rr rfl λa x r h=>sU R r h I hA
 ·refine db (c:=λvs=>call (.builtin "min") vs) h rr rfl λa b x y r r' h=>ah h λi e1 h=>ah h λj e2 h=>?_;obtain⟨rfl,rfl⟩:=af h;obtain⟨t,rfl⟩:=cf e1 r;obtain⟨u,rfl⟩:=cf e2 r';exact B6 I hA.1
 ·refine db (c:=λvs=>call (.builtin "max") vs) h rr rfl λa b x y r r' h=>ah h λi e1 h=>ah h λj e2 h=>?_;obtain⟨rfl,rfl⟩:=af h;obtain⟨t,rfl⟩:=cf e1 r;obtain⟨u,rfl⟩:=cf e2 r';exact Cb I hA.1
 ·exact cz (c:=λvs=>call (.builtin "sum") vs) h rr rfl λa x r h=>t4 r h I hA.1
 ·refine cz (c:=λvs=>call (.builtin "str.upper") vs) h rr rfl λa x r h=>ah h λi e1 h=>?_;obtain⟨h1,rfl,rfl⟩:=ds h;obtain⟨t,rfl⟩:=gw e1 r;exact xf I h1
 ·exact db (c:=λvs=>call (.builtin "str.split") vs) h rr rfl λa b x y r r' h=>oP r r' h I
 ·exact db (c:=λvs=>call (.builtin "list.count") vs) h rr rfl λa b x y r r' h=>pw r r' h I
 ·refine cz (c:=λvs=>call (.builtin "str.lower") vs) h rr rfl λa x r h=>ah h λi e1 h=>?_;obtain⟨h1,rfl,rfl⟩:=ds h;obtain⟨t,rfl⟩:=gw e1 r;exact xi I h1
 ·refine cz (c:=λvs=>call (.builtin "str.isspace") vs) h rr rfl λa x r h=>ah h λi e1 h=>?_;obtain⟨rfl,rfl⟩:=af h;obtain⟨t,rfl⟩:=gw e1 r;exact kh I
 ·exact db (c:=λvs=>call (.builtin "str.join") vs) h rr rfl λa b x y r r' h=>rD r r' h I
 ·exact db (c:=λvs=>call (.builtin "list.append") vs) h rr rfl λa b x y r r' h=>mY r r' h I
theorem qT(h:zX as V=some (v,V'))(I:Inv Z s G V)(rr:aC G.ad vs as):Run Z prog w A [] G s (call (.type "range") vs) V' (bj v):=by
 refine ah h λis e h=>?_;rw[gK e]at rr;cases qF rr with
 |nil=>cases h
 |cons i t r=>cases r with
  |nil=>obtain⟨rfl,rfl⟩:=bJ h;exact tW I
  |cons j u r=>cases r with
   |nil=>obtain⟨rfl,rfl⟩:=bJ h;exact sZ I
   |cons k z r=>cases r with
    |nil=>refine ag h λh1 h=>?_;obtain⟨rfl,rfl⟩:=bJ h;have h1:=of_decide_eq_true h1;exact uf I h1.1 h1.2
    |cons=>cases h
theorem rd(r:az G.ad x a)(h:uX a V=some (v,V'))(I:Inv Z s G V)(hA:aL 10 A):Run Z prog w A [] G s (call (.type "list") [x]) V' (bj v):=by
 refine ah h λi e h=>aM h λo e1 h=>ah h λq e2 h=>ag h λh1 h=>ag h λh2 h=>?_;obtain⟨rfl,rfl⟩:=bJ h;obtain⟨c,ha,rfl⟩:=jt e r;have:o=.rng q.1 q.2.1 q.2.2:=by cases o<;>cases e2;rfl
 rw[this]at e1;exact m7 I hA.1 ha e1 h1 (by have:=of_decide_eq_true h2;rwa [length_map]at this)
theorem uo(r:az G.ad x a)(h:DD a V=some (v,V'))(I:Inv Z s G V):Run Z prog w A [] G s (call (.type "str") [x]) V' (bj v):=by
 refine ah h λi e h=>ag h λh1 h=>?_;obtain⟨h2,rfl,rfl⟩:=ds h;obtain⟨t,rfl⟩:=cf e r;have h1:=of_decide_eq_true h1;refine ay I λQ E q=>P.str_of_int ?_ (q _ _ (le_succ _) (fe h2));have:i.natAbs.log2<=28:=by
  rcases Nat.eq_zero_or_pos i.natAbs with h|h
  ·rw[h];decide
  ·have:=(Nat.log2_lt (by(exact ne_of_gt (by assumption)):i.natAbs≠0)).mpr h1;(exact Nat.le_of_lt (by assumption))
 (exact lt_of_le_of_lt (by assumption) (by decide))
theorem t5(R:bC Z prog w T)(r:az G.ad x a)(h:Gz T a V=some (v,V'))(I:Inv Z s G V)(hA:aL 10 A):Run Z prog w A [] G s (call (.type "str") [x]) V' (bj v):=by
 unfold Gz at h;cases e:bX a with
 |none=>rw[e]at h;exact uo r h I
 |some i=>
 rw[e]at h;refine aM h λo e1 h=>ag h λh1 h=>?_;rw[b8 e]at r;cases o<;>first|(cases h1;done)|skip
 exact R.strA e1 h I r hA
theorem xd(R:bC Z prog w T){t:String}(h:Dq T t as V=some (v,V'))(I:Inv Z s G V)(rr:aC G.ad vs as)(hA:aL 10 A):Run Z prog w A [] G s (call (.type t) vs) V' (bj v):=by
 revert h;refine(?_:zj Z prog w A G s V V' (.type t) vs v (Dq T t as));unfold Dq;refine bv (λe h=>?_) (bv (λe h=>?_) (bv (λe h=>?_) (bv (λe h=>?_) nofun)))
 all_goals subst e
 ·exact qT h I rr
 ·exact cz (c:=λvs=>call (.type "list") vs) h rr rfl λa x r h=>rd r h I hA
 ·refine cz (c:=λvs=>call (.type "tuple") vs) h rr rfl λa x r h=>aj h λxs V1 h1 k=>fM r h1 λi c ha hx e1 hs=>?_;subst hs hx;obtain⟨rfl,rfl⟩:=bJ k;exact wS I ha e1
 ·exact cz (c:=λvs=>call (.type "str") vs) h rr rfl λa x r h=>t5 R r h I hA
end
theorem yL{first:List Value}{args:List (Bool×Sem Value)} (h:wpAny M A (evalArgs (.ref a) true args []) (λx LK=>(∃o fd,LK.heap.get? a=some o/\o.data=.func fd)/\wpAny M A (call (.ref a) (first++x.pos) x.kw) Q E LK) E s):wpAny M A (callWith pos (.ref a) first args []) Q E s:=by
 unfold callWith;refine wpAny_bind (wpAny_holding (wpAny_mono h (λx LK LZ=>wpAny_bind (wpAny_standAt ?_)) λ_ _ x=>x));obtain⟨⟨o,fd,e1,e2⟩,LZ⟩:=LZ;have tail:∀{t:Sem Value},wpAny M A t Q E LK->wpAny M A (t>>=λr=>holding [r] point>>=λ_=>pure r) Q E LK:=
  λht=>wpAny_bind (wpAny_mono ht (λr LL hr=>wpAny_bind (wpAny_holding (wpAny_point (wpAny_pure hr)))) λ_ _ x=>x)
 cases hs:args.any (·.1)<;>
  refine wpAny_bind (m:=keeperOf (.ref a)) ?_<;>unfold keeperOf<;>
  refine wpAny_bind (wpAny_load e1 ?_)<;>rw[e2]<;>refine wpAny_pure ?_
 ·refine wpAny_ite_split (λ_=>?_) λ_=>?_
  ·exact tail LZ
  ·exact tail (by unfold callMarked;exact Calls.wpAny_keep LZ)
 ·exact tail (by unfold callMarked;exact Calls.wpAny_keep LZ)
theorem sT(R:bC Z prog w T)(H:aP Z prog w ev n){C:Addr}{c:x7}(hc:T.cls C=some c)(h:jA ev C c as V=some (v,V'))(I:Inv Z s G V)(r:aC G.ad vs as)(hA:aL (n+21) A):Run Z prog w A [] G s (call (.ref C) vs) V' (bj v):=by
 have h:=k8 h;cases hi:c.init with
 |none=>rw[hi]at h;cases h
 |some f=>
  rw[hi]at h;refine aj h λu V1 h1 h=>?_;cases u<;>first|exact(aQ h).elim|(cases h;done)|skip
  obtain⟨rfl,rfl⟩:=af h;refine R.make hc hi I r (hA.less (by(exact le_add_left ..))) λhh hd hu I' r'=>?_;refine H.call h1 I' r' ⟨hh,?_,?_⟩
  ·exact lt_of_le_of_lt (by lia) hA.2.1
  ·exact lt_of_le_of_lt (by lia) hA.2.2
set_option tactic.hygienic true in
theorem i8(R:bC Z prog w T)(H:aP Z prog w ev n){f:PV}{as':List PV}{fv:Value}{args:List (Bool×Sem Value)}(h:bk ev T f (as++as') V1=some (v,V')) (rf:∀ad:List Addr,G.ad<+:ad->az ad fv f)(rs:aC G.ad vs as)(hpl:args.any (·.1)=false)(ha:Run Z prog w A [] G s (evalArgs fv true args []) V1 (λG _ a=>a.kw=[]/\aC G.ad a.pos as'))(hA:aL (n+21) A):Run Z prog w A [] G s (callWith pos fv vs args []) V' (bj v):=by
 intro Q E q;have go:∀LK G₁ (ys:List Value),Inv Z LK G₁ V1->aK [] G s G₁ LK->aC G₁.ad ys as'->Run Z prog w A [] G₁ LK (call fv (vs++ys)) V' (bj v)->wpAny (model prog w) A (call fv (vs++ys)) Q E LK:=
  λLK G₁ ys I₁ S1 LM h=>h Q E λx LL G₂ I₂ S2 LW=>q x LL G₂ I₂ (S1.trans S2) LW
 unfold bk at h;split at h
 ·rename_i a;have hf:fv=.ref a:=rf _ prefix_rfl;subst hf;cases hc:T.cls a with
  |some c=>rw[hc]at h;refine R.isCls hc hpl (ha _ E λx LK G₁ I₁ S1 LM=>⟨I₁.top,?_⟩);obtain⟨px,kx⟩:=x;obtain⟨rfl,LM⟩:=LM;exact go LK G₁ _ I₁ S1 LM (sT R H hc h I₁ ((bf S1.ad rs).append LM) hA)
  |none=>rw[hc]at h;refine ag h λhfn h=>?_;refine yL (ha _ E λx LK G₁ I₁ S1 LM=>⟨R.isFn hc hfn I₁.top,?_⟩);obtain⟨px,kx⟩:=x;obtain⟨rfl,LM⟩:=LM;exact go LK G₁ _ I₁ S1 LM (H.call h I₁ ((bf S1.ad rs).append LM) (hA.less (by(exact le_succ _)))).call
 ·rename_i id;have hf:fv=.builtin id:=rf _ prefix_rfl;subst hf;refine Calls.callWith_builtin hpl (ha _ E λx LK G₁ I₁ S1 LM=>?_);obtain⟨px,kx⟩:=x;obtain⟨rfl,LM⟩:=LM;exact go LK G₁ _ I₁ S1 LM (xM R h I₁ ((bf S1.ad rs).append LM) (hA.less (by(exact le_add_left ..))))
 ·rename_i t;have hf:fv=.type t:=rf _ prefix_rfl;subst hf;refine PySem.callWith_type hpl (ha _ E λx LK G₁ I₁ S1 LM=>?_);obtain⟨px,kx⟩:=x;obtain⟨rfl,LM⟩:=LM;exact go LK G₁ _ I₁ S1 LM (xd R h I₁ ((bf S1.ad rs).append LM) (hA.less (by lia)))
 ·cases h
theorem qu{c:Const}(h:yi T ev sc m (.Constant c k pos) V=some (v,V'))(I:Inv Z s G V):Run Z prog w A fp G s (eval (.Constant c k pos) env) V' (bj v):=by
 cases c with
 |none=>obtain⟨rfl,rfl⟩:=af h;exact Run.pure I rfl
 |bool b=>obtain⟨rfl,rfl⟩:=af h;exact Run.pure I rfl
 |int i=>obtain⟨rfl,rfl⟩:=af h;exact ay I λQ E q=>wpAny_Constant_int (q _ _ (le_succ _) ⟨_,rfl⟩)
 |str x=>obtain⟨h1,rfl,rfl⟩:=ds h;exact ay I λQ E q=>Calls.Constant_str (q _ _ (le_succ _) (fe h1))
 |_=>first|exact(aQ h).elim|cases h
theorem ya(H:aP Z prog w ev n)(h:yi T ev sc m (.BinOp l op r pos) V=some (v,V'))(I:Inv Z s G V)(F:aF Z env sc m G s.heap)(hA:aL (n+20) A):Run Z prog w A [] G s (eval (.BinOp l op r pos) env) V' (bj v):=by refine aj h λa V1 h1 h=>?_;refine aj h λb V2 h2 h=>?_;rw[arm_eval_BinOp];refine Run.bind (H.e h1 I F hA) λx LK G₁ I₁ S1 LM=>Run.bind (Run.hold (H.e h2 I₁ (F.keepE S1) hA)) λy LL G₂ I₂ S2 LW=>?_;exact Run.stand (Run.oper (tv h I₂ (LM.mono S2.ad) LW))
theorem By(H:aP Z prog w ev n){x:Expr}{op:UnaryOp}(h:yi T ev sc m (.UnaryOp op x pos) V=some (v,V'))(I:Inv Z s G V)(F:aF Z env sc m G s.heap)(hA:aL (n+20) A):Run Z prog w A [] G s (eval (.UnaryOp op x pos) env) V' (bj v):=by
 have h:KW ev sc m op x V=some (v,V'):=h;cases op<;>first|exact(aQ h).elim|(cases h;done)|skip
 refine aj h λa V1 h1 h=>?_;rw[arm_eval_UnaryOp];refine Run.bind (H.e h1 I F hA) λy LK G₁ I₁ S1 LM=>Run.stand (Run.hold ?_);cases a<;>first|exact(aQ h).elim|(cases h;done)|skip
 obtain⟨rfl,rfl⟩:=af h;obtain⟨t,rfl⟩:=LM;exact ay I₁ λQ E q=>P.neg_int (q _ _ (le_succ _) ⟨_,rfl⟩)
theorem xU(H:aP Z prog w ev n){op:CmpOp}(h:(do must (!behindInMarks op r);let a<-ev.e sc m l;let b<-ev.e sc m r;kN op a b:Mo PV) V=some (v,V'))(I:Inv Z s G V)(F:aF Z env sc m G s.heap)(hA:aL (n+20) A):Run Z prog w A [] G s (eval (.Compare l [op] [r] pos) env) V' (bj v):=by
 refine ag h λhm h=>?_;refine aj h λa V1 h1 h=>?_;refine aj h λb V2 h2 h=>?_;have hm:behindInMarks op r=false:=by simpa using hm
 intro Q E q;refine wpAny_Compare1 (H.e h1 I F hA _ E λx LK G₁ I₁ S1 LM=>H.e h2 I₁ (F.keepE S1) hA _ E λy LL G₂ I₂ S2 LW=>?_) hm;exact fV h I₂ (LM.mono S2.ad) LW hA.units4 Q E λz s₃ G₃ I₃ S3 L6=>q z s₃ G₃ I₃ (S1.trans (S2.trans S3.nil)) L6
theorem jN(H:aP Z prog w ev n){op:CmpOp}(h:(do must (!behindInMarks op r);let a<-ev.e sc m l;let b<-ev.e sc m r;let v<-kN op a b;fR v:Mo Bool) V=some (b,V'))(I:Inv Z s G V)(F:aF Z env sc m G s.heap)(hA:aL (n+20) A):Run Z prog w A [] G s (isTrue (.Compare l [op] [r] pos) env whole) V' (ub b):=by
 refine ag h λhm h=>?_;refine aj h λa V1 h1 h=>?_;refine aj h λc V2 h2 h=>?_;refine aj h λd V3 h3 h=>?_;have hm:behindInMarks op r=false:=by simpa using hm
 intro Q E q;refine wpAny_isTrue_Compare1 (H.e h1 I F hA _ E λx LK G₁ I₁ S1 LM=>H.e h2 I₁ (F.keepE S1) hA _ E λy LL G₂ I₂ S2 LW=>?_) hm;refine fV (fp:=[]) h3 I₂ (LM.mono S2.ad) LW hA.units4 _ E λz s₃ G₃ I₃ S3 L6=>?_;exact bL (fp:=[]) h I₃ L6 Q E λz LX G₄ I₄ S4 L7=>q z LX G₄ I₄ (S1.trans (S2.trans (S3.trans S4))) L7
theorem s5(R:bC Z prog w T)(H:aP Z prog w ev n){o:Expr}(h:yi T ev sc m (.Attribute o x pos) V=some (v,V'))(I:Inv Z s G V)(F:aF Z env sc m G s.heap)(hA:aL (n+20) A):Run Z prog w A [] G s (eval (.Attribute o x pos) env) V' (bj v):=by refine ag h λhs h=>?_;refine aj h λa V1 h1 h=>?_;rw[arm_eval_Attribute,fD hs];refine Run.bind (H.e h1 I F hA) λy LK G₁ I₁ S1 LM=>Run.stand (Run.bind (Run.hold (R.getA h I₁ LM (hA.less (by(exact le_add_left ..))))) λz LL G₂ I₂ S2 LW=>?_);exact λQ E q=>wpAny_bind (wpAny_letTemporaryGo (wpAny_pure (q z LL G₂ I₂ (aK.refl _ _ _) LW)))
theorem tw(H:aP Z prog w ev n)(h:yi T ev sc m (.List es pos) V=some (v,V'))(I:Inv Z s G V)(F:aF Z env sc m G s.heap)(hA:aL (n+20) A):Run Z prog w A [] G s (eval (.List es pos) env) V' (bj v):=by refine aj h λvs V1 h1 h=>?_;obtain⟨h2,h⟩:=jh (f:=λ_=>fH _) h;obtain⟨rfl,rfl⟩:=bJ h;rw[arm_eval_List];exact Run.stand (Run.bind (eK H h1 I F hA) λys LK G₁ I₁ S1 LM=>kg I₁ LM (of_decide_eq_true h2))
theorem qw(H:aP Z prog w ev n)(h:yi T ev sc m (.Tuple es k pos) V=some (v,V'))(I:Inv Z s G V)(F:aF Z env sc m G s.heap)(hA:aL (n+20) A):Run Z prog w A [] G s (eval (.Tuple es k pos) env) V' (bj v):=by refine aj h λvs V1 h1 h=>?_;obtain⟨h2,h⟩:=jh (f:=λ_=>fH _) h;obtain⟨rfl,rfl⟩:=bJ h;rw[arm_eval_Tuple];exact Run.stand (Run.bind (eK H h1 I F hA) λys LK G₁ I₁ S1 LM=>fG I₁ LM (of_decide_eq_true h2))
set_option tactic.hygienic true in
theorem gB(i:Expr)(o k:Value):∃l,subscripted i false o k=operate l (getItem o k):=by cases i<;>first|exact⟨_,rfl⟩|(rename_i st _;cases st<;>exact⟨_,rfl⟩)
theorem gW{o:Value}{t id:String}(I:Inv Z s G V)(hT:s.TypeIs o t)(hl:typeLookup (.type t) "__getitem__"=pure (some (.builtin id))):Run Z prog w A fp G s (getitemInPython o) V (ub false):=by rw[getitemInPython_of_ne hT.not_modules];exact λQ E q=>wpAny_bind (wpAny_specialOf hT hl (wpAny_pure (q _ s G I (aK.refl _ _ _) rfl)))
theorem jH{o k:Value}{value i:Expr}{P:Gh->Shared->Value->Prop}(I:Inv Z s G V)(hp:Run Z prog w A [] G s (getitemInPython o) V (ub false))(h:∀LK G₁,Inv Z LK G₁ V->aK [] G s G₁ LK->Run Z prog w A [] G₁ LK (getItem o k) V' P):Run Z prog w A [] G s (do let r<-subscripted i (<-getitemInPython o) o k;letTemporaryGo value o r;pure r) V' P:=by refine Run.bind hp λb LK G₁ I₁ S1 e=>?_;subst e;obtain⟨l,e⟩:=gB i o k;rw[e];exact Run.bind (Run.oper (h LK G₁ I₁ S1)) λr LL G₂ I₂ S2 p=>λQ E q=>wpAny_bind (wpAny_letTemporaryGo (wpAny_pure (q r LL G₂ I₂ (aK.refl _ _ _) p)))
theorem qi(H:aP Z prog w ev n){b o:Expr}(h:yi T ev sc m (.IfExp t b o pos) V=some (v,V'))(I:Inv Z s G V)(F:aF Z env sc m G s.heap)(hA:aL (n+20) A):Run Z prog w A [] G s (eval (.IfExp t b o pos) env) V' (bj v):=by
 refine aj h λc V1 h1 h=>?_;rw[arm_eval_IfExp];refine Run.bind (H.b h1 I F hA) λy LK G₁ I₁ S1 LM=>?_;subst LM;cases y
 ·exact H.e h I₁ (F.keepE S1) hA
 ·exact H.e h I₁ (F.keepE S1) hA
theorem ip(R:bC Z prog w T){o i:PV}{x:Value}(h:cx T o i V=some (v,V'))(I:Inv Z s G V)(ro:az G.ad x o)(ri:az G.ad y i)(hA:aL 1 A):Run Z prog w A [] G s (getItem x y) V' (bj v)/\Run Z prog w A [] G s (getitemInPython x) V (ub false):=by
 unfold cx at h;cases hb:zo i with
 |some b=>
  rw[hb]at h;obtain rfl:i=.bool b:=by cases i<;>cases hb;rfl
  refine ah h λr' e' h=>aM h λob e h=>ah h λxs e2 h=>?_;obtain⟨hx,rfl⟩:=aW h;obtain⟨a,ha,rfl⟩:=jt e' ro;rw[eH e2]at e;obtain⟨hl,vs,q,g,r⟩:=bp I ha e;refine⟨?_,gW I ⟨_,g,rfl⟩ slot_list_getitem.lookup⟩;cases ri;obtain⟨y,hy,ry⟩:=r.get hx;exact ay I λQ E q=>gA g hy (q y s.toks (le_refl _) ry)
 |none=>
 rw[hb]at h;refine ah h λk e h=>?_;obtain⟨u,rfl⟩:=cf e ri;clear e ri hb;cases o<;>first|exact(aQ h).elim|(cases h;done)|skip
 ·obtain⟨⟨t,rfl⟩,hk⟩:=ro;refine ah h λj hp h=>ah h λc hc h=>?_;obtain⟨rfl,rfl⟩:=af h;exact⟨kI I hk hp hc,gW I (typeIs_str s _ t) F.slot_str_getitem.lookup⟩
 ·refine aM h λob e h=>?_;have ro':=ro;obtain⟨a,ha,rfl⟩:=cu ro';cases ob with
  |list xs=>obtain⟨hl,vs,q,g,r⟩:=bp I ha e;refine ah h λj hp h=>?_;obtain⟨hx,rfl⟩:=aW h;exact⟨jY I g r hl hp hx,gW I ⟨_,g,rfl⟩ slot_list_getitem.lookup⟩
  |tup xs=>obtain⟨hl,vs,q,g,r⟩:=iu I ha e;refine ah h λj hp h=>?_;obtain⟨hx,rfl⟩:=aW h;exact⟨kG I g r hl hp hx,gW I ⟨_,g,rfl⟩ F.slot_tuple_getitem.lookup⟩
  |acc C fs xs=>refine ag h λhc h=>ah h λj hp h=>?_;obtain⟨hc,h0⟩:=and_eq_true_iff.mp hc;obtain⟨hx,rfl⟩:=aW h;exact⟨R.item e hc (of_decide_eq_true h0) hp hx I ro hA,R.itemPy e hc I ro⟩
  |_=>first|exact(aQ h).elim|cases h
theorem xy(R:bC Z prog w T)(H:aP Z prog w ev n){o i:Expr}(h:(do let ov<-ev.e sc m o;let iv<-ev.e sc m i;cx T ov iv:Mo PV) V=some (v,V'))(I:Inv Z s G V)(F:aF Z env sc m G s.heap)(hA:aL (n+20) A):Run Z prog w A [] G s (eval (.Subscript o i pos) env) V' (bj v):=by refine aj h λa V1 h1 h=>?_;refine aj h λb V2 h2 h=>?_;rw[arm_eval_Subscript];refine Run.bind (H.e h1 I F hA) λx LK G₁ I₁ S1 LM=>Run.bind (Run.hold (H.e h2 I₁ (F.keepE S1) hA)) λy LL G₂ I₂ S2 LW=>Run.stand ?_;exact jH I₂ (ip R h I₂ (LM.mono S2.ad) LW (hA.less (by lia))).2 λs₃ G₃ I₃ S3=>(ip R h I₃ ((LM.mono S2.ad).mono S3.ad) (LW.mono S3.ad) (hA.less (by lia))).1
theorem mm(H:aP Z prog w ev n){o:Option Expr}{r:Option Int}(h:jE ev sc m o V=some (r,V'))(I:Inv Z s G V)(F:aF Z env sc m G s.heap)(hA:aL (n+20) A):Run Z prog w A [] G s (valueOrNone (evalOpt o env)) V' (λ_ _ x=>gm x r):=by
 cases o with
 |none=>obtain⟨rfl,rfl⟩:=af h;exact Run.pure I rfl
 |some e=>
  refine aj h λa V1 h1 h=>?_;cases a<;>first|exact(aQ h).elim|(cases h;done)|skip
  ·obtain⟨rfl,rfl⟩:=af h;exact(H.e h1 I F hA).mono λ_ _ _ _ p=>p
  ·obtain⟨rfl,rfl⟩:=af h;exact(H.e h1 I F hA).mono λ_ _ _ _ p=>p
theorem rQ(H:aP Z prog w ev n){o:Expr}{lo hi:Option Expr}(h:(do let ov<-ev.e sc m o;let l<-jE ev sc m lo;let u<-jE ev sc m hi;dO ov l u:Mo PV) V=some (v,V'))(I:Inv Z s G V)(F:aF Z env sc m G s.heap)(hA:aL (n+20) A):Run Z prog w A [] G s (eval (.Subscript o (.Slice lo hi none p) pos) env) V' (bj v):=by
 refine aj h λa V1 h1 h=>?_;refine aj h λb V2 h2 h=>?_;refine aj h λc V3 h3 h=>?_;rw[arm_eval_Subscript];refine Run.bind (H.e h1 I F hA) λx LK G₁ I₁ S1 LM=>?_;have F₁:=F.keepE S1;have mk:Run Z prog w A [] G₁ LK (eval (.Slice lo hi none p) env) V3 (λG' s' y=>∃sl l u,y=.ref sl/\s'.heap.get? sl=some (bw l u)/\G'.own sl=none/\gm l b/\gm u c):=by rw[arm_eval_Slice];refine Run.bind (mm H h2 I₁ F₁ hA) λl LL G₂ I₂ S2 pl=>Run.bind (Run.hold (mm H h3 I₂ (F₁.keepE S2) hA)) λu s₃ G₃ I₃ S3 pu=>?_;refine Run.bind (Run.hold (Run.pure (a:=Value.none) (P:=λ_ _ x=>x=.none) I₃ rfl)) λz LX G₄ I₄ S4 e=>?_;subst e;exact gH (ob:=bw l u) I₄ λQ E q=>wpAny_newObj_type (q _ ⟨_,l,u,rfl,Heap.get?_push_size _ rfl,I₄.fresh _ (bb (le_refl _)),pl,pu⟩)
 refine Run.bind (Run.hold mk) λy LL G₂ I₂ S2 LW=>Run.stand ?_;obtain⟨sl,l,u,rfl,g,ow,pl,pu⟩:=LW;have LM:=LM.mono S2.ad;cases a<;>first|exact(aQ h).elim|(cases h;done)|skip
 ·obtain⟨⟨t,rfl⟩,hk⟩:=LM;obtain⟨rfl,rfl⟩:=af h;exact jH I₂ (gW I₂ (typeIs_str _ _ t) PySem.F.slot_str_getitem.lookup) λs₃ G₃ I₃ S3=>nd I₃ hk (S3.keep _ _ g ow (λh=>nomatch h) (.inl λh=>nomatch h)).1 pl pu
 ·refine aM h λob e h=>ah h λxs e1 h=>?_;rw[eH e1]at e;obtain⟨a,ha,rfl⟩:=cu LM;obtain⟨rfl,rfl⟩:=bJ h;obtain⟨hl,vs,q,g',r⟩:=bp I₂ ha e;refine jH I₂ (gW I₂ ⟨_,g',rfl⟩ slot_list_getitem.lookup) λs₃ G₃ I₃ S3=>?_;obtain⟨hl,vs,q,g',r⟩:=bp I₃ (bD S3.ad ha) e;exact gO I₃ g' r hl (S3.keep _ _ g ow (λh=>nomatch h) (.inl λh=>nomatch h)).1 pl pu
set_option maxRecDepth 100000 in
def JI(x:Str)(id:String)(y:Str)(t:Tok)(pl:Sem Bool)(M:Model)(A:Around)(E:Value->Shared->Prop)(Q:Value×List Value->Shared->Prop)(s:Shared)(z:Option String):Prop:=z=some id->wpAny M A (getMethod (.str y t) x pl) Q E s
set_option maxRecDepth 100000 in
theorem m0{id:String}{y:Str}{t:Tok}{pl:Sem Bool}{Q:Value×List Value->Shared->Prop}(h:gU x=some id)(q:Q (.builtin id,[.str y t]) s):wpAny M A (getMethod (.str y t) x pl) Q E s:=by
 have go:JI x id y t pl M A E Q s (gU x):=by
  unfold gU;refine bv (λe h=>?_) (bv (λe h=>?_) (bv (λe h=>?_) (bv (λe h=>?_) (bv (λe h=>?_) λh=>nomatch h))))
  all_goals subst e;injection h with h;subst h
  ·exact GM.lower q
  ·exact GM.upper q
  ·exact GM.split q
  ·exact GM.isspace q
  ·exact GM.join q
 exact go h
set_option tactic.hygienic true in
set_option maxRecDepth 100000 in
theorem mC{id:String}{pl:Sem Bool}{Q:Value×List Value->Shared->Prop}(h:gL x=some id)(g:s.heap.get? a=some (aT vs k))(q:Q (.builtin id,[.ref a]) s):wpAny M A (getMethod (.ref a) x pl) Q E s:=by
 unfold gL at h;split at h
 ·rename_i e;subst e;cases h;exact Calls.getMethod_list_append g rfl rfl q
 split at h
 ·rename_i e;subst e;cases h;exact getMethod_builtin ⟨_,g,rfl⟩ PySem.F.plainAttrs_list PySem.F.slot_list_count PySem.F.type_list_count (λb e=>by cases e;exact⟨_,g,rfl⟩) q
 ·cases h
set_option maxRecDepth 100000 in
theorem m2(R:bC Z prog w T){o f:PV}{ov:Value}{pl:Sem Bool}(h:bx T o x V=some (f,V'))(I:Inv Z s G V)(r:az G.ad ov o)(hA:aL 1 A):Run Z prog w A [] G s (getMethod ov x pl) V' (λG _ p=>∃fv,p=(fv,[ov])/\az G.ad fv f):=by
 cases o with
 |str y=>obtain⟨⟨t,rfl⟩,hk⟩:=r;obtain⟨h2,rfl⟩:=aW h;obtain⟨id,h1,rfl⟩:=map_eq_some_iff.mp h2;exact ay I λQ E q=>m0 h1 (q _ s.toks (le_refl _) ⟨_,rfl,rfl⟩)
 |ref i=>
  by_cases hl:∃l,V[i]?=some (.list l)
  ·obtain⟨l,e⟩:=hl;refine aM h λob e' h=>?_;obtain rfl:=Option.some.inj (e.symm.trans e');obtain⟨h2,rfl⟩:=aW h;obtain⟨id,h1,rfl⟩:=map_eq_some_iff.mp h2;obtain⟨a,ha,rfl⟩:=cu r;obtain⟨_,vs,k,g,_⟩:=bp I ha e;exact ay I λQ E q=>mC h1 g (q _ s.toks (le_refl _) ⟨_,rfl,rfl⟩)
  ·exact R.meth h (λl e=>hl ⟨l,e⟩) I r hA
 |_=>first|exact(aQ h).elim|cases h
theorem lv(pos:Pos)(env:Env):backToKw pos (keywordEach [] env)=[]:=rfl
theorem kQ(R:bC Z prog w T)(H:aP Z prog w ev n)(h:yi T ev sc m (.Call (.Name x p) args [] pos) V=some (v,V'))(I:Inv Z s G V)(F:aF Z env sc m G s.heap)(hA:aL (n+21) A):Run Z prog w A [] G s (eval (.Call (.Name x p) args [] pos) env) V' (bj v):=by refine ag h λhl h=>?_;refine aj h λf V1 h1 h=>?_;refine aj h λas V2 h2 h=>?_;rw[arm_eval_Call_Name',lv];refine Run.bind (H.e h1 I F (hA.less (by lia))) λfv LK G₁ I₁ S1 LM=>?_;have sp:=nk (pos:=pos) (env:=env) h2;exact i8 R H (as:=[]) h (λad ha=>LM.mono ha) .nil sp.1 (mJ H h2 I₁ (F.keepE S1) (hA.less (by lia))) hA
theorem kR(R:bC Z prog w T)(H:aP Z prog w ev n){o:Expr} (h:(do must (aH o&&decide (apos.endLine=pos.line)&&decide (args.length<20));let ov<-ev.e sc m o;let f<-bx T ov name;let as<-sr ev sc m args;bk ev T f (ov::as):Mo PV) V=some (v,V'))(I:Inv Z s G V)(F:aF Z env sc m G s.heap)(hA:aL (n+21) A):Run Z prog w A [] G s (eval (.Call (.Attribute o name apos) args [] pos) env) V' (bj v):=by
 refine ag h λhm h=>?_;simp only[and_eq_true,decide_eq_true_eq]at hm;obtain⟨⟨hs,hline⟩,hlen⟩:=hm;refine aj h λov V1 h1 h=>?_;refine aj h λf V2 h2 h=>?_;refine aj h λas V3 h3 h4=>?_;rw[arm_eval_Call,fD hs,lv];refine Run.bind (H.e h1 I F (hA.less (by lia))) λx LK G₁ I₁ S1 LM=>Run.stand ?_;have sp:=nk (pos:=pos) (env:=env) h3;have hform:methodCallForm (args.length+([]:List Keyword).length) (backTo pos (starEach args env)) []=true:=by unfold methodCallForm;rw[sp.2];simp;(exact Nat.le_trans (by assumption) (le_add_left ..))
 have hpos:methodCallPos true o env apos pos=pure pos:=by unfold methodCallPos;simp[hline]
 unfold methodCall;rw[hform,hpos];refine Run.bind (Run.hold (m2 R h2 I₁ LM (hA.less (by(exact le_add_left ..))))) λp LL G₂ I₂ S2 LW=>?_;obtain⟨fv,rfl,LW⟩:=LW;have F₂:=(F.keepE S1).keepE S2;refine Run.bind (Run.pure (a:=pos) (P:=λ_ _ x=>x=pos) I₂ rfl) λp s₃ G₃ I₃ S3 e=>?_;subst e;exact i8 R H (as:=[_]) h4 (λad ha=>(LW.mono S3.ad).mono ha) (.one ((LM.mono S2.ad).mono S3.ad)) sp.1 (mJ H h3 I₃ (F₂.keepE S3) (hA.less (by lia))) hA
theorem sG{b:Addr}{x:Value}(hb:s.heap.get? b=some {cls:=.type "method",data:=.fields #[.ref a,x]}) (hq:codeAny (model prog w) A (.call (.ref a) ⟨x::vs,[]⟩) R s):codeAny (model prog w) A (.call (.ref b) ⟨vs,[]⟩) R s:=by refine codeAny_of_tree ?_;refine(?_:wpAny _ A.in1 (callAny (.ref b) ⟨vs,[]⟩) _ _ _);unfold callAny;refine wpAny_bind (wpAny_load hb ?_);exact wpAny_pure ⟨rfl,hq⟩
theorem m3{Q:Bool->Shared->Prop}(g:s.heap.get? a=some (tH vs k))(q:Q false s):wpAny M A (notIterableAtAll (.ref a)) Q E s:=by unfold notIterableAtAll;refine wpAny_bind (wpAny_specialOf (T:="tuple") ⟨_,g,rfl⟩ F.slot_tuple_iter.lookup ?_);exact wpAny_pure q
theorem yl{b:Value}{x:Sem Value}(h:∀(Q:Value->Shared->Prop) (E:Value->Shared->Prop),(∀(a:Addr) LK G₁ vs k,Inv Z LK G₁ V'->aK [] G s G₁ LK->LK.heap.get? a=some (tH vs k)->vs.length<=lim->aC G₁.ad vs as->Q (.ref a) LK)->wpAny (model prog w) A x Q E s):Run Z prog w A [] G s (evalArgs b true [(true,x)] []) V' (λG _ a=>a.kw=[]/\aC G.ad a.pos as):=by intro Q E q;unfold evalArgs;refine wpAny_bind (h _ E λa LK G₁ vs k I₁ S1 g hl r=>?_);refine wpAny_bind (wpAny_pure (wpAny_holding ?_));simp only[List.all_nil,if_true];refine wpAny_bind (wpAny_pure ?_);refine wpAny_bind (wpAny_bind (m3 g ?_));simp only[false_eq_true,if_false];refine wpAny_holding (wpAny_collect_seq (items:=vs.toArray) a (.inr rfl) g rfl rfl (λh' hk=>?_) (by rw[size_toArray];exact Nat.le_trans hl cM));refine wpAny_pure ?_;exact q ⟨vs,[]⟩ _ G₁ (I₁.kept (le_refl _) hk) (S1.trans (aK.kept hk)) ⟨rfl,r⟩
theorem AG{b:Addr}{args:List (Bool×Sem Value)}(hst:args.any (·.1)=true) (h:wpAny M A (evalArgs (.ref b) true args []) (λx LK=>(∃a y o fd,LK.heap.get? b=some {cls:=.type "method",data:=.fields #[.ref a,y]}/\LK.heap.get? a=some o/\o.data=.func fd)/\wpAny M A (call (.ref b) x.pos x.kw) Q E LK) E s):wpAny M A (callWith pos (.ref b) [] args []) Q E s:=by
 unfold callWith;refine wpAny_bind (wpAny_holding (wpAny_mono h (λx LK LZ=>wpAny_bind (wpAny_standAt ?_)) λ_ _ x=>x));obtain⟨⟨a,y,o,fd,e0,e1,e2⟩,LZ⟩:=LZ;have tail:∀{t:Sem Value},wpAny M A t Q E LK->wpAny M A (t>>=λr=>holding [r] point>>=λ_=>pure r) Q E LK:=
  λht=>wpAny_bind (wpAny_mono ht (λr LL hr=>wpAny_bind (wpAny_holding (wpAny_point (wpAny_pure hr)))) λ_ _ x=>x)
 rw[hst];refine wpAny_bind (m:=keeperOf (.ref b)) ?_;unfold keeperOf;refine wpAny_bind (wpAny_load e0 ?_);refine wpAny_bind (wpAny_load e1 ?_);rw[e2];refine wpAny_pure ?_;exact tail (wpAny_operating LZ)
theorem kF(R:bC Z prog w T)(H:aP Z prog w ev n){o:Expr}{sp:Pos}(h:yi T ev sc m (.Call (.Attribute o name apos) [.Starred e sp] [] pos) V=some (v,V')) (I:Inv Z s G V)(F:aF Z env sc m G s.heap)(hA:aL (n+21) A):Run Z prog w A [] G s (eval (.Call (.Attribute o name apos) [.Starred e sp] [] pos) env) V' (bj v):=by
 refine ag h λhs h=>?_;refine aj h λov V1 h1 h=>?_;refine aj h λf V2 h2 h=>?_;refine aj h λas V3 h3 h4=>?_;refine ah h4 λi ei h4'=>ah h4' λa ea h4''=>ag h4'' λhc h5=>?_;obtain rfl:=b8 ei;obtain rfl:=r5 ea;have hc:=and_eq_true_iff.mp hc;have hcls:T.cls a=none:=isNone_iff_eq_none.mp hc.1;rw[arm_eval_Call,fD hs,lv];refine Run.bind (H.e h1 I F (hA.less (by lia))) λx LK G₁ I₁ S1 LM=>Run.stand ?_;have hform:methodCallForm ([Expr.Starred e sp].length+([]:List Keyword).length) (backTo pos (starEach [.Starred e sp] env)) []=false:=rfl;unfold methodCall;rw[hform];have hget:Run Z prog w A [] G₁ LK (calleeOf false o env x name) V2 (λG' s' p=>p.2=[]/\∃ba,p.1=.ref ba/\G'.own ba=none/\s'.heap.get? ba=some {cls:=.type "method",data:=.fields #[.ref a,x]}):=by refine Run.bind (R.bound h2 hcls I₁ LM (hA.less (by lia))) λb LL G₂ I₂ S2 q=>Run.pure I₂ ⟨rfl,q⟩
 refine Run.bind (Run.hold hget) λp LL G₂ I₂ S2 q=>?_;obtain⟨p1,p2⟩:=p;obtain⟨rfl,ba,rfl,ow,g⟩:=q;refine Run.bind (Run.pure (a:=pos) (P:=λ_ _ x=>x=pos) I₂ rfl) λp s₃ G₃ I₃ S3 e'=>?_;subst e';have F₃:=((F.keepE S1).keepE S2).keepE S3;obtain⟨g₃,ow3⟩:=S3.keep _ _ g ow (λh=>nomatch h) (.inl λh=>nomatch h);have L6:=(LM.mono S2.ad).mono S3.ad;have ha:Run Z prog w A [] G₃ s₃ (evalArgs (.ref ba) true (backTo p (starEach [.Starred e sp] env)) []) V3 (λG _ a=>a.kw=[]/\aC G.ad a.pos as):=by refine yl λQ E q=>?_;refine aj h3 λu V4 h6 h7=>?_;refine ah h7 λj ej h7'=>aM h7' λob e1 h8=>?_;obtain rfl:=b8 ej;obtain⟨e8,rfl⟩:=aW h8;obtain rfl:=lY e8;refine wpAny_bind (H.e h6 I₃ F₃ (hA.less (by lia)) _ E λy LX G₄ I₄ S4 L7=>?_);obtain⟨b,hb,rfl⟩:=cu L7;obtain⟨hl,vs,k,g4,r4⟩:=iu I₄ hb e1;exact wpAny_bind (wpAny_standAt (wpAny_pure (q b LX G₄ vs k I₄ S4 g4 (by rw[r4.length];exact hl) r4)))
 intro Q E q;refine AG rfl (ha _ E λz LX G₄ I₄ S4 L7=>?_);obtain⟨px,kx⟩:=z;obtain⟨rfl,L7⟩:=L7;obtain⟨o',fd,e1,e2⟩:=R.isFn hcls hc.2 I₄.top;have Mx:=(S4.keep _ _ g₃ ow3 (λh=>nomatch h) (.inl λh=>nomatch h)).1;refine⟨⟨a,x,o',fd,Mx,e1,e2⟩,wpAny_call (sG Mx ?_)⟩;exact H.call h5 I₄ (.cons (L6.mono S4.ad) L7) (hA.less (by lia)) Q E λy s₅ G₅ LV LY r₅=>q y s₅ G₅ LV (S4.trans LY) r₅
noncomputable def iN(env:Env)(names:List (Str×NameKind)):List (Str×Addr):=names.foldl (λcs y=>if y.2== .free then(y.1,(env.cells.lookup y.1).getD 0)::cs else cs) []
theorem yO(env:Env):∀(names:List (Str×NameKind)) (cs:List (Str×Addr)),(∀y∈names,y.2=.free->(env.cells.lookup y.1).isSome=true)->(forIn names cs (λ(y:Str×NameKind) (cs:List (Str×Addr))=>if(y.2== .free)=true then(do let c<-cellOf env y.1;pure (ForInStep.yield ((y.1,c)::cs)):Sem _)else pure (ForInStep.yield cs)):Sem (List (Str×Addr)))=pure (names.foldl (λcs y=>if y.2== .free then(y.1,(env.cells.lookup y.1).getD 0)::cs else cs) cs):=by
 intro names;induction names with
 |nil=>intro cs _;rfl
 |cons y r ih=>
  intro cs h;rw[forIn_cons,foldl_cons];cases hy:y.2==NameKind.free with
  |false=>simp-iota only[false_eq_true,if_false];refine(?_:(forIn r cs _:Sem _)=_);exact ih cs λz hz=>h z (mem_cons_of_mem _ hz)
  |true=>
   simp-iota only[if_true];have:=h y (mem_cons_self ..) (by simpa using hy);obtain⟨c,e⟩:=isSome_iff_exists.mp this;have e2:cellOf env y.1=pure c:=by unfold cellOf;rw[e]
   rw[e2,e];refine(?_:(forIn r ((y.1,c)::cs) _:Sem _)=_);exact ih _ λz hz=>h z (mem_cons_of_mem _ hz)
theorem sI(h:∀y∈scope.names,y.2=.free->(env.cells.lookup y.1).isSome=true):closureFor scope env=pure (iN env scope.names):=by unfold closureFor;refine(?_:(forIn scope.names [] _>>=λr=>pure r:Sem _)=_);rw[yO env scope.names [] h];rfl
theorem oo(env:Env):∀(names:List (Str×NameKind)) (cs:List (Str×Addr)) (x:Str),((names.foldl (λcs y=>if y.2== .free then(y.1,(env.cells.lookup y.1).getD 0)::cs else cs) cs).lookup x=cs.lookup x/\∀y∈names,y.2=.free->y.1≠x)∨(names.foldl (λcs y=>if y.2== .free then(y.1,(env.cells.lookup y.1).getD 0)::cs else cs) cs).lookup x=some ((env.cells.lookup x).getD 0):=by
 intro names;induction names with
 |nil=>intro cs x;exact .inl ⟨rfl,λy hy=>nomatch hy⟩
 |cons y r ih=>
  intro cs x;rw[foldl_cons];cases hy:y.2==NameKind.free with
  |false=>
   simp-iota only[false_eq_true,if_false];rcases ih cs x with⟨h1,h2⟩|h
   ·refine .inl ⟨h1,λz hz hf=>?_⟩;rcases mem_cons.mp hz with rfl|hz
    ·rw[hf]at hy;simp at hy
    ·exact h2 z hz hf
   ·exact .inr h
  |true=>
   simp-iota only[if_true];rcases ih ((y.1,(env.cells.lookup y.1).getD 0)::cs) x with⟨h1,h2⟩|h
   ·rw[lookup_cons]at h1;cases hx:x==y.1 with
    |true=>
     rw[hx]at h1;have:x=y.1:=by simpa using hx
     exact .inr (by rw[h1,this])
    |false=>
     rw[hx]at h1;refine .inl ⟨h1,λz hz hf=>?_⟩;rcases mem_cons.mp hz with rfl|hz
     ·intro e;rw[e]at hx;simp at hx
     ·exact h2 z hz hf
   ·exact .inr h
theorem yb{names:List (Str×NameKind)}(h:(x,NameKind.free)∈names):(iN env names).lookup x=some ((env.cells.lookup x).getD 0):=by
 rcases oo env names [] x with⟨_,h2⟩|h'
 ·exact absurd rfl (h2 _ h rfl)
 ·exact h'
set_option tactic.hygienic true in
theorem jR{names:List (Str×NameKind)}{c:Addr}(h:(iN env names).lookup x=some c):c=(env.cells.lookup x).getD 0/\∃y∈names,y.2=.free/\y.1=x:=by
 rcases oo env names [] x with⟨h1,h2⟩|h'
 ·have:(iN env names).lookup x=none:=h1;rw[h]at this;cases this
 ·refine⟨Option.some.inj (h.symm.trans h'),?_⟩
  false_or_by_contra
  rename_i hn;have key:∀(names:List (Str×NameKind)) (cs:List (Str×Addr)),(∀y∈names,y.2=.free->y.1≠x)->(names.foldl (λcs y=>if y.2== .free then(y.1,(env.cells.lookup y.1).getD 0)::cs else cs) cs).lookup x=cs.lookup x:=by
   intro names;induction names with
   |nil=>intro cs _;rfl
   |cons y r ih=>
    intro cs hy;rw[foldl_cons,ih _ λz hz=>hy z (mem_cons_of_mem _ hz)];cases hk:y.2==NameKind.free with
    |false=>rfl
    |true=>
     simp-iota only[if_true];rw[lookup_cons];have:=hy y (mem_cons_self ..) (by simpa using hk);have:(x==y.1)=false:=by simpa using λe=>this e.symm
     rw[this]
  have:(iN env names).lookup x=none:=key names [] λy hy hf e=>hn ⟨y,hy,hf,e⟩;rw[h]at this;cases this
theorem m6(env:Env):∀(names:List (Str×NameKind)) (y:Str),(names.map λ(n,k)=>if(k==NameKind.free&&env.scope.kind== .function&&env.kindOf n==some .cell)then(n,NameKind.cell)else(n,k)).lookup y=names.lookup y∨(names.lookup y=some .free/\(names.map λ(n,k)=>if(k==NameKind.free&&env.scope.kind== .function&&env.kindOf n==some .cell)then(n,NameKind.cell)else(n,k)).lookup y=some .cell):=by
 intro names y;induction names with
 |nil=>exact .inl rfl
 |cons p r ih=>
  obtain⟨n,k⟩:=p;show List.lookup y ((if(k==NameKind.free&&env.scope.kind== .function&&env.kindOf n==some .cell)=true then(n,NameKind.cell)else(n,k))::_)=_∨_;by_cases hc:(k==NameKind.free&&env.scope.kind== .function&&env.kindOf n==some .cell)=true
  ·rw[map_cons];dsimp only;rw[if_pos hc,lookup_cons,lookup_cons];cases hy:y==n with
   |true=>simp-iota only[and_eq_true,beq_iff_eq]at hc;exact .inr ⟨by rw[hc.1.1],rfl⟩
   |false=>exact ih
  ·rw[map_cons];dsimp only;rw[if_neg hc,lookup_cons,lookup_cons];cases hy:y==n with
   |true=>exact .inl rfl
   |false=>exact ih
theorem fx{β:Type}{f:Str×NameKind->β->Sem (ForInStep β)}(hf:∀y cs,(y.2==NameKind.cell)=false->f y cs=pure (ForInStep.yield cs)):∀(names:List (Str×NameKind)) (cs:β),(forIn names cs f:Sem β)=forIn (names.filter λy=>y.2== .cell) cs f:=by
 intro names;induction names with
 |nil=>intro cs;rfl
 |cons y r ih=>
  intro cs;cases hy:y.2==NameKind.cell with
  |false=>rw[List.filter_cons_of_neg (by rw[hy];decide),forIn_cons,hf y cs hy];refine(?_:(forIn r cs f:Sem β)=_);exact ih cs
  |true=>
   rw[filter_cons_of_pos (p:=λy:Str×NameKind=>y.2== .cell) hy,forIn_cons,forIn_cons];refine congrArg (f y cs>>=·) (funext λst=>?_);cases st with
   |done b=>rfl
   |yield b=>exact ih b
noncomputable abbrev cw(sc':Scope)(cs:List (Str×Addr))(C:Addr)(env:Env):Env:=
 {scope:=sc',locals:=C,globals:=env.globals,cells:=cs,qual:=env.qual,func:=none,code:=env.code,frame:=env.frame,builtins:=env.builtins}
theorem pH{cl:List (Str×Addr)}{Q:Env->Shared->Prop}(h:sc'.names.filter (λy=>y.2== .cell)=[]) (q:Q (cw sc' cl s.heap.objs.size env) {s with heap:=s.heap.push {cls:=.type "dict",data:=.dict #[]}}):wpAny M A (newFunctionEnv sc' env.globals cl [] env.qual none .none (some env)) Q E s:=by simp-iota only[newFunctionEnv,Option.isSome_some,if_true];refine wpAny_bind (wpAny_alloc ?_);rw[fx (λy cs hy=>by simp[hy]),h];exact wpAny_bind (wpAny_pure (wpAny_bind (wpAny_pure (wpAny_pure q))))
theorem qW{cl:List (Str×Addr)}{Q:Env->Shared->Prop}(h:sc'.names.filter (λy=>y.2== .cell)=[(x,.cell)]) (q:Q (cw sc' ((x,s.heap.objs.size+1)::cl) s.heap.objs.size env) {s with heap:=(s.heap.push {cls:=.type "dict",data:=.dict #[]}).push {cls:=.type "cell",data:=.cell none}}):wpAny M A (newFunctionEnv sc' env.globals cl [] env.qual none .none (some env)) Q E s:=by simp-iota only[newFunctionEnv,Option.isSome_some,if_true];refine wpAny_bind (wpAny_alloc ?_);rw[fx (λy cs hy=>by simp[hy]),h];refine wpAny_bind ?_;rw[forIn_cons];simp only[beq_self_eq_true,if_true];refine wpAny_bind (wpAny_bind (wpAny_alloc ?_));rw[show({s with heap:=s.heap.push {cls:=.type "dict",data:=.dict #[]}}:Shared).heap.objs.size=s.heap.objs.size+1 from size_push ..];exact wpAny_pure (wpAny_pure (wpAny_bind (wpAny_pure (wpAny_pure q))))
structure n4(sc sc':Scope)(x:Str):Prop where
 kind:sc'.kind=.function
 dot:x≠(".0":Str)
 target:sc'.names.lookup x=some .local/\sc'.names.filter (λy=>y.2== .cell)=[]∨sc'.names.lookup x=some .cell/\sc'.names.filter (λy=>y.2== .cell)=[(x,.cell)]
 loc:∀y∈sc'.names,y.2=.local->sc'.names.lookup y.1=some .local
 free:∀y∈sc'.names,y.2=.free->sc.names.lookup y.1=some .cell∨sc.names.lookup y.1=some .free
 freeX:∀y∈sc'.names,y.2=.free->y.1≠x
set_option tactic.hygienic true in
theorem pf(h:dw sc sc' x=true):n4 sc sc' x:=by
 unfold dw at h;simp-iota only[and_eq_true,decide_eq_true_eq]at h;obtain⟨⟨⟨h1,h2⟩,h3⟩,h4⟩:=h;refine⟨h1,h2,?_,λy hy hk=>?_,λy hy hk=>?_,λy hy hk=>?_⟩
 ·split at h3
  ·rename_i hl;refine .inl ⟨hl,List.filter_eq_nil_iff.mpr λy hy=>?_⟩;have:=all_eq_true.mp h3 y hy;simpa using this
  ·rename_i hl;exact .inr ⟨hl,of_decide_eq_true h3⟩
  ·cases h3
 ·have:=all_eq_true.mp h4 y hy;rw[hk]at this;exact of_decide_eq_true this
 ·have:=all_eq_true.mp h4 y hy;rw[hk]at this;dsimp only at this;have this:=(and_eq_true _ _▸this).2;split at this
  ·exact .inl (by assumption)
  ·exact .inr (by assumption)
  ·cases this
 ·have:=all_eq_true.mp h4 y hy;rw[hk]at this;dsimp only at this;have this:=(and_eq_true _ _▸this).1;exact of_decide_eq_true this
theorem yd(C:n4 sc sc' x)(F:aF Z env sc m G s.heap){cs:List (Str×Addr)}(hn:Z.n₀<=s.heap.objs.size)(hL:L=s.heap.objs.size) (hk:∀b o,s.heap.get? b=some o->h'.get? b=some o)(hd:h'.get? L=some {cls:=.type "dict",data:=.dict #[]})(hown:∀a,s.heap.objs.size<=a->G.own a=none) (hcs:sc'.names.filter (λy=>y.2== .cell)=[]/\cs=iN env sc'.names∨sc'.names.filter (λy=>y.2== .cell)=[(x,.cell)]/\cs=(x,L+1)::iN env sc'.names/\h'.get? (L+1)=some {cls:=.type "cell",data:=.cell none}):aF Z (cw (relabel sc' env) cs L env) sc' (inner sc' m) G h' where
 kind:=C.kind
 gl:=F.gl
 bl:=F.bl
 kinds y:=m6 env sc'.names y
 above:=by show Z.n₀<=L;rw[hL];exact hn
 own:=hown _ (by show _<=L;rw[hL];exact le_refl _)
 loc:=⟨_,λ_=>none,hd,(λh=>nomatch h),⟨_,#[],0,hd,rfl,λ_ he=>by simp at he,λ_=>rfl⟩,λy v hy hm=>by unfold inner at hm;rw[hy]at hm;cases hm⟩
 cell y hy:=by
  have free:sc'.names.lookup y=some .free->th Z.n₀ (cw (relabel sc' env) (iN env sc'.names) L env) G h' (inner sc' m y) y:=by
   intro hf;have hmem:=mem_of_lookup hf;obtain⟨c,o,u,e1,e2,e3,e4,e5,e6,e7,e8⟩:=F.cell y (C.free _ hmem rfl);refine⟨c,o,u,by rw[yb hmem,e1];rfl,?_,e3,e4,hk _ _ e5,e6,e7,λv hm=>e8 v ?_⟩
   ·have:=lt_size e5;rw[hL];exact ne_of_lt this
   ·unfold inner at hm;rw[hf]at hm;exact hm
  rcases hcs with⟨h0,rfl⟩|⟨h0,rfl,hc⟩
  ·rcases hy with hy|hy
   ·have:(y,NameKind.cell)∈sc'.names.filter (λy=>y.2== .cell):=mem_filter.mpr ⟨mem_of_lookup hy,rfl⟩;rw[h0]at this;cases this
   ·exact free hy
  ·rcases hy with hy|hy
   ·have:(y,NameKind.cell)∈sc'.names.filter (λy=>y.2== .cell):=mem_filter.mpr ⟨mem_of_lookup hy,rfl⟩;rw[h0]at this;simp at this;subst this;refine⟨L+1,_,none,by simp[lookup_cons],Nat.succ_ne_self _,by rw[hL];(exact le_succ_of_le (by assumption)),hown _ (by rw[hL];(exact le_succ _)),hc,(λh=>nomatch h),rfl,λv hm=>?_⟩;unfold inner at hm;rw[hy]at hm;cases hm
   ·obtain⟨c,o,u,e1,e2,e3,e4,e5,e6,e7,e8⟩:=free hy;have hne:y≠x:=by rintro rfl;rcases C.target with⟨h1,_⟩|⟨h1,_⟩<;>(rw[h1]at hy;cases hy)
    refine⟨c,o,u,?_,e2,e3,e4,e5,e6,e7,e8⟩;have:(y==x)=false:=by simpa using hne
    refine(?_:List.lookup y ((x,L+1)::iN env sc'.names)=_);rw[lookup_cons,this];exact e1
 apart y z c hy hz:=by
  have cl:∀y c,(iN env sc'.names).lookup y=some c->env.cells.lookup y=some c/\c<s.heap.objs.size:=by intro y c h;obtain⟨rfl,p,hp,hf,rfl⟩:=jR h;obtain⟨c,o,u,e1,e2,e3,e4,e5,_⟩:=F.cell p.1 (C.free p hp hf);rw[e1];exact⟨rfl,lt_size e5⟩
  rcases hcs with⟨h0,rfl⟩|⟨h0,rfl,hc⟩
  ·exact F.apart y z c (cl y c hy).1 (cl z c hz).1
  ·have hy:List.lookup y ((x,L+1)::iN env sc'.names)=some c:=hy;have hz:List.lookup z ((x,L+1)::iN env sc'.names)=some c:=hz;rw[lookup_cons]at hy hz;cases q1:y==x<;>cases q2:z==x<;>rw[q1]at hy<;>rw[q2]at hz
   ·exact F.apart y z c (cl y c hy).1 (cl z c hz).1
   ·have:=(cl y c hy).2;cases hz;exact absurd this (by rw[hL];exact not_lt.mpr (le_succ _))
   ·have:=(cl z c hz).2;cases hy;exact absurd this (by rw[hL];exact not_lt.mpr (le_succ _))
   ·exact(beq_iff_eq.mp q1).trans (beq_iff_eq.mp q2).symm
noncomputable abbrev dP(ifs:List Expr)(env:Env)(b:Bool):Sem Bool:=
 forIn ifs b λc r=>if r=true then do let ok<-isTrue c env (eval c env);pure (ForInStep.yield ok)else pure (ForInStep.yield r)
theorem qe(ifs:List Expr)(env:Env):dP ifs env false=pure false:=by
 induction ifs with
 |nil=>rfl
 |cons c r ih=>unfold dP at ih⊢;rw[forIn_cons];simp only[false_eq_true,if_false];exact ih
theorem qE(H:aP Z prog w ev n)(h:mf ev sc m ifs V=some (b,V'))(I:Inv Z s G V)(F:aF Z env sc m G s.heap)(hA:aL (n+20) A):Run Z prog w A [] G s (dP ifs env true) V' (ub b):=by
 induction ifs generalizing V s G with
 |nil=>obtain⟨rfl,rfl⟩:=af h;exact Run.pure I rfl
 |cons c r ih=>
  refine aj h λt V1 h1 h=>?_;unfold dP;rw[forIn_cons];simp only[if_true];intro Q E q;refine wpAny_bind (wpAny_bind (H.b h1 I F hA _ E λy LK G₁ I₁ S1 e=>wpAny_pure ?_));subst e;cases y with
  |true=>exact ih h I₁ (F.keepE S1) Q E λz LL G₂ I₂ S2 p=>q z LL G₂ I₂ (S1.trans S2) p
  |false=>obtain⟨rfl,rfl⟩:=af h;refine(?_:wpAny _ _ (dP r env false) _ _ _);rw[qe];exact wpAny_pure (q false LK G₁ I₁ S1 rfl)
inductive Ko(Z:dK)(ev:Ev)(sc':Scope)(cenv:Env)(x:Str)(m:Loc)(elt:Expr)(ifs:List Expr)(a:Nat)(J:Addr)(G:Gh)(s:Shared)(V':aI)(k:Nat)(LK:Shared):Prop where
 |mk (G₁:Gh) (V1:aI) (it1:It) (m₁:Loc) (h:mh ev sc' x m elt ifs a k it1 V1=some ((),V')) (I:Inv Z LK G₁ V1) (F:aF Z cenv sc' m₁ G₁ LK.heap) (hm:∀u,Loc.set m₁ x u=Loc.set (inner sc' m) x u) (A:lK Z LK.heap G₁ J it1) (S:aK (J::Cc cenv x) G s G₁ LK):Ko Z ev sc' cenv x m elt ifs a J G s V' k LK
theorem DA{P:Prop}{a:Nat}{u:PV}{z:Unit}(h:pW a u V=some (z,V'))(k:∀xs,V[a]?=some (.list xs)->xs.length<lim->V'=V.set a (.list (xs++[u]))->P):P:=
 aM h λob e h=>ah h λxs ex h=>ag h λhl h=>k xs (gY ex▸e) (of_decide_eq_true hl) (gS h).2
theorem Loc.set2(l:Loc)(x:Str)(u v:PV):Loc.set (Loc.set l x v) x u=Loc.set l x u:=by
 funext z;unfold Loc.set;by_cases h:z=x
 ·rw[if_pos h,if_pos h]
 ·rw[if_neg h,if_neg h,if_neg h]
section turn
variable (prog:Program) (w:World) (A:Around) (env:Env) (R:PySem.Result->Shared->Prop) (I:Nat->Shared->Prop) (elt:Expr) (D:Addr) (n:Nat)
def zl:Value->Shared->Prop:=notedBy (model prog w) A env λe s'=>R (.error e) s'
def Jr(s:Shared):Prop:=∃j,j<n/\I j s
def LJ(s:Shared):Prop:=wpAny (model prog w) A (eval elt env) (λx LX=>wpAny (model prog w) A (call (.builtin "list.append") [.ref D,x]) (λ_=>Jr I n) (zl prog w A env R) LX) (zl prog w A env R) s
def Ln(b:Bool)(s:Shared):Prop:=if b=true then LJ prog w A env R I elt D n s else Jr I n s
def Lf(x:Str)(px:Pos)(ifs:List Expr)(v:Value)(s:Shared):Prop:=wpAny (model prog w) A (assign (.Name x px) env v) (λ_ LL=>wpAny (model prog w) A (dP ifs env true) (Ln prog w A env R I elt D n) (zl prog w A env R) LL) (zl prog w A env R) s
noncomputable def Lq(x:Str)(px:Pos)(ifs:List Expr)(r:Option Value)(s:Shared):Prop:=match r with
 |none=>R (.ok .next) s
 |some v=>Lf prog w A env R I elt D n x px ifs v s
end turn
theorem tr(I:Nat->Shared->Prop) (turn:∀n s,I n s->wpAny (model prog w) A (pyNext (.ref J)) (Lq prog w A env R I elt D n x px ifs) (zl prog w A env R) s)(n:Nat)(h:I n s):codeAny (model prog w) A (.compLoop (.ListComp elt [⟨.Name x px,iter,ifs,0⟩] scope pos) 0 (.ref J) (.ref D) env) R s:=codeAny_compLoop_tests I turn n h
theorem s6(H:aP Z prog w ev n){a:Nat}{m₀:Loc} (hl:sc'.names.lookup x=some .local∨sc'.names.lookup x=some .cell) (h:mh ev sc' x m elt ifs a k it V=some ((),V'))(I:Inv Z s G V)(F:aF Z cenv sc' m₀ G s.heap)(hm:∀u,Loc.set m₀ x u=Loc.set (inner sc' m) x u)(T:lK Z s.heap G J it)(hD:G.ad[a]?=some D) (hJ:J∉bB cenv)(hA:aL (n+20) A)(bn:∀LK G₁ m₁,Inv Z LK G₁ V'->aK (J::Cc cenv x) G s G₁ LK->aF Z cenv sc' m₁ G₁ LK.heap->R (.ok .next) LK):codeAny (model prog w) A (.compLoop (.ListComp elt [⟨.Name x px,iter,ifs,0⟩] scope pos) 0 (.ref J) (.ref D) cenv) R s:=by
 refine tr (Ko Z ev sc' cenv x m elt ifs a J G s V') ?_ k ⟨G,V,it,m₀,h,I,F,hm,T,aK.refl _ _ _⟩;rintro k LK ⟨G₁,V1,it1,m₁,h,I₁,F₁,hm₁,T1,S1⟩;cases k with
 |zero=>cases h
 |succ k=>
  refine aj h λr V2 h1 h=>?_;have hJ1:∀b∈bB cenv,b∉[J]:=λb hb hb'=>hJ (by have:=mem_singleton.mp hb';exact this▸hb);refine kv (fp:=[J]) h1 I₁ T1 (mem_singleton.mpr rfl) hA.1 _ _ λy LL G₂ I₂ S2 p=>?_;have F₂:=F₁.keep S2 hJ1;have S2':aK (J::Cc cenv x) G s G₂ LL:=S1.trans (S2.weak λb hb=>by rw[mem_singleton.mp hb];exact mem_cons_self ..);cases r with
  |none=>subst p;obtain⟨_,rfl⟩:=af h;exact bn LL G₂ _ I₂ S2' F₂
  |some vi=>
   obtain⟨u,it2⟩:=vi;obtain⟨y,rfl,ry,L8⟩:=p;refine(?_:wpAny _ _ (assign (.Name x px) cenv y) _ _ _);rw[arm_assign_Name];refine wpAny_bind (wpAny_standAt (nu hl I₂ F₂ ry _ _ λ_ s₃ G₃ I₃ S3 F₃=>?_));rw[hm₁ u]at F₃;have hX:J∉Cc cenv x:=λhb=>hJ (vt F₂ _ hb);have T3:=L8.keep S3 hX;have S3':aK (J::Cc cenv x) G s G₃ s₃:=S2'.trans (S3.weak λb hb=>mem_cons_of_mem _ hb);refine aj h λt V3 h2 h=>?_;refine aj h λ_ V4 h3 h=>?_;refine qE H h2 I₃ F₃ hA _ _ λb LX G₄ I₄ S4 e=>?_;subst e;have F₄:=F₃.keepE S4;have T4:=T3.keep S4 (λh=>nomatch h);have S4':=S3'.trans S4.nil;have next:∀{s₅ G₅ V5},mh ev sc' x m elt ifs a k it2 V5=some ((),V')->Inv Z s₅ G₅ V5->aF Z cenv sc' (Loc.set (inner sc' m) x u) G₅ s₅.heap->lK Z s₅.heap G₅ J it2->aK (J::Cc cenv x) G s G₅ s₅->Jr (Ko Z ev sc' cenv x m elt ifs a J G s V') (k+1) s₅:=
    λh5 I5 F5 T5 S5=>⟨k,lt_succ_self k,_,_,_,_,h5,I5,F5,λ_=>Loc.set2 ..,T5,S5⟩
   cases b with
   |false=>obtain⟨_,rfl⟩:=af h3;exact next h I₄ F₄ T4 S4'
   |true=>refine aj h3 λz V5 h3 h5=>?_;refine H.e h3 I₄ F₄ hA _ _ λyz s₅ G₅ LV LY r₅=>?_;have Md:=F₄.keepE LY;have T₅:=T4.keep LY (λh=>nomatch h);have S5':=S4'.trans LY.nil;refine DA h5 λxs e1 hlim h5=>?_;subst h5;have hD5:=bD S5'.ad hD;refine lQ (fp:=[]) LV hD5 e1 hlim r₅ _ _ λ_ s₆ G₆ I₆ S6 _=>?_;exact next h I₆ (Md.keepE S6) (T₅.keep S6 (λh=>nomatch h)) (S5'.trans S6.nil)
theorem gb(h:aY iter=true)(y:Value):foldedSetIterable iter env y=pure y:=by cases iter<;>first|exact Eq.refl (pure y)|cases h
structure Ee(Z:dK)(env:Env)(sc:Scope)(m:Loc)(G:Gh)(s:Shared)(V':aI)(v:PV)(D C:Addr)(G₁:Gh)(LK:Shared):Prop where
 inv:Inv Z LK G₁ V'
 stp:aK [] G s G₁ LK
 rep:az G₁.ad (.ref D) v
 ns:∃o ml,LK.heap.get? C=some o/\o.cls≠.none/\LK.heap.Ns C ml
 own:G₁.own C=none
 above:Z.n₀<=C
 new:s.heap.get? C=none
noncomputable def lB(ev:Ev)(sc':Scope)(m:Loc)(x:Str)(elt:Expr)(ifs:List Expr)(v:PV):Mo PV:=do
 let it<-jk v
 let acc<-fH (.list [])
 match acc with
 | .ref a=>do mh ev sc' x m elt ifs a c7 it;ok (.ref a)
 |_=>no
theorem lj(H:aP Z prog w ev n){p0:Pos}{use:Option (Value->Sem Unit)}(hm:(dw sc sc' x&&aY iter)=true) (hi:Run Z prog w A [] G s (eval iter env) V1 (bj Mb))(h:lB ev sc' m x elt ifs Mb V1=some (v,V'))(F:aF Z env sc m G s.heap)(hA:aL (n+20) A) (bn:∀D C LK G₁,Ee Z env sc m G s V' v D C G₁ LK->compPost (model prog w) A E use Q (.ref D) C (.ok .next) LK):wpAny (model prog w) A (comprehension (.ListComp elt [⟨.Name x px,iter,ifs,0⟩] sc' pos) sc' env p0 (PySem.newList []) false (eval iter env) use) Q E s:=by
 simp only[and_eq_true]at hm;unfold lB at h;refine aj h λit V2 h2 h=>?_;have h:=k8 h;refine aj h λ_ V3 h3 h4=>?_;obtain⟨rfl,rfl⟩:=af h4;have C:=pf hm.1;have hkind:=C.kind;have hfree:∀y∈sc'.names,y.2=.free->(env.cells.lookup y.1).isSome=true:=λy hy hf=>by obtain⟨c,o,u,e1,_⟩:=F.cell y.1 (C.free y hy hf);rw[e1];rfl
 refine wpAny_comprehension_free rfl (gb hm.2) (sI hfree) hkind C.loc ?_;refine hi.later _ _ λy LK G₁ I₁ S1 LM=>?_;obtain⟨Mg,LM⟩:=LM;have F₁:=F.keepE S1;refine(ku (fp:=[]) h2 I₁ LM).later _ _ λz LL G₂ I₂ S2 LW=>?_;obtain⟨L₂,J,rfl,L8,newJ⟩:=LW;have F₂:=F₁.keepE S2;refine(kg (fp:=[]) (vs:=[]) (xs:=[]) I₂ .nil (zero_le _)).later _ _ λd s₃ G₃ I₃ S3 L6=>?_;obtain⟨L₃,D,hD,rfl⟩:=L6;have L03:Later s s₃:=Mg.trans (L₂.trans L₃);have F₃:=F₂.keepE S3;have T3:=L8.keep S3 (λh=>nomatch h);obtain⟨oJ,eJ,cJ,_⟩:=T3.rep.obj;have hJlt:J<s₃.heap.objs.size:=lt_size eJ
 --the frame
 have cont:∀(cs:List (Str×Addr)) (h':Heap),(∀b o,s₃.heap.get? b=some o->h'.get? b=some o)->h'.get? s₃.heap.objs.size=some {cls:=.type "dict",data:=.dict #[]}->(sc'.names.filter (λy=>y.2== .cell)=[]/\cs=iN env sc'.names∨sc'.names.filter (λy=>y.2== .cell)=[(x,.cell)]/\cs=(x,s₃.heap.objs.size+1)::iN env sc'.names/\h'.get? (s₃.heap.objs.size+1)=some {cls:=.type "cell",data:=.cell none})->codeAny (model prog w) A (.compStart (.ListComp elt [⟨.Name x px,iter,ifs,0⟩] sc' pos) 0 (.ref J) (.ref D) (cw (relabel sc' env) cs s₃.heap.objs.size env)) (compPost (model prog w) A E use Q (.ref D) s₃.heap.objs.size) {s₃ with heap:=h'}:=by
  intro cs h' hk hd hcs;have I₄:Inv Z {s₃ with heap:=h'} G₃ (V2++[.list []]):=I₃.kept (le_refl _) hk;have S4:aK [] G₃ s₃ G₃ {s₃ with heap:=h'}:=aK.kept hk;have F₄:aF Z (cw (relabel sc' env) cs s₃.heap.objs.size env) sc' (inner sc' m) G₃ h':=yd C F₃ I₃.above rfl hk hd (λa ha=>I₃.fresh a (bb ha)) hcs;have T4:=T3.keep S4 (λh=>nomatch h);have hl:sc'.names.lookup x=some .local∨sc'.names.lookup x=some .cell:=C.target.elim (λh=>.inl h.1) λh=>.inr h.1;have oldc:∀y c,(iN env sc'.names).lookup y=some c->∃o,LK.heap.get? c=some o:=by intro y c h;obtain⟨rfl,p,hp,hf,rfl⟩:=jR h;obtain⟨c,o,u,e1,e2,e3,e4,e5,_⟩:=F₁.cell p.1 (C.free p hp hf);rw[e1];exact⟨o,e5⟩
  have cellsOf:∀y c,cs.lookup y=some c->(∃o,LK.heap.get? c=some o)∨(c=s₃.heap.objs.size+1):=by
   intro y c h;rcases hcs with⟨_,rfl⟩|⟨_,rfl,_⟩
   ·exact .inl (oldc y c h)
   ·rw[lookup_cons]at h;cases q:y==x<;>rw[q]at h
    ·exact .inl (oldc y c h)
    ·cases h;exact .inr rfl
  have hJ:J∉bB (cw (relabel sc' env) cs s₃.heap.objs.size env):=by
   intro hj;rcases mI hj with e|⟨y,_,e⟩
   ·exact absurd hJlt (by rw[show J=s₃.heap.objs.size from e];exact lt_irrefl _)
   ·rcases cellsOf y J e with⟨o,e'⟩|e'
    ·exact absurd (lt_size e') (not_lt.mpr newJ)
    ·exact absurd hJlt (by rw[e'];exact not_lt.mpr (le_succ _))
  have loop:codeAny (model prog w) A (.compLoop (.ListComp elt [⟨.Name x px,iter,ifs,0⟩] sc' pos) 0 (.ref J) (.ref D) (cw (relabel sc' env) cs s₃.heap.objs.size env)) (compPost (model prog w) A E use Q (.ref D) s₃.heap.objs.size) {s₃ with heap:=h'}:=by
   refine s6 H hl h3 I₄ F₄ (λ_=>rfl) T4 hD hJ hA λs₅ G₅ m₅ LV LY Md=>bn D s₃.heap.objs.size s₅ G₅ ?_;have S:aK (J::Cc (cw (relabel sc' env) cs s₃.heap.objs.size env) x) G s G₅ s₅:=((S1.trans (S2.trans (S3.trans S4))).weak λ_ h=>nomatch h).trans LY;obtain⟨o,ml,e1,e2,e3,_⟩:=Md.loc;refine⟨LV,S.cut λa ha=>.inr ?_,⟨D,bD LY.ad hD,rfl⟩,⟨o,ml,e1,e2,e3⟩,Md.own,Md.above,bb L03.2⟩;rcases mem_cons.mp ha with rfl|ha
   ·exact bb (Nat.le_trans Mg.2 newJ)
   rcases mem_cons.mp ha with rfl|ha
   ·exact bb L03.2
   ·split at ha
    rotate_left
    ·cases ha
    cases hc:cs.lookup x with
    |none=>rw[show(cw (relabel sc' env) cs s₃.heap.objs.size env).cells=cs from rfl,hc]at ha;cases ha
    |some c=>
     rw[show(cw (relabel sc' env) cs s₃.heap.objs.size env).cells=cs from rfl,hc]at ha;have:a=c:=by simpa using ha
     subst this;rcases hcs with⟨hf,rfl⟩|⟨hf,rfl,_⟩
     ·obtain⟨_,p,hp,hpf,hpx⟩:=jR hc;exact absurd hpx (C.freeX p hp hpf)
     ·rw[lookup_cons]at hc;simp at hc;subst hc;exact bb (Nat.le_trans L03.2 (le_succ _))
  exact codeAny_compStart_list loop (Ec T4.rep loop)
 rcases C.target with⟨_,hf⟩|⟨_,hf⟩
 ·refine pH hf ?_;exact cont _ _ (λb o e=>Heap.get?_push_of_some _ e) (Heap.get?_push_size _ rfl) (.inl ⟨hf,rfl⟩)
 ·refine qW hf ?_;refine cont _ _ (λb o e=>Heap.get?_push_of_some _ (Heap.get?_push_of_some _ e)) (Heap.get?_push_of_some _ (Heap.get?_push_size _ rfl)) (.inr ⟨hf,rfl,?_⟩);have:=Heap.get?_push_size (h:=s₃.heap.push {cls:=.type "dict",data:=.dict #[]}) (o:={cls:=.type "cell",data:=.cell none}) rfl
  rwa [size_push]at this
theorem kE(H:aP Z prog w ev n)(hm:(dw sc sc' x&&aY iter)=true) (hi:Run Z prog w A [] G s (eval iter env) V1 (bj Mb))(h:lB ev sc' m x elt ifs Mb V1=some (v,V'))(F:aF Z env sc m G s.heap)(hA:aL (n+20) A):Run Z prog w A [] G s (eval (.ListComp elt [⟨.Name x px,iter,ifs,0⟩] sc' pos) env) V' (bj v):=by intro Q E q;rw[arm_eval_ListComp];refine lj (use:=none) H hm hi h F hA λD C LK G₁ e=>?_;obtain⟨o,ml,e1,e2,e3⟩:=e.ns;refine⟨ml,e3,λh' hs=>?_⟩;have S:aK [C] G s G₁ {LK with heap:=h'}:=e.stp.nil.trans (aK.aside (s':={LK with heap:=h'}) hs.extBut rfl rfl (mem_singleton.mpr rfl));exact q (.ref D) _ G₁ (e.inv.aside (s':={LK with heap:=h'}) e.own e.above hs.extBut rfl e.inv.tok) (S.cut λa ha=>.inr (by rw[mem_singleton.mp ha];exact e.new)) e.rep
theorem t8(H:aP Z prog w ev n) (h:yi T ev sc m (.ListComp elt [⟨.Name x px,iter,ifs,0⟩] sc' pos) V=some (v,V'))(I:Inv Z s G V)(F:aF Z env sc m G s.heap)(hA:aL (n+20) A):Run Z prog w A [] G s (eval (.ListComp elt [⟨.Name x px,iter,ifs,0⟩] sc' pos) env) V' (bj v):=
 ag h λhm h=>aj h λ_ _ h1 h=>kE H hm (H.e h1 I F hA) h F hA
theorem qg{l:List Expr}(h:eT l=some e):∃p,l=[.Starred e p]:=by obtain⟨x,h1,h2⟩:=bind_eq_some_iff.mp h;obtain⟨p,e2⟩:=tE h2;exact⟨p,by rw[gG h1,e2]⟩
theorem ii{gens:List Comprehension}(h:cK gens=some (x,iter,ifs)):∃px,gens=[⟨.Name x px,iter,ifs,0⟩]:=by
 obtain⟨⟨target,it,is,a⟩,h1,h⟩:=bind_eq_some_iff.mp h;by_cases q:a=0
 ·rw[if_pos q]at h;obtain⟨y,h2,h⟩:=map_eq_some_iff.mp h;cases h;obtain⟨p,e⟩:=cU h2;exact⟨p,by rw[gG h1,<-e,q]⟩
 ·rw[if_neg q]at h;cases h
section
variable {x:Expr}
set_option tactic.hygienic true in
theorem wW(R:bC Z prog w T)(H:aP Z prog w ev n)(h:yi T ev sc m x V=some (v,V'))(I:Inv Z s G V)(F:aF Z env sc m G s.heap)(hA:aL (n+21) A):Run Z prog w A [] G s (eval x env) V' (bj v):=by
 have hB:aL (n+20) A:=hA.less (by lia);cases x with
 |Constant c k p=>exact qu h I
 |Name x p=>exact tT R.toNames h I F
 |BinOp l op r p=>exact ya H h I F hB
 |UnaryOp op y p=>exact By H h I F hB
 |BoolOp op vs p=>rw[arm_eval_BoolOp];exact pI H h I F hB
 |IfExp t b o p=>exact qi H h I F hB
 |Compare l ops rs p=>refine ah h λop h1 h=>ah h λr h2 h=>?_;rw[gG h1,gG h2];exact xU H h I F hB
 |Call f args kws p=>
  cases kws with
  |cons _ _=>cases h
  |nil=>
   cases f<;>first|exact(aQ h).elim|(cases h;done)|skip
   ·rename_i o name apos;have h':qY T ev sc m o name apos args p V=some (v,V'):=h;unfold qY at h';cases h1:eT args with
    |some e=>obtain⟨sp,rfl⟩:=qg h1;exact kF R H h I F hA
    |none=>rw[h1]at h';exact kR R H h' I F hA
   ·exact kQ R H h I F hA
 |Attribute o y p=>exact s5 R H h I F hB
 |Subscript o i p=>
  have h':sW T ev sc m o i V=some (v,V'):=h;unfold sW at h';cases h1:sliceOf i with
  |some lh=>obtain⟨lo,hi⟩:=lh;obtain⟨q,rfl⟩:=oO h1;rw[h1]at h';exact rQ H h' I F hB
  |none=>rw[h1]at h';exact xy R H h' I F hB
 |List es p=>exact tw H h I F hB
 |Tuple es k p=>exact qw H h I F hB
 |ListComp elt gens sc' p=>
  have h':kB ev sc m elt gens sc' V=some (v,V'):=h;unfold kB at h';cases h1:cK gens with
  |none=>rw[h1]at h';cases h'
  |some c=>obtain⟨y,iter,ifs⟩:=c;obtain⟨px,rfl⟩:=ii h1;exact t8 H h I F hB
 |_=>first|exact(aQ h).elim|cases h
theorem pn(hw:Run Z prog w A [] G s whole V1 (bj v))(h:fR v V1=some (b,V')):Run Z prog w A [] G s (do let v<-whole;standAt e.pos;holding [v] (truthy v)) V' (ub b):=
 Run.bind hw λy LK G₁ I₁ S1 LM=>Run.stand (Run.hold (bL h I₁ LM))
theorem mT(H:aP Z prog w ev n)(h:lq ev sc m x V=some (b,V'))(I:Inv Z s G V)(F:aF Z env sc m G s.heap)(hB:aL (n+20) A):Run Z prog w A [] G s (do let v<-eval x env;standAt x.pos;holding [v] (truthy v)) V' (ub b):=by refine aj h λu V1 h1 h2=>?_;exact pn (H.e h1 I F hB) h2
theorem xN(H:aP Z prog w ev n)(h:K6 ev sc m x V=some (b,V'))(I:Inv Z s G V)(F:aF Z env sc m G s.heap)(hA:aL (n+21) A):Run Z prog w A [] G s (isTrue x env (eval x env)) V' (ub b):=by
 have hB:aL (n+20) A:=hA.less (by lia);cases x with
 |UnaryOp op y p=>
  cases op with
  |Not=>refine aj h λt V1 h1 h=>?_;obtain⟨rfl,rfl⟩:=af h;rw[arm_isTrue_UnaryOp];exact Run.bind (H.b h1 I F hB) λy LK G₁ I₁ S1 e=>Run.pure I₁ (by rw[e])
  |_=>first|exact(aQ h).elim|cases h
 |BoolOp op vs p=>rw[arm_isTrue_BoolOp];exact oG H h I F hB
 |Compare l ops rs p=>refine ah h λop h1 h=>ah h λr h2 h=>?_;rw[gG h1,gG h2];exact jN H h I F hB
 |IfExp t b o p=>cases h
 |_=>exact mT H h I F hB
end
theorem nO{a b:PV}{x:Value}(h:Ap op a b V=some (v,V'))(I:Inv Z s G V)(ra:az G.ad x a)(rb:az G.ad y b):Run Z prog w A fp G s (inplaceOp op x y) V' (bj v):=by
 refine ah h λi e1 h=>ah h λj e2 h=>?_;obtain⟨t,rfl⟩:=cf e1 ra;obtain⟨u,rfl⟩:=cf e2 rb;cases op<;>first|exact(aQ h).elim|(cases h;done)|skip
 ·obtain⟨rfl,rfl⟩:=af h;exact ay I λQ E q=>AutoIntOps.iadd_0 (q _ _ (le_succ _) ⟨_,rfl⟩)
 ·obtain⟨rfl,rfl⟩:=af h;exact ay I λQ E q=>AutoIntOps.isub_0 (q _ _ (le_succ _) ⟨_,rfl⟩)
theorem ig{o i:PV}{x:Value}(h:eV o i v V=some ((),V'))(I:Inv Z s G V)(ro:az G.ad x o)(ri:az G.ad y i)(rv:az G.ad z v):Run Z prog w A [] G s (setItem x y z) V' Hz:=by refine ah h λk e1 h=>ah h λr e2 h=>aM h λob e h=>ah h λxs e3 h=>ag h λhm h=>?_;obtain⟨t,rfl⟩:=cf e1 ri;obtain⟨a,ha,rfl⟩:=jt e2 ro;rw[eH e3]at e;have hm:=of_decide_eq_true hm;obtain⟨_,rfl⟩:=gS h;exact jV I ha e hm.1 hm.2 rv
theorem jy(R:bC Z prog w T)(H:aP Z prog w ev n)(h:jx T ev sc m t v V=some (m',V'))(I:Inv Z s G V)(F:aF Z env sc m G s.heap)(r:az G.ad y v)(hA:aL (n+20) A):Run Z prog w A (bB env) G s (assign t env y) V' (Hi Z env sc m'):=by
 cases t with
 |Name x p=>obtain⟨h2,rfl⟩:=aW h;rw[arm_assign_Name];exact Run.stand (dI h2 I F r)
 |Attribute o x p=>refine ag h λhs h=>?_;refine aj h λov V1 h1 h=>?_;refine aj h λ_ V2 h2 h=>?_;obtain⟨rfl,rfl⟩:=af h;rw[arm_assign_Attribute];refine Run.nil ((Run.bind (Run.hold (H.e h1 I F hA)) λx LK G₁ I₁ S1 LM=>Run.stand (Run.bind (P':=λG' s' _=>aF Z env sc m G' s'.heap) (Run.hold (R.setA h2 I₁ LM (r.mono S1.ad) (hA.less (by lia)))) λ_ LL G₂ I₂ S2 _=>?_)));exact λQ E q=>wpAny_release (q () LL G₂ I₂ (aK.refl _ _ _) ((F.keepE S1).keepE S2))
 |Subscript o i p=>refine ag h λ_ h=>?_;refine aj h λov V1 h1 h=>?_;refine aj h λiv V2 h2 h=>?_;refine aj h λ_ V3 h3 h=>?_;obtain⟨rfl,rfl⟩:=af h;rw[arm_assign_Subscript];refine Run.nil (Run.bind (Run.hold (H.e h1 I F hA)) λx LK G₁ I₁ S1 LM=>Run.bind (Run.hold (H.e h2 I₁ (F.keepE S1) hA)) λz LL G₂ I₂ S2 LW=>Run.stand ?_);refine Run.bind (P':=λG' s' _=>aF Z env sc m G' s'.heap) (Run.hold (ig h3 I₂ (LM.mono S2.ad) LW ((r.mono S1.ad).mono S2.ad))) λ_ s₃ G₃ I₃ S3 _=>?_;exact λQ E q=>wpAny_release (q () s₃ G₃ I₃ (aK.refl _ _ _) (((F.keepE S1).keepE S2).keepE S3))
 |Tuple ts k p=>refine aj h λus V1 h1 h=>?_;obtain⟨h2,rfl⟩:=aW h;rw[arm_assign_Tuple];refine Run.stand ?_;obtain⟨e1,e2⟩:=jZ (env:=env) h2;unfold unpack;rw[e1,e2];intro Q E q;refine wpAny_bind (wpAny_holding (eE (fp:=[]) h1 I r hA.1 _ E λys LK G₁ I₁ S1 LM=>?_));exact j9 h2 I₁ (F.keepE S1) LM Q E λ_ LL G₂ I₂ S2 F₂=>q _ _ _ I₂ (S1.nil.trans S2) F₂
 |_=>first|exact(aQ h).elim|cases h
theorem lR(h:jx T ev sc m t v V=some (m',V')):assignEach (t::ts) env=(false,assign t env)::assignEach ts env:=by cases t<;>first|rfl|cases h
theorem ie(R:bC Z prog w T)(H:aP Z prog w ev n)(h:fh T ev sc m ts v V=some (m',V'))(I:Inv Z s G V)(F:aF Z env sc m G s.heap)(r:az G.ad y v)(hA:aL (n+20) A):Run Z prog w A (bB env) G s (assignAll y ((assignEach ts env).map (·.2))) V' (Hi Z env sc m'):=by
 induction ts generalizing m V s G with
 |nil=>obtain⟨rfl,rfl⟩:=af h;exact Run.pure I F
 |cons t ts ih=>
  refine aj h λm₁ V1 h1 h=>?_;rw[lR h1];have step:=jy R H h1 I F r hA;cases ts with
  |nil=>obtain⟨rfl,rfl⟩:=af h;exact step
  |cons t' ts=>
   refine aj h λm₂ V2 h2 h3=>?_;have e:assignEach (t'::ts) env=(false,assign t' env)::assignEach ts env:=lR h2;have hh:assignAll y (((false,assign t env)::assignEach (t'::ts) env).map (·.2))=(holding [y] (assign t env y)>>=λ_=>assignAll y ((assignEach (t'::ts) env).map (·.2))):=by rw[e];rfl
   rw[hh];exact Run.bind (Run.hold step) λ_ LK G₁ I₁ S1 F₁=>ih h I₁ F₁ (r.mono S1.ad)
theorem rL(h:ce e=false):swapsWith e (some t) line env=pure false:=by cases e<;>first|exact Eq.refl (pure false)|cases h
theorem sN{value:Expr}(h:ce value=false):swapsWithSole ts value line env=pure false:=by
 cases ts with
 |nil=>rfl
 |cons t r=>cases r with
  |nil=>exact rL h
  |cons _ _=>rfl
theorem uh{g:List Comprehension}{s:Scope}:∃b,swapsWith (.ListComp e g s p) (some t) line env=pure b/\(b=true->∃x q,t=.Name x q):=by
 by_cases h:∃x q,t=.Name x q
 ·obtain⟨x,q,rfl⟩:=h;exact⟨_,rfl,λ_=>⟨_,_,rfl⟩⟩
 ·refine⟨false,?_,λh=>nomatch h⟩;generalize ht:t=t';cases(t')<;>first|exact Eq.refl (pure false)|exact(h ⟨_,_,ht⟩).elim
theorem xV{g:List Comprehension}{s:Scope}:∃b,swapsWithSole ts (.ListComp e g s p) line env=pure b/\(b=true->∃x q,ts=[.Name x q]):=by
 cases ts with
 |nil=>exact⟨false,rfl,λh=>nomatch h⟩
 |cons t r=>cases r with
  |nil=>obtain⟨b,h1,h2⟩:=uh (e:=e) (t:=t) (g:=g) (s:=s) (p:=p) (line:=line) (env:=env);exact⟨b,h1,λh=>by obtain⟨x,q,e⟩:=h2 h;exact⟨x,q,by rw[e]⟩⟩
  |cons _ _=>exact⟨false,rfl,λh=>nomatch h⟩
theorem pN{value:Expr}(h1:∀ts' k p vs k' p',ts=[.Tuple ts' k p]->value=.Tuple vs k' p'->False)(h2:∀ts' p,ts=[.List ts' p]->False):swappedStores ts value env=pure none:=by
 cases ts with
 |nil=>rfl
 |cons t r=>
  cases r with
  |nil=>
   generalize ht:t=t';cases(t')<;>first|exact Eq.refl (pure none)|exact(h2 _ _ (congrArg (λx=>[x]) ht)).elim|skip
   generalize hv:value=v';cases(v')<;>first|exact Eq.refl (pure none)|exact(h1 _ _ _ _ _ _ (congrArg (λx=>[x]) ht) hv).elim
  |cons _ _=>clear h1 h2;cases t<;>first|exact Eq.refl (pure none)|(cases value<;>exact Eq.refl (pure none))
section
variable {f:a9}
theorem BS{Q:Flow->Shared->Prop}(e:Expr)(as:List Expr)(ks:List Keyword)(p pos:Pos)(v:Value)(bn:Q .next s):wpAny (model prog w) A (dropValue (.Call e as ks p) pos v) Q E s:=by have h0:wpAny (model prog w) A (pure .next) Q E s:=wpAny_pure bn;cases v<;>first|exact h0|exact wpAny_bind (wpAny_standAt (wpAny_bind (wpAny_runValue (codeAny_builtin entry_let_go (show wpAny _ _ (ret .none) _ _ s from wpAny_pure (wpAny_pure bn))))))
theorem tB(H:aP Z prog w ev n)(h:mW T ev sc m (.Expr e pos) V=some ((f,m'),V'))(I:Inv Z s G V)(F:aF Z env sc m G s.heap)(hA:aL (n+20) A):Run Z prog w A (bB env) G s (exec (.Expr e pos) env) V' (qV Z env sc m' f):=by
 refine ag h λhc h=>?_;refine aj h λv V1 h1 h2=>?_;obtain⟨e2,rfl⟩:=af h2;cases e2;have hi:interactive env=false:=by unfold interactive;rw[F.kind];rfl
 obtain⟨c,as,ks,p,rfl⟩:=z0 hc;rw[arm_exec_Expr,hi,show swapsWith (.Call c as ks p) none pos.line env=pure false from rfl];refine Run.stand (Run.nil ?_);intro Q E q;simp only[false_eq_true,if_false];refine wpAny_bind (wpAny_pure ?_);simp only[false_eq_true,if_false];refine wpAny_bind (H.e h1 I F hA _ E λy LK G₁ I₁ S1 LM=>?_);have bn:Q .next LK:=q .next LK G₁ I₁ S1 ⟨F.keepE S1,rfl⟩
 exact BS c as ks p _ y bn
theorem jS(elt iter:Expr)(x:Str)(px p2:Pos)(ifs:List Expr)(sc':Scope)(env:Env)(use:Value->Sem Unit):evalThenUse (.ListComp elt [⟨.Name x px,iter,ifs,0⟩] sc' p2) env use=(do let _<-comprehension (.ListComp elt [⟨.Name x px,iter,ifs,0⟩] sc' p2) sc' env iter.pos (PySem.newList []) false (eval iter env) (some use)):=rfl
theorem d8(R:bC Z prog w T)(H:aP Z prog w ev n){value:Expr}{u:Value->Sem Unit}(hb:swapsWithSole ts value pos.line env=pure b)(hf:b=false) (hs:swappedStores ts value env=pure none)(hv:Run Z prog w A [] G s (eval value env) V1 (bj v))(h2:fh T ev sc m ts v V1=some (m',V'))(F:aF Z env sc m G s.heap)(hA:aL (n+21) A):Run Z prog w A (bB env) G s (exec (.Assign ts value pos) env) V' (qV Z env sc m' .next):=by subst hf;rw[arm_exec_Assign,hb];refine Run.stand ?_;intro Q E q;refine wpAny_bind (wpAny_pure ?_);rw[if_neg Bool.false_ne_true];refine wpAny_bind (hv _ E λy LK G₁ I₁ S1 LM=>?_);rw[hs];refine wpAny_bind (wpAny_pure ?_);unfold assignStores;dsimp only;exact wpAny_bind (ie R H h2 I₁ (F.keepE S1) LM (hA.less (le_succ _)) _ E λ_ LL G₂ I₂ S2 F₂=>wpAny_pure (q .next LL G₂ I₂ (S1.nil.trans S2) ⟨F₂,rfl⟩))
theorem jG(R:bC Z prog w T)(H:aP Z prog w ev n){p2:Pos}{V0:aI} (hs:swappedStores ts (.ListComp elt [⟨.Name x px,iter,ifs,0⟩] sc' p2) env=pure none)(hm:(dw sc sc' x&&aY iter)=true)(hi:Run Z prog w A [] G s (eval iter env) V0 (bj Mb))(h:lB ev sc' m x elt ifs Mb V0=some (v,V1)) (h2:fh T ev sc m ts v V1=some (m',V'))(F:aF Z env sc m G s.heap)(hA:aL (n+21) A):Run Z prog w A (bB env) G s (exec (.Assign ts (.ListComp elt [⟨.Name x px,iter,ifs,0⟩] sc' p2) pos) env) V' (qV Z env sc m' .next):=by
 obtain⟨b,hb,hbt⟩:=xV (ts:=ts) (e:=elt) (g:=[⟨.Name x px,iter,ifs,0⟩]) (s:=sc') (p:=p2) (line:=pos.line) (env:=env);cases b with
 |false=>exact d8 (u:=λ_=>pure ()) R H hb rfl hs (kE H hm hi h F (hA.less (le_succ _))) h2 F hA
 |true=>
   obtain⟨t,p,rfl⟩:=hbt rfl;rw[arm_exec_Assign,hb];refine Run.stand ?_;intro Q E q;refine wpAny_bind (wpAny_pure ?_);rw[if_pos rfl];rw[jS];refine wpAny_bind (wpAny_bind ?_);refine lj H hm hi h F (hA.less (le_succ _)) λD C LK G₁ e=>?_;refine ie R H h2 e.inv (F.keepE e.stp) e.rep (hA.less (le_succ _)) _ E λ_ LL G₂ I₂ S2 F₂=>?_;obtain⟨o,ml,e1,e2,e3⟩:=e.ns;have hCfp:C∉bB env:=λhC=>by obtain⟨o,e'⟩:=F.fpLive hC;rw[e.new]at e';cases e'
   obtain⟨e4,ow⟩:=S2.keep _ _ e1 e.own hCfp (.inl e2);obtain⟨o',es,ep,f1,f2⟩:=e3;obtain rfl:o=o':=Option.some.inj (e1.symm.trans f1);refine⟨ml,⟨o,es,ep,e4,f2⟩,λh' hs=>?_⟩;have S:aK (C::bB env) G s G₂ {LL with heap:=h'}:=(e.stp.nil.trans (S2.weak λ_ h=>mem_cons_of_mem _ h)).trans (aK.aside (s':={LL with heap:=h'}) hs.extBut rfl rfl (mem_cons_self ..));have F₃:aF Z env sc m' G₂ h':=F₂.keep (s':={LL with heap:=h'}) (fp:=[C]) (aK.aside (s':={LL with heap:=h'}) hs.extBut rfl rfl (mem_singleton.mpr rfl)) λa ha hc=>hCfp (by rw[<-mem_singleton.mp hc];exact ha);exact wpAny_pure (wpAny_pure (q .next _ G₂ (I₂.aside (s':={LL with heap:=h'}) ow e.above hs.extBut rfl I₂.tok) (S.cut λa ha=>(mem_cons.mp ha).elim (λh=>.inr (by rw[h];exact e.new)) .inl) ⟨F₃,rfl⟩))
theorem jJ(R:bC Z prog w T)(H:aP Z prog w ev n){value:Expr}(hs:swappedStores ts value env=pure none) (h:zh T ev sc m ts value V=some ((f,m'),V'))(I:Inv Z s G V)(F:aF Z env sc m G s.heap)(hA:aL (n+21) A):Run Z prog w A (bB env) G s (exec (.Assign ts value pos) env) V' (qV Z env sc m' f):=by
 refine aj h λv V1 h1 h=>?_;refine aj h λm₁ V2 h2 h=>?_;obtain⟨e2,rfl⟩:=af h;cases(e2);unfold mr at h1;cases hc:vj value with
 |none=>rw[hc]at h1;refine ag h1 λhn h1=>?_;exact d8 (u:=λ_=>pure ()) R H (sN (not_true hn)) rfl hs (H.e h1 I F (hA.less (le_succ _))) h2 F hA
 |some c=>
  rw[hc]at h1;have hC:kB ev sc m c.1 c.2.1 c.2.2 V=some (v,V1):=h1;obtain⟨p2,rfl⟩:=uC hc;unfold kB at hC;cases h3:cK c.2.1 with
  |none=>rw[h3]at hC;cases hC
  |some d=>obtain⟨x,iter,ifs⟩:=d;obtain⟨px,hg⟩:=ii h3;rw[h3]at hC;rw[hg]at hs⊢;exact ag hC λhm h=>aj h λ_ _ h1 h=>jG R H hs hm (H.e h1 I F (hA.less (le_succ _))) h h2 F hA
theorem o2(F:aF Z env sc m G s.heap):env.blockKind=.function:=by unfold Env.blockKind;rw[F.kind];rfl
theorem pB{vs:List Expr}(h:pJ sc ts vs=true)(F:aF Z env sc m G s.heap):∃x y,swappedStores [.Tuple ts k p] (.Tuple vs k' p') env=pure (some [x,y])/\∃px py,ts=[.Name x px,.Name y py]:=by
 have a1:=and_eq_true_iff.mp h;have a2:=and_eq_true_iff.mp a1.1;have a3:=and_eq_true_iff.mp a2.1;have a4:=and_eq_true_iff.mp a3.1;have h2:=of_decide_eq_true (and_eq_true_iff.mp a4.1).2;have h3:=a4.2;have h5:=not_eq_true' _▸a2.2;have h6:=not_eq_true' _▸a1.2;obtain⟨t,ht,b1⟩:=(any_eq_true _ _).mp a3.2;have b2:=and_eq_true_iff.mp b1;obtain⟨x,hx,b3⟩:=(any_eq_true _ _).mp b2.2;obtain⟨y,hy,b4⟩:=(any_eq_true _ _).mp b3;have b5:=and_eq_true_iff.mp b4;have b6:=and_eq_true_iff.mp b5.1;have hline:=of_decide_eq_true b2.1;have hxy:=of_decide_eq_true b6.1;have lx:=of_decide_eq_true b6.2;have ly:=of_decide_eq_true b5.2;clear a1 a2 a3 a4 b1 b2 b3 b4 b5 b6;obtain⟨px,ex⟩:=cU hx;obtain⟨py,ey⟩:=cU hy;rw[ex,ey]at hline;have e:=tM ht;rw[ex,ey]at e;subst e;have kx:env.kindOf x=some .local:=by
  rcases F.kinds x with k|⟨k,_⟩
  ·exact k.trans lx
  ·rw[lx]at k;cases k
 have ky:env.kindOf y=some .local:=by
  rcases F.kinds y with k|⟨k,_⟩
  ·exact k.trans ly
  ·rw[ly]at k;cases k
 have hv:vs.length=2:=h2;refine⟨x,y,?_,px,py,rfl⟩;unfold swappedStores;dsimp only;refine(if_neg (by rw[hv,o2 F];exact Bool.false_ne_true)).trans ((if_neg (λhh=>?_)).trans ?_)
 ·obtain⟨z,hz,h⟩:=List.any_eq_true.mp hh;have hp:=all_eq_true.mp h3 z hz;refine absurd (h.symm.trans (?_:_=!aE z)) (by rw[hp];exact λh=>nomatch h);clear hp h hz;cases z<;>first|exact Eq.refl false|exact Eq.refl true
 have hd:[x,y].eraseDups=[x,y]:=by rw[List.eraseDups_cons,filter_cons_of_pos (by rw[beq_eq_false_iff_ne.mpr (Ne.symm hxy)];rfl)];rfl
 rw[List.filterMap_cons_some (b:=x),List.filterMap_cons_some (b:=y),List.filterMap_nil,hd]
 ·exact(if_neg Bool.false_ne_true).trans ((if_neg (λe=>Bool.false_ne_true (h5.symm.trans e))).trans (if_neg (λe=>Bool.false_ne_true (h6.symm.trans e))))
 ·refine if_pos ?_;rw[ky];exact beq_iff_eq.mpr hline.symm
 ·refine if_pos ?_;rw[kx];exact beq_iff_eq.mpr rfl
end
section
variable {f:a9}
theorem bo.reverse{α β:Type}{R:α->β->Prop}{as:List α}{bs:List β}(h:bo R as bs):bo R as.reverse bs.reverse:=by
 induction h with
 |nil=>exact .nil
 |cons x _ ih=>rw[reverse_cons,reverse_cons];exact ih.append (.one x)
theorem kO{ns:List (Str×Pos)}{vs:List PV}(h:cP sc m (ns.map λp=>Expr.Name p.1 p.2) vs=some m')(I:Inv Z s G V)(F:aF Z env sc m G s.heap)(r:aC G.ad ys vs):Run Z prog w A (bB env) G s (assignInOrder (ns.map λp=>bindName env p.1) ys) V (Hi Z env sc m'):=by
 induction ns generalizing vs ys m s G with
 |nil=>
  cases vs with
  |nil=>cases r;cases h;exact Run.pure I F
  |cons _ _=>cases h
 |cons t ts ih=>
  cases vs with
  |nil=>cases h
  |cons v vs=>
   obtain⟨m₁,h1,h2⟩:=bind_eq_some_iff.mp (show(aV sc m t.1 v).bind (λm'=>cP sc m' (ts.map λp=>Expr.Name p.1 p.2) vs)=_ from h);cases r with
   |cons ra rb=>intro Q E q;refine wpAny_assignInOrder_more ?_;refine dI h1 I F ra _ E λ_ LK G₁ I₁ S1 F₁=>?_;exact ih h2 I₁ F₁ (bf S1.ad rb) Q E λ_ LL G₂ I₂ S2 F₂=>q _ _ _ I₂ (S1.trans S2) F₂
theorem sD(H:aP Z prog w ev n){vs:List Expr}(h:Ff ev sc m ts vs (.Tuple vs k' p') V=some ((f,m'),V'))(I:Inv Z s G V)(F:aF Z env sc m G s.heap)(hA:aL (n+20) A):Run Z prog w A (bB env) G s (exec (.Assign [.Tuple ts k p] (.Tuple vs k' p') pos) env) V' (qV Z env sc m' f):=by refine ag h λhs h=>?_;refine aj h λv V1 h1 h=>?_;refine aj h λus V2 h2 h=>?_;refine ah h λm₁ h3 h=>?_;obtain⟨e2,rfl⟩:=af h;cases e2;obtain⟨x,y,hw,px,py,rfl⟩:=pB (k:=k) (k':=k') (p:=p) (p':=p') hs F;rw[arm_exec_Assign];refine Run.stand ?_;intro Q E q;refine wpAny_bind ?_;refine(?_:wpAny _ A (pure false) _ E s);refine wpAny_pure ?_;simp only[false_eq_true,if_false];refine wpAny_bind (H.e h1 I F hA _ E λz LK G₁ I₁ S1 LM=>?_);rw[hw];refine wpAny_bind (wpAny_pure ?_);unfold assignStores;dsimp only;refine wpAny_bind (wpAny_rule ?_);refine wpAny_bind (eE (fp:=[]) h2 I₁ LM hA.1 _ E λys LL G₂ I₂ S2 LW=>?_);have F₂:=(F.keepE S1).keepE S2;refine wpAny_bind (kO (ns:=[(y,py),(x,px)]) h3 I₂ F₂ LW.reverse _ E λ_ s₃ G₃ I₃ S3 F₃=>wpAny_pure ?_);exact q .next s₃ G₃ I₃ ((S1.trans S2).nil.trans S3) ⟨F₃,rfl⟩
theorem l7{i:Expr}{o k:Value}(h:(!dj i)=true):augStore i o k z=(do holding [z,o,k] (setItem o k z);release [z,o,k] [];pure Flow.next):=by cases i<;>first|rfl|cases h
theorem mZ(R:bC Z prog w T)(H:aP Z prog w ev n){o i:Expr}{value:Expr}(h:BJ T ev sc m o i op value V=some ((f,m'),V'))(I:Inv Z s G V)(F:aF Z env sc m G s.heap)(hA:aL (n+20) A):Run Z prog w A (bB env) G s (exec (.AugAssign (.Subscript o i p) op value pos) env) V' (qV Z env sc m' f):=by obtain⟨hs,h⟩:=jh h;obtain⟨ov,V1,h1,h⟩:=bt h;obtain⟨iv,V2,h2,h⟩:=bt h;obtain⟨old,V3,h3,h⟩:=bt h;obtain⟨v,V4,h4,h⟩:=bt h;obtain⟨r,V5,h5,h⟩:=bt h;obtain⟨_,V6,h6,h⟩:=bt h;obtain⟨e2,rfl⟩:=af h;cases e2;intro Q E q;rw[arm_exec_AugAssign_3];refine wpAny_bind (wpAny_standAt (wpAny_bind (H.e h1 I F hA _ E λa LK G₁ I₁ S1 LM=>?_)));have F₁:=F.keepE S1;refine wpAny_bind (wpAny_holding (H.e h2 I₁ F₁ hA _ E λb LL G₂ I₂ S2 LW=>?_));have F₂:=F₁.keepE S2;refine wpAny_bind (wpAny_holding (wpAny_bind (wpAny_standAt (wpAny_bind ((ip R h3 I₂ (LM.mono S2.ad) LW (hA.less (by lia))).1 _ E λc s₃ G₃ I₃ S3 L6=>?_)))));have F₃:=F₂.keepE S3;refine wpAny_bind (wpAny_holding (H.e h4 I₃ F₃ hA _ E λd LX G₄ I₄ S4 L7=>?_));refine wpAny_bind (wpAny_standAt (wpAny_operating (nO (fp:=[]) h5 I₄ (L6.mono S4.ad) L7 _ E λz s₅ G₅ LV LY r₅=>?_)));refine wpAny_bind (wpAny_standAt ?_);rw[l7 hs];have up:=((S3.trans S4).trans LY).ad;refine wpAny_bind (wpAny_holding (ig h6 LV ((LM.mono S2.ad).mono up) (LW.mono up) r₅ _ E λ_ s₆ G₆ I₆ S6 _=>?_));refine wpAny_bind (wpAny_release (wpAny_pure ?_));exact q .next s₆ G₆ I₆ (S1.trans (S2.trans (S3.trans (S4.trans (LY.trans S6))))).nil ⟨(((F₃.keepE S4).keepE LY).keepE S6),rfl⟩
theorem my(R:bC Z prog w T)(H:aP Z prog w ev n){value:Expr}(h:BK T ev sc m t op value V=some ((f,m'),V'))(I:Inv Z s G V)(F:aF Z env sc m G s.heap)(hA:aL (n+20) A):Run Z prog w A (bB env) G s (exec (.AugAssign t op value pos) env) V' (qV Z env sc m' f):=by
 unfold BK at h;cases hs:(view t).sub? with
 |some c=>rw[hs]at h;obtain⟨p,rfl⟩:=tX hs;exact mZ R H h I F hA
 |none=>
 rw[hs]at h;refine ah h λx hx h'=>?_;obtain⟨p,rfl⟩:=cU hx;refine aj h' λold V1 h1 h=>?_;refine aj h λv V2 h2 h=>?_;refine aj h λr V3 h3 h=>?_;refine ah h λm₁ h4 h=>?_;obtain⟨e2,rfl⟩:=af h;cases e2;intro Q E q;rw[arm_exec_AugAssign];refine wpAny_bind (wpAny_standAt (wpAny_bind ((fQ (fp:=[]) R.toNames h1 I F).1 _ E λa LK G₁ I₁ S1 LM=>wpAny_bind (wpAny_holding (H.e h2 I₁ (F.keepE S1) hA _ E λb LL G₂ I₂ S2 LW=>?_)))));refine wpAny_bind (wpAny_standAt (wpAny_bind (wpAny_operating (nO (fp:=[]) h3 I₂ (LM.mono S2.ad) LW _ E λc s₃ G₃ I₃ S3 L6=>?_))));refine wpAny_bind (wpAny_standAt (wpAny_bind (dI h4 I₃ (((F.keepE S1).keepE S2).keepE S3) L6 _ E λ_ LX G₄ I₄ S4 F₄=>wpAny_pure ?_)));exact q .next LX G₄ I₄ ((S1.trans (S2.trans S3)).nil.trans S4) ⟨F₄,rfl⟩
end
section
variable {f:a9}
theorem mX(H:aP Z prog w ev n){b o:List Stmt}(h:mW T ev sc m (.If t b o pos) V=some ((f,m'),V'))(I:Inv Z s G V)(F:aF Z env sc m G s.heap)(hA:aL (n+20) A):Run Z prog w A (bB env) G s (exec (.If t b o pos) env) V' (qV Z env sc m' f):=by
 refine aj h λc V1 h1 h=>?_;rw[arm_exec_If];refine Run.stand ?_;intro Q E q;refine wpAny_bind (H.b h1 I F hA _ E λy LK G₁ I₁ S1 e=>?_);subst e;cases y
 ·exact H.ss h I₁ (F.keepE S1) hA Q E λfl LL G₂ I₂ S2 p=>q fl LL G₂ I₂ (S1.nil.trans S2) p
 ·exact H.ss h I₁ (F.keepE S1) hA Q E λfl LL G₂ I₂ S2 p=>q fl LL G₂ I₂ (S1.nil.trans S2) p
section turn
variable (prog:Program) (w:World) (A:Around) (env:Env) (R:PySem.Result->Shared->Prop) (I:Nat->Shared->Prop) (n:Nat) (b o:List Stmt)
noncomputable def K0(f:Flow)(s:Shared):Prop:=match f with
 | .next| .cont=>∃m,m<n/\I m s
 | .brk=>R (.ok .next) s
 | .ret v=>R (.ok (.ret v)) s
def KG(s:Shared):Prop:=wpAny (model prog w) A (execs b env) (K0 R I n) (zl prog w A env R) s
def La(s:Shared):Prop:=wpAny (model prog w) A (execs o env) (λf=>R (.ok f)) (zl prog w A env R) s
def Li(c:Bool)(s:Shared):Prop:=if c=true then KG prog w A env R I n b s else La prog w A env R o s
def K1(t:Expr)(v:Value)(s:Shared):Prop:=wpAny (model prog w) A (assign t env v) (λ_=>KG prog w A env R I n b) (zl prog w A env R) s
def LB(t:Expr)(it v:Value)(s:Shared):Prop:=wpAny (model prog w) A (letOwnedTupleGo t it v) (λ_=>K1 prog w A env R I n b t v) (zl prog w A env R) s
noncomputable def Ly(t:Expr)(it:Value)(r:Option Value)(s:Shared):Prop:=match r with
 |none=>La prog w A env R o s
 |some v=>LB prog w A env R I n b t it v s
end turn
theorem qh{K:Loc->Mo (a9×Loc)}{f':a9}{m₁:Loc}{fl:Flow}{J:Nat->Shared->Prop}(h:tJ K (f',m₁) V1=some ((f,m'),V'))(p:BO G.ad fl f')(next:K m₁ V1=some ((f,m'),V')->Jr J k s)(bn:m₁=m'->V1=V'->∀fl,BO G.ad fl f->R (.ok fl) s):K0 R J k fl s:=by
 cases f' with
 |next=>subst p;exact next h
 |cont=>subst p;exact next h
 |brk=>subst p;obtain⟨e2,rfl⟩:=af h;cases e2;exact bn rfl rfl .next rfl
 |ret v=>obtain⟨y,rfl,ry⟩:=p;obtain⟨e2,rfl⟩:=af h;cases e2;exact bn rfl rfl (.ret y) ⟨y,rfl,ry⟩
theorem qX{b o:List Stmt}(I:Nat->Shared->Prop)(turn:∀n s,I n s->wpAny (model prog w) A (isTrue t env (eval t env)) (Li prog w A env R I n b o) (zl prog w A env R) s)(n:Nat)(h:I n s):codeAny (model prog w) A (.whileLoop t b o env) R s:=codeAny_whileLoop I turn n h
inductive Lc(Z:dK)(ev:Ev)(sc:Scope)(env:Env)(t:Expr)(b o:List Stmt)(G:Gh)(s:Shared)(r:(a9×Loc)×aI)(k:Nat)(LK:Shared):Prop where
 |mk (G₁:Gh) (V1:aI) (m₁:Loc) (h:j6 ev sc t b o k m₁ V1=some r) (I:Inv Z LK G₁ V1) (F:aF Z env sc m₁ G₁ LK.heap) (S:aK (bB env) G s G₁ LK):Lc Z ev sc env t b o G s r k LK
theorem rh(H:aP Z prog w ev n){b o:List Stmt}(h:j6 ev sc t b o k m V=some ((f,m'),V'))(I:Inv Z s G V)(F:aF Z env sc m G s.heap)(hA:aL (n+20) A) (bn:∀fl LK G₁,Inv Z LK G₁ V'->aK (bB env) G s G₁ LK->qV Z env sc m' f G₁ LK fl->R (.ok fl) LK):codeAny (model prog w) A (.whileLoop t b o env) R s:=by
 refine qX (Lc Z ev sc env t b o G s ((f,m'),V')) ?_ k ⟨G,V,m,h,I,F,aK.refl _ _ _⟩;rintro k LK ⟨G₁,V1,m₁,h,I₁,F₁,S1⟩;cases k with
 |zero=>cases h
 |succ k=>
  refine aj h λc V2 h1 h=>?_;refine H.b h1 I₁ F₁ hA _ _ λy LL G₂ I₂ S2 e=>?_;subst e;have F₂:=F₁.keepE S2;have S2':=S1.trans S2.nil;cases y with
  |false=>exact H.ss h I₂ F₂ hA _ _ λfl s₃ G₃ I₃ S3 p=>bn fl s₃ G₃ I₃ (S2'.trans S3) p
  |true=>refine aj h λr V3 h2 h=>?_;refine H.ss h2 I₂ F₂ hA _ _ λfl s₃ G₃ I₃ S3 p=>?_;exact qh h p.2 (λh=>⟨k,lt_succ_self k,_,_,_,h,I₃,p.1,S2'.trans S3⟩) λem eσ fl q=>bn fl s₃ G₃ (eσ▸I₃) (S2'.trans S3) ⟨em▸p.1,q⟩
theorem oR{target:Expr}{it:Value}{body orelse:List Stmt}(I:Nat->Shared->Prop) (turn:∀n s,I n s->wpAny (model prog w) A (pyNext it) (Ly prog w A env R I n body orelse target it) (zl prog w A env R) s) (n:Nat)(h:I n s):codeAny (model prog w) A (.forLoop target it body orelse env) R s:=by
 refine codeAny_loop' rfl I (λn s hI=>?_) n h;refine(?_:wpAny _ _ ((forTurn target it body orelse env).onRaise (λx=>do noteFrame x env;theTreesLotGoes x)) _ _ s);refine wpAny_noted ?_;simp-iota only[forTurn];refine wpAny_bind (wpAny_standAt (wpAny_bind (wpAny_onRaise (wpAny_mono (turn n s hI) (λr LK LZ=>?_) λ_ _ h'=>wpAny_standAt h'))));cases r with
 |none=>exact wpAny_pure (.inr ⟨rfl,codeAny_block LZ⟩)
 |some v=>
  refine wpAny_bind (wpAny_mono LZ (λ_ LK (LZ:K1 ..)=>?_) λ_ _ h'=>h');refine wpAny_bind (wpAny_mono LZ (λ_ LL (Ms:KG ..)=>wpAny_bind (wpAny_mono Ms (λf s₃ L4=>?_) λ_ _ h'=>h')) λ_ _ h'=>h');cases f with
  |next=>exact wpAny_pure (.inl ⟨rfl,L4⟩)
  |cont=>exact wpAny_pure (.inl ⟨rfl,L4⟩)
  |brk=>exact wpAny_pure L4
  |ret v=>exact wpAny_pure L4
theorem qA{Q:Unit->Shared->Prop}(r:nC s.heap G J it)(q:Q () s):wpAny M A (letOwnedTupleGo t (.ref J) y) Q E s:=by
 have key:∀(o:Obj) (ty:String),s.heap.get? J=some o->o.cls=.type ty->(["enumerate","zip","dict_itemiterator","dict_reverseitemiterator","odict_iterator","itertools.zip_longest","itertools.pairwise"].contains ty)=false->wpAny M A (letOwnedTupleGo t (.ref J) y) Q E s:=by
  intro o ty e hc hn;have two:wpAny M A (letOwnedTupleGo (.List [] ⟨0,0,0,0⟩) (.ref J) y) Q E s:=by
   cases y<;>first|exact wpAny_pure q|skip
   refine wpAny_bind (wpAny_load e ?_);rw[hc];cases o.data<;>first|exact wpAny_pure q|skip
   dsimp only;rw[hn];exact wpAny_pure q
  cases t<;>first|exact wpAny_pure q|exact two
 cases it with
 |live r k=>obtain⟨l,_,o,e,hc,_⟩:=r;exact key o _ e hc (by decide)
 |vals l=>
  rcases r with⟨x,left,step,e,_⟩|⟨x,t,i,ty,ht,⟨o,e,hc,_⟩,_⟩
  ·exact key _ _ e rfl (by decide)
  ·rcases ht with rfl|rfl
   ·exact key o _ e hc (by decide)
   ·exact key o _ e hc (by decide)
inductive IB(Z:dK)(T:kp)(ev:Ev)(sc:Scope)(env:Env)(t:Expr)(b o:List Stmt)(J:Addr)(G:Gh)(s:Shared)(r:(a9×Loc)×aI)(k:Nat)(LK:Shared):Prop where
 |mk (G₁:Gh) (V1:aI) (m₁:Loc) (it1:It) (h:jM T ev sc t b o k it1 m₁ V1=some r) (I:Inv Z LK G₁ V1) (F:aF Z env sc m₁ G₁ LK.heap) (A:lK Z LK.heap G₁ J it1) (S:aK (J::bB env) G s G₁ LK):IB Z T ev sc env t b o J G s r k LK
theorem nf(R:bC Z prog w T)(H:aP Z prog w ev n){b o:List Stmt}{RR:PySem.Result->Shared->Prop}(h:jM T ev sc t b o k it m V=some ((f,m'),V'))(I:Inv Z s G V)(F:aF Z env sc m G s.heap) (TT:lK Z s.heap G J it)(hJ:J∉bB env)(hA:aL (n+20) A)(bn:∀fl LK G₁,Inv Z LK G₁ V'->aK (J::bB env) G s G₁ LK->qV Z env sc m' f G₁ LK fl->RR (.ok fl) LK):codeAny (model prog w) A (.forLoop t (.ref J) b o env) RR s:=by
 refine oR (IB Z T ev sc env t b o J G s ((f,m'),V')) ?_ k ⟨G,V,m,it,h,I,F,TT,aK.refl _ _ _⟩;have hJ1:∀b∈bB env,b∉[J]:=λb hb hb'=>hJ (by have:=mem_singleton.mp hb';exact this▸hb);have sub:∀b∈bB env,b∈J::bB env:=λb hb=>mem_cons_of_mem _ hb;rintro k LK ⟨G₁,V1,m₁,it1,h,I₁,F₁,T1,S1⟩;cases k with
 |zero=>cases h
 |succ k=>
  refine aj h λr V2 h1 h=>?_;refine kv (fp:=[J]) h1 I₁ T1 (mem_singleton.mpr rfl) hA.1 _ _ λy LL G₂ I₂ S2 p=>?_;have F₂:=F₁.keep S2 hJ1;have S2':aK (J::bB env) G s G₂ LL:=S1.trans (S2.weak λb hb=>by rw[mem_singleton.mp hb];exact mem_cons_self ..);cases r with
  |none=>subst p;exact H.ss h I₂ F₂ hA _ _ λfl s₃ G₃ I₃ S3 p=>bn fl s₃ G₃ I₃ (S2'.trans (S3.weak sub)) p
  |some vi=>obtain⟨u,it2⟩:=vi;obtain⟨y,rfl,ry,L8⟩:=p;refine aj h λm₂ V3 h2 h=>?_;refine aj h λr V4 h3 h=>?_;refine qA L8.rep ?_;refine jy R H h2 I₂ F₂ ry hA _ _ λ_ s₃ G₃ I₃ S3 F₃=>?_;refine H.ss h3 I₃ F₃ hA _ _ λfl LX G₄ I₄ S4 p=>?_;have S4':=S2'.trans ((S3.trans S4).weak sub);exact qh h p.2 (λh=>⟨k,lt_succ_self k,_,_,_,_,h,I₄,p.1,(L8.keep S3 hJ).keep S4 hJ,S4'⟩) λem eσ fl q=>bn fl LX G₄ (eσ▸I₄) S4' ⟨em▸p.1,q⟩
theorem kd(H:aP Z prog w ev n){b o:List Stmt}(h:mW T ev sc m (.While t b o pos) V=some ((f,m'),V'))(I:Inv Z s G V)(F:aF Z env sc m G s.heap)(hA:aL (n+20) A):Run Z prog w A (bB env) G s (exec (.While t b o pos) env) V' (qV Z env sc m' f):=
 λQ E q=>wpAny_While (rh H h I F hA λfl LK G₁ I₁ S1 p=>q fl LK G₁ I₁ S1 p)
theorem mw(R:bC Z prog w T)(H:aP Z prog w ev n){b o:List Stmt}(h:mW T ev sc m (.For t iter b o pos) V=some ((f,m'),V'))(I:Inv Z s G V)(F:aF Z env sc m G s.heap)(hA:aL (n+20) A):Run Z prog w A (bB env) G s (exec (.For t iter b o pos) env) V' (qV Z env sc m' f):=by
 refine ag h λhp h=>?_;refine aj h λv V1 h1 h=>?_;refine aj h λit V2 h2 h=>?_;intro Q E q;refine wpAny_For ((H.e h1 I F hA).later _ E λx LK G₁ I₁ S1 LM=>?_) (gb hp);obtain⟨Mg,LM⟩:=LM;have F₁:=F.keepE S1;refine ku (fp:=[]) h2 I₁ LM _ E λz LL G₂ I₂ S2 LW=>?_;obtain⟨J,rfl,L8,newJ⟩:=LW;have hJ:J∉bB env:=λhj=>by obtain⟨o,e⟩:=F₁.fpLive hj;exact absurd (lt_size e) (not_lt.mpr newJ)
 refine nf R H h I₂ (F₁.keepE S2) L8 hJ hA λfl s₃ G₃ I₃ S3 p=>q fl s₃ G₃ I₃ ?_ p;exact((S1.trans S2).nil.trans S3).cut λa ha=>(mem_cons.mp ha).elim (λh=>.inr (by rw[h];exact bb (Nat.le_trans Mg.2 newJ))) .inl
theorem rA{vs:List Expr}{value:Expr}(h:pz ts value=some (us,vs)):∃k p k' p',ts=[.Tuple us k p]/\value=.Tuple vs k' p':=by obtain⟨t,h1,h⟩:=bind_eq_some_iff.mp h;obtain⟨us',h2,h⟩:=bind_eq_some_iff.mp h;obtain⟨vs',h3,h⟩:=map_eq_some_iff.mp h;cases h;obtain⟨k,p,e1⟩:=lz h2;obtain⟨k',p',e2⟩:=lz h3;exact⟨k,p,k',p',by rw[gG h1,e1],e2⟩
theorem na(R:bC Z prog w T)(H:aP Z prog w ev n){value:Expr}(h:jD T ev sc m ts value V=some ((f,m'),V'))(I:Inv Z s G V)(F:aF Z env sc m G s.heap)(hA:aL (n+21) A):Run Z prog w A (bB env) G s (exec (.Assign ts value pos) env) V' (qV Z env sc m' f):=by
 unfold jD at h;cases hs:pz ts value with
 |some uv=>rw[hs]at h;obtain⟨k,p,k',p',rfl,rfl⟩:=rA (us:=uv.1) (vs:=uv.2) hs;exact sD H h I F (hA.less (le_succ _))
 |none=>
  rw[hs]at h;refine ag h λhl h=>?_;refine jJ R H (pN (λts' k p vs k' p' e1 e2=>?_) (λts' p e=>?_)) h I F hA
  ·rw[e1,e2]at hs;cases hs
  ·rw[e]at hl;cases hl
theorem sy(H:aP Z prog w ev n){o:Option Expr}(h:IZ ev sc m o V=some ((f,m'),V'))(I:Inv Z s G V)(F:aF Z env sc m G s.heap)(hA:aL (n+20) A):Run Z prog w A (bB env) G s (exec (.Return o pos) env) V' (qV Z env sc m' f):=by
 cases o with
 |none=>obtain⟨e,rfl⟩:=af h;cases e;exact λQ E q=>wpAny_Return_none (q _ s G I (aK.refl _ _ _) ⟨F,_,rfl,rfl⟩)
 |some e=>refine aj h λv V1 h1 h=>?_;obtain⟨e,rfl⟩:=af h;cases e;exact λQ E q=>wpAny_Return_some (H.e h1 I F hA _ E λy LK G₁ I₁ S1 LM=>q _ LK G₁ I₁ S1.nil ⟨F.keepE S1,y,rfl,LM⟩)
theorem xj(R:bC Z prog w T)(H:aP Z prog w ev n){st:Stmt}(h:mW T ev sc m st V=some ((f,m'),V'))(I:Inv Z s G V)(F:aF Z env sc m G s.heap)(hA:aL (n+21) A):Run Z prog w A (bB env) G s (exec st env) V' (qV Z env sc m' f):=by
 have hB:aL (n+20) A:=hA.less (le_succ _);cases st with
 |Expr e p=>exact tB H h I F hB
 |Break p=>obtain⟨e,rfl⟩:=af h;cases e;exact Run.stand (Run.pure I ⟨F,rfl⟩)
 |Continue p=>obtain⟨e,rfl⟩:=af h;cases e;exact Run.stand (Run.pure I ⟨F,rfl⟩)
 |Return o p=>exact sy H h I F hB
 |Assign ts value p=>exact na R H h I F hA
 |AugAssign t op value p=>exact my R H h I F hB
 |If t b o p=>exact mX H h I F hB
 |While t b o p=>exact kd H h I F hB
 |For t i b o p=>exact mw R H h I F hB
 |_=>first|exact(aQ h).elim|cases h
end
structure Cells(lo:Nat)(cs:List (Str×Addr))(h:Heap):Prop where
 at':∀x c,cs.lookup x=some c->lo<=c/\h.get? c=some {cls:=.type "cell",data:=.cell none}
 apart:∀x y c,cs.lookup x=some c->cs.lookup y=some c->x=y
theorem Cells.add{lo:Nat}{cs:List (Str×Addr)}(C:Cells lo cs h)(hl:lo<=h.objs.size)(x:Str):Cells lo ((x,h.objs.size)::cs) (h.push {cls:=.type "cell",data:=.cell none})where
 at' y c e:=by
  rw[lookup_cons]at e;cases q:y==x<;>rw[q]at e
  ·exact⟨(C.at' y c e).1,Heap.get?_push_of_some _ (C.at' y c e).2⟩
  ·cases e;exact⟨hl,Heap.get?_push_size _ rfl⟩
 apart y z c hy hz:=by
  rw[lookup_cons]at hy hz;cases q1:y==x<;>cases q2:z==x<;>rw[q1]at hy<;>rw[q2]at hz
  ·exact C.apart y z c hy hz
  ·cases hz;exact absurd (lt_size (C.at' y _ hy).2) (lt_irrefl _)
  ·cases hy;exact absurd (lt_size (C.at' z _ hz).2) (lt_irrefl _)
  ·exact(beq_iff_eq.mp q1).trans (beq_iff_eq.mp q2).symm
theorem xT(f:Str×NameKind->List (Str×Addr)->Sem (ForInStep (List (Str×Addr))))(hf:∀y cs,y.2=.cell->f y cs=(do let c<-alloc {cls:=.type "cell",data:=.cell none};pure (ForInStep.yield ((y.1,c)::cs)))):∀(l:List (Str×NameKind)) (cs:List (Str×Addr)) (s:Shared) (lo:Nat) (Q:List (Str×Addr)->Shared->Prop),(∀y∈l,y.2=.cell)->Cells lo cs s.heap->lo<=s.heap.objs.size->(∀cs' h',Cells lo cs' h'->(∀b o,s.heap.get? b=some o->h'.get? b=some o)->(∀x,(cs.lookup x).isSome=true∨(x,NameKind.cell)∈l->(cs'.lookup x).isSome=true)->Q cs' {s with heap:=h'})->wpAny M A (forIn l cs f) Q E s:=by
 intro l;induction l with
 |nil=>intro cs s lo Q _ C _ q;exact wpAny_pure (q cs s.heap C (λ_ _ e=>e) λx h=>h.elim id λh=>nomatch h)
 |cons y r ih=>
  intro cs s lo Q hl C hlo q;rw[forIn_cons,hf y cs (hl y (mem_cons_self ..))];refine wpAny_bind (wpAny_bind (wpAny_alloc (wpAny_pure ?_)));refine ih _ {s with heap:=s.heap.push _} lo Q (λz hz=>hl z (mem_cons_of_mem _ hz)) (C.add hlo y.1) (by show lo<=(s.heap.push _).objs.size;rw[size_push];exact le_succ_of_le hlo) λcs' h' C' hk hx=>?_;refine q cs' h' C' (λb o e=>hk b o (Heap.get?_push_of_some _ e)) λx hx'=>hx x ?_;rw[lookup_cons];cases qq:x==y.1 with
  |true=>exact .inl rfl
  |false=>
   rcases hx' with h|h
   ·exact .inl h
   ·rcases mem_cons.mp h with h|h
    ·rw[<-h]at qq;simp at qq
    ·exact .inr h
section
variable {f:a9}
theorem uj(R:bC Z prog w T)(H:aP Z prog w ev n){l:List Stmt}(h:Fz T ev sc m l V=some ((f,m'),V'))(I:Inv Z s G V)(F:aF Z env sc m G s.heap)(hA:aL (n+21) A):Run Z prog w A (bB env) G s (execs l env) V' (qV Z env sc m' f):=by
 induction l generalizing m V s G with
 |nil=>obtain⟨e,rfl⟩:=af h;cases e;exact λQ E q=>wpAny_execs_nil (q _ s G I (aK.refl _ _ _) ⟨F,rfl⟩)
 |cons st r ih=>
  refine aj h λp V1 h1 h=>?_;obtain⟨Mr,m₁⟩:=p;intro Q E q;refine wpAny_execs_cons (xj R H h1 I F hA _ E λfl LK G₁ I₁ S1 p=>?_);obtain⟨F₁,p⟩:=p;cases Mr with
  |next=>cases p;exact ih h I₁ F₁ Q E λfl LL G₂ I₂ S2 p=>q fl LL G₂ I₂ (S1.trans S2) p
  |brk=>cases p;obtain⟨e,rfl⟩:=af h;cases e;exact q _ LK G₁ I₁ S1 ⟨F₁,rfl⟩
  |cont=>cases p;obtain⟨e,rfl⟩:=af h;cases e;exact q _ LK G₁ I₁ S1 ⟨F₁,rfl⟩
  |ret v=>obtain⟨y,rfl,ry⟩:=p;obtain⟨e,rfl⟩:=af h;cases e;exact q _ LK G₁ I₁ S1 ⟨F₁,y,rfl,ry⟩
end
structure zC(h:Heap)(a:Addr)(f:Fn):Prop where
 obj:∃o fd,h.get? a=some o/\o.data=.func fd/\fd.scope=f.scope/\fd.body=.stmts f.body/\fd.closure=[]/\fd.globals=mainGlobals/\fd.builtins=builtinsNs/\h.CodeRec fd.code fd.qualname/\∀vals:List Value,vals.length=f.params.args.length->bindArgs fd ⟨vals,[]⟩=pure ((f.params.args.map (·.arg)).zip vals)
 lim:h.NoLimit
noncomputable def re(f:Fn):Bool:=decide (f.scope.kind=.function)&& !f.scope.isCoroutine&& !f.scope.isGenerator&&f.scope.names.all (λy=>decide (y.2≠.free))&&f.params.args.all λp=>match f.scope.names.lookup p.arg with|some .local|some .cell=>true|_=>false
theorem jl{Q:Unit->Shared->Prop}(h:wpAny M A (bindName env x y) Q E s):wpAny M A (storeName env x y) Q E s:=by
 intro Γ p hΓ;have:=h Γ p hΓ
 rwa [Sem.wp_bindName]at this
set_option tactic.hygienic true in
theorem rg{names:List Str}{vs:List PV}(f:Str×Value->PUnit->Sem (ForInStep PUnit))(hf:∀x v u,f (x,v) u=(do storeName env x v;pure (.yield ⟨⟩))):∀{m:Loc} {s:Shared} {G:Gh} {ys:List Value},nQ m names vs=some m'->(∀x∈names,sc.names.lookup x=some .local∨sc.names.lookup x=some .cell)->Inv Z s G V->aF Z env sc m G s.heap->aC G.ad ys vs->Run Z prog w A (bB env) G s (forIn (names.zip ys) PUnit.unit f) V (λG' s' _=>aF Z env sc m' G' s'.heap):=by
 induction names generalizing vs with
 |nil=>
  intro m s G ys h hk I F r;cases vs with
  |nil=>cases h;exact Run.pure I F
  |cons _ _=>cases h
 |cons x xs ih=>
  intro m s G ys h hk I F r;cases vs with
  |nil=>cases h
  |cons v vs=>
   cases r with
   |cons ra rb=>rename_i y ys;refine(?_:Run Z prog w A (bB env) G s (forIn ((x,y)::xs.zip ys) PUnit.unit f) V _);rw[forIn_cons,hf];intro Q E q;refine wpAny_bind (wpAny_bind (jl (se (hk x (mem_cons_self ..)) I F ra _ E λ_ LK G₁ I₁ S1 F₁=>wpAny_pure ?_)));exact ih h (λz hz=>hk z (mem_cons_of_mem _ hz)) I₁ F₁ (bf S1.ad rb) Q E λa LL G₂ I₂ S2 F₂=>q a LL G₂ I₂ (S1.trans S2) F₂
theorem xc{names:List Str}{vs:List PV}(h:nQ m names vs=some m'):names.length=vs.length:=by
 induction names generalizing m vs with
 |nil=>cases vs<;>first|rfl|cases h
 |cons x xs ih=>
  cases vs with
  |nil=>cases h
  |cons v vs=>rw[length_cons,length_cons,ih h]
theorem ki{f:Fn}{P:PySem.Result->Shared->Prop}(hok:re f=true)(hF:∀h,Z.P h->zC h a f)(hb:nQ (λ_=>none) (f.params.args.map (·.arg)) as=some m)(I:Inv Z s G V)(r:aC G.ad vs as)(hd:A.depth<recursionLimit) (h:∀env LK G₁,Inv Z LK G₁ V->aF Z env f.scope m G₁ LK.heap->aK (bB env) G s G₁ LK->(∀a∈bB env,s.heap.get? a=none)->wpAny (model prog w) (A.deeper env) (execs f.body env) (λfl s'=>P (.ok (.ret (match fl with| .ret v=>v|_=>.none))) s') (λe s'=>wpAny (model prog w) (A.deeper env) (leaving env e) (λ_ s''=>P (.error e) s'') (λe' s''=>P (.error e') s'') s') LK):codeAny (model prog w) A (.call (.ref a) ⟨vs,[]⟩) P s:=by
 have hf:=hF _ I.top;obtain⟨⟨o,fd,ho,hdata,hsc,hbody,hclo,hgl,hbl,hcd,hbind⟩,hlim⟩:=hf;unfold re at hok;simp only[and_eq_true,decide_eq_true_eq,not_eq_true']at hok;obtain⟨⟨⟨⟨hk,hco⟩,hge⟩,hfr⟩,hpar⟩:=hok;have hlen:vs.length=f.params.args.length:=by rw[r.length,<-xc hb,length_map]
 refine codeAny_call_function hd ho hdata (by rw[hsc];exact hco) (by rw[hsc];exact hge) hbody hcd ?_;rw[hbind vs hlen,hclo];refine wpAny_pure ?_;rw[hsc,hgl,hbl];simp only[newFunctionEnv,isSome_none,false_eq_true,if_false];refine wpAny_bind (wpAny_alloc ?_);rw[fx (λy cs hy=>by simp[hy])];have hsz:({s with heap:=s.heap.push {cls:=.type "frame",data:=.dict #[]}}:Shared).heap.objs.size=s.heap.objs.size+1:=size_push ..;refine wpAny_bind (xT _ (λy cs hy=>by simp[hy]) _ [] _ (s.heap.objs.size+1) _ (λy hy=>by simpa using(mem_filter.mp hy).2) ⟨λx c e=>(nomatch e),λx y c e=>(nomatch e)⟩ (le_of_eq hsz.symm) λcs h' C hkeep hall=>?_);have kk:∀b o,s.heap.get? b=some o->h'.get? b=some o:=λb o e=>hkeep b o (Heap.get?_push_of_some _ e);have hframe:h'.get? s.heap.objs.size=some {cls:=.type "frame",data:=.dict #[]}:=hkeep _ _ (Heap.get?_push_size _ rfl);have I₁:Inv Z {s with heap:=h'} G V:=I.kept (le_refl _) kk;have S1:∀fp,aK fp G s G {s with heap:=h'}:=λfp=>aK.kept kk
 let env:Env:={scope:=f.scope,locals:=s.heap.objs.size,globals:=mainGlobals,cells:=cs,qual:=fd.qualname++".<locals>.",func:=some a,code:=fd.code,frame:=some s.heap.objs.size,builtins:=builtinsNs}
 have F₁:aF Z env f.scope (λ_=>none) G h':={
  kind:=hk
  gl:=rfl
  bl:=rfl
  kinds:=λx=>.inl rfl
  above:=I.above
  own:=I.fresh _ (bb (le_refl _))
  loc:=⟨_,λ_=>none,hframe,(λh=>nomatch h),⟨_,#[],0,hframe,rfl,λ_ he=>by simp at he,λ_=>rfl⟩,λ_ _ _ hm=>by cases hm⟩
  cell:=λx hx=>by
   have hx':f.scope.names.lookup x=some .cell:=by
    rcases hx with hx|hx
    ·exact hx
    ·have:=all_eq_true.mp hfr _ (mem_of_lookup hx);simp at this
   have:=hall x (.inr (mem_filter.mpr ⟨mem_of_lookup hx',rfl⟩));obtain⟨c,e⟩:=isSome_iff_exists.mp this;obtain⟨h1,h2⟩:=C.at' x c e;have hlt:s.heap.objs.size<c:=h1;exact⟨c,_,none,e,ne_of_gt hlt,Nat.le_trans I.above (Nat.le_of_lt hlt),I.fresh _ (bb (Nat.le_of_lt hlt)),h2,(λh=>nomatch h),rfl,λ_ hm=>by cases hm⟩
  apart:=C.apart}
 have hpar':∀x∈f.params.args.map (·.arg),f.scope.names.lookup x=some .local∨f.scope.names.lookup x=some .cell:=λx hx=>by
  obtain⟨p,hp,rfl⟩:=mem_map.mp hx;have:=all_eq_true.mp hpar p hp;split at this
  ·exact .inl (by assumption)
  ·exact .inr (by assumption)
  ·cases this
 have fresh:∀b∈bB env,s.heap.get? b=none:=λb hb=>by
  rcases mI hb with rfl|⟨y,_,e⟩
  ·exact bb (le_refl _)
  ·exact bb (Nat.le_of_lt (C.at' y b e).1)
 refine wpAny_bind (rg (env:=env) _ (λ_ _ _=>rfl) hb hpar' I₁ F₁ r _ _ λ_ LL G₂ I₂ S2 F₂=>wpAny_pure ⟨(hF _ I₂.top).lim,codeAny_func ?_⟩);exact h env LL G₂ I₂ F₂ ((S1 _).trans S2) fresh
theorem pM(R:bC Z prog w T)(hT:∀a f,T.fn a=some f->T.prim a=none->re f=true/\∀h,Z.P h->zC h a f)(H:aP Z prog w ev n)(h:dX T ev a as V=some (v,V'))(I:Inv Z s G V)(r:aC G.ad vs as)(hA:aL (n+21) A):jm Z prog w A G s (.call (.ref a) ⟨vs,[]⟩) V' (bj v):=by
 unfold dX at h;cases hp:T.prim a with
 |some p=>rw[hp]at h;exact R.prim hp h I r (hA.less (by lia))
 |none=>
  rw[hp]at h;cases hf:T.fn a with
  |none=>rw[hf]at h;cases h
  |some f=>
   rw[hf]at h;refine ah h λm h1 h=>?_;refine aj h λp V1 h2 h=>?_;obtain⟨fl,m₁⟩:=p;obtain⟨hok,hF⟩:=hT a f hf hp;intro Q E q;refine ki hok hF h1 I r (by have:=hA.2.1;(exact lt_of_le_of_lt (le_add_right ..) (by assumption))) λenv LK G₁ I₁ F₁ S1 fr=>?_;refine H.ss h2 I₁ F₁ (hA.deeper env) _ _ λfl' LL G₂ I₂ S2 p=>?_;have S:=(S1.trans S2).cut (fp':=[]) λb hb=>.inr (fr b hb);obtain⟨_,p⟩:=p;cases fl with
   |next=>cases p;obtain⟨rfl,rfl⟩:=af h;exact q _ _ _ I₂ S rfl
   |ret u=>obtain⟨y,rfl,ry⟩:=p;obtain⟨rfl,rfl⟩:=af h;exact q _ _ _ I₂ S ry
   |_=>first|exact(aQ h).elim|cases h
theorem uA(R:bC Z prog w T)(hT:∀a f,T.fn a=some f->T.prim a=none->re f=true/\∀h,Z.P h->zC h a f)(H:aP Z prog w ev n):aP Z prog w (step T ev) (n+1)where
 e h I F hA:=wW R H h I F hA
 b h I F hA:=xN H h I F hA
 ss h I F hA:=uj R H h I F hA
 call h I r hA:=pM R hT H h I r hA
theorem r7:aP Z prog w ER n where
 e h:=by cases h
 b h:=by cases h
 ss h:=by cases h
 call h:=by cases h
theorem nZ(R:bC Z prog w T)(hT:∀a f,T.fn a=some f->T.prim a=none->re f=true/\∀h,Z.P h->zC h a f):∀n,aP Z prog w (al T n) n
 |0=>r7
 |n+1=>uA R hT (nZ R hT n)
end R1
section R2
open PySem PySem.W PyProof.Rows PySem.Builtin
variable {K:Frag}{W:bU}{g i j k n n' n₀ r t:Nat}{Z:dK}{s s' s₅ u:Shared}{G G':Gh}{V V':aI}{C I L P a b cd d dx f fL fS f₂ lst sl:Addr}{fs:List (Str×PV)}{o:PO}{code ct dV l ov pm y:Value}{p prog:Program}{w:World}{A A':Around}{E E' Q:Value->Shared->Prop}{x x1 x2 z:Str}{od ox:Obj}{acc expr:Bool}{h h':Heap}{M:Model}{ad fp wr:List Addr}{R:PySem.Result->Shared->Prop}{as xs xs' ys:List PV}{rest vals vs vs' ws:List Value}{cenv env:Env}{m m₂:Str->Option Value}{fd:FuncData}{v:PV}{St:Nat->Shared->Prop}{sc scope:Scope}{c:x7}{p1 p2 p3 p4 p5 p6 p7 pos:Pos}{body:List Stmt}{binds:List (Str×Value)}
theorem d9{α β:Type}[BEq α][LawfulBEq α]{l:List (α×β)}{a:α}{b:β}(h:l.lookup a=some b):(a,b)∈l:=by obtain⟨l₁,l₂,e,_⟩:=List.lookup_eq_some_iff.mp h;rw[e];exact mem_append_right _ (.head _)
noncomputable def m1{α:Type}(P:α->Prop):List α->Prop
 |[]=>True
 |a::r=>P a/\m1 P r
theorem m1.mem{α:Type}{P:α->Prop}{l:List α}{a:α}(h:m1 P l)(m:a∈l):P a:=by
 induction m with
 |head _=>exact h.1
 |tail _ _ ih=>exact ih h.2
theorem dU{α:Type}{l:List α}{f:α->Bool}{a:α}(h:l.all f=true)(m:a∈l):f a=true:=all_eq_true.mp h a m
def iD(h:Heap):Prop:=∃o mb,h.get? builtinsNs=some o/\o.cls≠.none/\h.Ns builtinsNs mb/\∀x:Str,x≠"__name__"->mb x=bootBuiltins x
noncomputable def Gw(y:Value)(v:PV):Bool:=match y with
 | .int j _=>decide (cL v=some j)
 | .str t _=>decide (gf v=some t)&&strOk t
 | .ref b=>decide (y1 v=some b)
 |_=>false
theorem qK(h:Gw y v=true)(ad:List Addr):az ad y v:=by
 cases y<;>first|(cases h;done)|skip
 case int=>cases ms (of_decide_eq_true h);exact⟨_,rfl⟩
 case str=>obtain⟨h1,h2⟩:=and_eq_true_iff.mp h;cases dS (of_decide_eq_true h1);exact⟨⟨_,rfl⟩,h2⟩
 case ref=>cases r5 (of_decide_eq_true h);rfl
noncomputable def io(K:Frag)(x:Str)(v:PV):Bool:=match nsIn K mainGlobals x with
 |some (some y)=>Gw y v
 |_=>false
noncomputable def iT:List Str:=["len","min","max","sum","range","list","tuple","str"]
noncomputable def qo(acc:Bool):List Value:=if acc then [.type "list",.type "object"]else [.type "object"]
noncomputable def A3(K:Frag)(acc:Bool)(C:Addr):Bool:=
 findIn K (.ref C) "__getattr__"==some none&&((clsIn K C).any λcd=>cd.hasDict&&cd.mro== .ref C::qo acc)&&ot.all (λx=>findIn K (.ref C) x==some none)&&typeIn K (.ref C)==some (.type "type")&&
 findIn K (.ref C) "__getattribute__"==some (some (.builtin (if acc then "list.__getattribute__"else "object.__getattribute__")))&&findIn K (.ref C) "__setattr__"==some (some (.builtin "object.__setattr__"))
noncomputable def AK(K:Frag)(C:Addr)(x:Str)(v:PV):Bool:=readsIn K C (.type "type")&&match PySem.W.findCls K (.ref C) (.type "type") x with
 |some (.val y)=>Gw y v&&handedIn y
 |_=>false
noncomputable def lp:List (Str×String):=[("__getitem__","list.__getitem__"),("__setitem__","list.__setitem__"),("append","list.append"),("__iter__","list.__iter__")]
noncomputable def y3(K:Frag)(C:Addr):Bool:=lp.all (λx=>findIn K (.ref C) x.1==some (some (.builtin x.2)))&&findIn K (.ref C) "__bool__"==some none&&subIn K (.ref C) (.type "collections.deque")==some false&&(clsIn K C).any (·.qualname==("_Accumulator":Str))
structure eU(K:Frag)(W:bU)(n₀:Nat):Prop where
 low:K.all (λq=>decide (q.2.cls≠.none)||q.1==cStatics)=true
 lowN:∀a o,K.lookup a=some o->a<n₀
 pos:builtinsNs<n₀
 main:∃es n,K.lookup mainGlobals=some {cls:=.type "dict",data:=.dict es n}/\StrKeys es
 stat:∃es n,K.lookup cStatics=some {cls:=.none,data:=.dict es n}/\StrKeys es
 lim:nsIn K cStatics "sys.recursionlimit"=some none
 third:nsIn K cStatics "thirdparty.any"=some none
 noSuper:nsIn K mainGlobals "super"=some none
 bmod:∃bm o,nsIn K mainGlobals "__builtins__"=some (some (.ref bm))/\K.lookup bm=some o/\o.cls=.type "module"/\o.dict=some builtinsNs/\o.data=.plain/\bm≠builtinsNs
 consts:W.consts.all (λc=>io K c.1 c.2)=true
 clsg:W.clss.all (λc=>io K c.2 (.obj c.1))=true
 fnsg:W.fns.all (λf=>f.2.1.isSome||io K f.2.2 (.obj f.1))=true
 noB:iT.all (λx=>nsIn K mainGlobals x==some none)=true
 cls:W.clss.all (λc=>A3 K (decide (c.2=("_Accumulator":Str))) c.1)=true
 meths:W.fns.all (λf=>W.clss.all λd=>!decide (f.2.1=some d.2)||(findIn K (.ref d.1) f.2.2==some (some (.ref f.1))&&typeIn K (.ref f.1)==some (.type "function")))=true
 accs:W.clss.all (λc=>!decide (c.2=("_Accumulator":Str))||y3 K c.1)=true
 fnsI:W.fns.all (λf=>PySem.W.fnIn K f.1)=true
 keep:W.clss.all (λc=>keepIn K (.ref c.1))=true
 vals:W.vals.all (λc=>W.clss.all λd=>!decide (c.1=d.2)||c.2.all λxv=>AK K d.1 xv.1 xv.2)=true
structure gI(n₀:Nat)where
 toks:Nat
 heap:Heap
 low:∀b o,heap.get? b=some o->b<n₀
 last:∃a o,heap.get? a=some o/\n₀<=a+1
 codes:List (Addr×Addr)
 uniq:∀x∈codes,∀y∈codes,x.2=y.2->x.1=y.1
 tabs:∀cp∈codes,∃ps,heap.TableAt cp.1 cp.2 ps
noncomputable abbrev Dn(n₀:Nat)(codes:List (Addr×Addr))(h h':Heap):Prop:=∀b o,b<n₀->h.get? b=some o->h'.get? b=some o∨∃c,(c,b)∈codes/\rN h h' c b
theorem Dn.kept{codes:List (Addr×Addr)}(k:Dn n₀ codes h h'){o:Obj}(hb:b<n₀)(hk:o.cls≠.none∨∃es n,o.data=.dict es n)(e:h.get? b=some o):h'.get? b=some o:=by
 rcases k b o hb e with e|⟨c,_,ps,more,_,t,_⟩
 ·exact e
 ·have:=t.2;rw[e]at this;cases this;rcases hk with hk|⟨es,n,hk⟩
  ·exact absurd rfl hk
  ·cases hk
theorem eU.keeps(X:eU K W n₀){codes:List (Addr×Addr)}(x:K.In h)(k:Dn n₀ codes h h'):K.In h':=λa o e=>by
 have:=dU X.low (d9 e);simp only[Bool.or_eq_true,decide_eq_true_eq,beq_iff_eq]at this;refine Dn.kept k (X.lowN a o e) ?_ (x a o e);rcases this with this|rfl
 ·exact .inl this
 ·obtain⟨es,n,e2,_⟩:=X.stat;rw[e]at e2;cases e2;exact .inr ⟨_,_,rfl⟩
theorem DP{S:gI n₀}(O:OldK S.heap h)(k:Dn n₀ S.codes h h'):OldK S.heap h':=by
 have lt:∀b o,S.heap.get? b=some o->b<n₀:=S.low;refine⟨λb o e=>?_,λb o e=>?_⟩
 ·obtain⟨o₂,L0⟩:=O.there b o e;rcases k b o₂ (lt b o e) L0 with Mc|⟨c,hc,ps,more,_,t,_,t'⟩
  ·rcases O.old b o e with x|⟨t,hc,vs,more,hv,x⟩|⟨rfl,hc,⟨o',es,n,ho',r⟩,z⟩
   ·rw[x]at L0;cases L0;exact .inl Mc
   ·rw[x]at L0;cases L0;exact .inr (.inl ⟨t,hc,vs,more,hv,Mc⟩)
   ·have q:=ho'.symm.trans L0;cases q;exact .inr (.inr ⟨rfl,hc,⟨_,es,n,Mc,r⟩,λkey=>by rw[OldK.staticOf_congr (Mc.trans ho'.symm) key];exact z key⟩)
  ·have hb:=t.2;rw[L0]at hb;cases(hb);obtain⟨ps0,t₀⟩:=S.tabs _ hc;have h0:=t₀.2;dsimp only at h0;rw[e]at h0;cases(h0);refine .inr (.inl ⟨t₀.isCodeTable,rfl,ps0,?_⟩);rcases O.old b _ e with x|⟨_,_,vs,m₁,hv,x⟩|⟨_,_,⟨o',es,n,ho',_,hd,_⟩,_⟩
   ·rw[x]at L0;cases(L0);exact⟨more,rfl,t'.2⟩
   ·cases(hv);rw[x]at L0;cases(L0);exact⟨m₁++more,rfl,by rw[t'.2,Array.append_assoc]⟩
   ·rw[ho']at L0;cases L0;cases hd
 ·obtain⟨o₂,L0⟩:=O.there b o e;rcases k b o₂ (lt b o e) L0 with Mc|⟨c,_,ps,more,_,t,_,t'⟩
  ·exact⟨_,Mc⟩
  ·exact⟨_,t'.2⟩
theorem Heap.IsCode.of2{c:Addr}{ps:Array Value}(x:h.IsCode c P ps)(e1:h'.get? c=h.get? c)(e2:h'.get? P=h.get? P):h'.IsCode c P ps:=by unfold Heap.IsCode at x⊢;rw[e1,e2];exact x
theorem xF{S:gI n₀}(k:Dn n₀ S.codes h h'){cp:Addr×Addr}(hcp:cp∈S.codes){ps:Array Value}(h1:cp.1<n₀)(h2:cp.2<n₀)(ic:h.IsCode cp.1 cp.2 ps)(ta:h.TableAt cp.1 cp.2 ps):∃ps,cp.1<n₀/\cp.2<n₀/\h'.IsCode cp.1 cp.2 ps/\h'.TableAt cp.1 cp.2 ps:=by
 obtain⟨⟨oc,vs,ec,ecl,ed,e11⟩,et⟩:=ta;have ec':=Dn.kept k h1 (.inl (by rw[ecl];exact λh=>nomatch h)) ec;rcases k cp.2 _ h2 et with et'|⟨c,hc',ps1,more,i1,t1,i2,t2⟩
 ·exact⟨ps,h1,h2,Heap.IsCode.of2 ic (ec'.trans ec.symm) (et'.trans et.symm),⟨oc,vs,ec',ecl,ed,e11⟩,et'⟩
 ·obtain rfl:c=cp.1:=S.uniq _ hc' _ hcp rfl;exact⟨ps1++more,h1,h2,i2,t2⟩
noncomputable def ai(X:eU K W n₀)(t₀:gI n₀):dK where
 n₀:=n₀
 t₀:=t₀.toks
 codes:=t₀.codes
 P h:=K.In h/\iD h/\OldK t₀.heap h/\∀cp∈t₀.codes,∃ps,cp.1<n₀/\cp.2<n₀/\h.IsCode cp.1 cp.2 ps/\h.TableAt cp.1 cp.2 ps
 keeps h h':=λ⟨x,⟨o,mb,e,hc,hn,hb⟩,O,cs⟩ k=>by
  refine⟨X.keeps x k,⟨o,mb,Dn.kept k X.pos (.inl hc) e,hc,hn.at λo' e'=>?_,hb⟩,DP O k,λcp hcp=>?_⟩
  ·obtain rfl:o=o':=Option.some.inj (e.symm.trans e');exact Dn.kept k X.pos (.inl hc) e
  ·obtain⟨ps,h1,h2,ic,ta⟩:=cs cp hcp;exact xF k hcp h1 h2 ic ta
 size h:=λ⟨_,_,O,_⟩=>by obtain⟨a,o,e,le⟩:=t₀.last;obtain⟨o',e'⟩:=O.there a o e;exact Nat.le_trans le (lt_size e')
theorem eU.mainNs(X:eU K W n₀)(x:K.In h):∃mg,h.Ns mainGlobals mg:=by obtain⟨es,n,e,hk⟩:=X.main;exact⟨_,_,es,n,x _ _ e,rfl,hk,λ_=>rfl⟩
set_option tactic.hygienic true in
theorem eU.noLim(X:eU K W n₀)(x:K.In h):h.NoLimit:=by
 obtain⟨es,n,e,hk⟩:=X.stat;refine⟨_,⟨_,es,n,x _ _ e,rfl,hk,λ_=>rfl⟩,?_⟩;have q:=X.lim;unfold nsIn at q;rw[e]at q;dsimp only at q;split at q
 ·cases q
 ·rename_i he;unfold nsFind findBy;rw[<-Array.find?_toList,he];rfl
set_option tactic.hygienic true in
theorem mL(h:io K x v=true){hp:Heap}(hK:K.In hp){mg:Str->Option Value}(hn:hp.Ns mainGlobals mg):∃y,mg x=some y/\∀ad,az ad y v:=by
 unfold io at h;split at h
 ·rename_i y e;exact⟨y,mg_of hK hn e,qK h⟩
 ·cases h
theorem boot_len:bootBuiltins "len"=some (.builtin "len"):=by kernel_rfl
theorem boot_min:bootBuiltins "min"=some (.builtin "min"):=by kernel_rfl
theorem boot_max:bootBuiltins "max"=some (.builtin "max"):=by kernel_rfl
theorem boot_sum:bootBuiltins "sum"=some (.builtin "sum"):=by kernel_rfl
theorem boot_range:bootBuiltins "range"=some (.type "range"):=by kernel_rfl
theorem boot_list:bootBuiltins "list"=some (.type "list"):=by kernel_rfl
theorem boot_tuple:bootBuiltins "tuple"=some (.type "tuple"):=by kernel_rfl
theorem boot_str:bootBuiltins "str"=some (.type "str"):=by kernel_rfl
set_option tactic.hygienic true in
theorem zT(h:(W.tab p).bltn x=some v):x∈iT/\x≠"__name__"/\∃y,bootBuiltins x=some y/\∀ad,az ad y v:=by
 unfold bU.tab at h;dsimp only at h;split at h
 ·rename_i q;cases h;rcases q with rfl|rfl|rfl|rfl
  ·exact⟨by decide,by decide,_,boot_len,λ_=>rfl⟩
  ·exact⟨by decide,by decide,_,boot_min,λ_=>rfl⟩
  ·exact⟨by decide,by decide,_,boot_max,λ_=>rfl⟩
  ·exact⟨by decide,by decide,_,boot_sum,λ_=>rfl⟩
 ·split at h
  ·rename_i q;cases h;rcases q with rfl|rfl|rfl|rfl
   ·exact⟨by decide,by decide,_,boot_range,λ_=>rfl⟩
   ·exact⟨by decide,by decide,_,boot_list,λ_=>rfl⟩
   ·exact⟨by decide,by decide,_,boot_tuple,λ_=>rfl⟩
   ·exact⟨by decide,by decide,_,boot_str,λ_=>rfl⟩
  ·cases h
set_option tactic.hygienic true in
theorem AB(X:eU K W n₀)(h:(W.tab p).glob x=some v):io K x v=true:=by
 unfold bU.tab at h;dsimp only at h;split at h
 ·rename_i u e;cases h;have q:=dU X.consts (d9 e);exact q
 ·split at h
  ·rename_i a nm e;cases h;have:=dU X.clsg (List.mem_of_find?_eq_some e);have q:=List.find?_some e;simp only[decide_eq_true_eq]at q;rw[<-q];exact this
  ·obtain⟨f,e,rfl⟩:=map_eq_some_iff.mp h;have:=dU X.fnsg (List.mem_of_find?_eq_some e);have q:=List.find?_some e;simp only[and_eq_true,decide_eq_true_eq]at q;obtain⟨q1,q2⟩:=q;rw[isNone_iff_eq_none.mp q1]at this;rw[<-q2];exact this
theorem qQ(X:eU K W n₀)(t₀:gI n₀)(p:Program):Names (ai X t₀) (W.tab p)where
 glob x v h hp:=λhq=>by have hK:=hq.1;obtain⟨mg,hn⟩:=X.mainNs hK;obtain⟨y,e,r⟩:=mL (AB X h) hK hn;exact⟨mg,y,hn,e,r⟩
 bltn x v hg h hp:=λhq=>by obtain⟨hK,⟨o,mb,_,_,hb,hB⟩,_⟩:=hq;obtain⟨mg,hn⟩:=X.mainNs hK;obtain⟨hx,hne,y,e,r⟩:=zT h;have q:=dU X.noB hx;exact⟨mg,mb,y,hn,mg_none_of hK hn (eq_of_beq q),hb,(hB x hne).trans e,r⟩
inductive E1(W:bU)(C:Addr)(c:x7):Prop where
 |mk (nm:Str) (h1:(C,nm)∈W.clss) (h2:c.isAcc=decide (nm=("_Accumulator":Str))) (h3:∀n f,c.meth n=some f->(f,some nm,n)∈W.fns) (h4:∀f,c.init=some f->(f,some nm,("__init__":Str))∈W.fns) (h5:∀x v,c.vals x=some v->∃l,(nm,l)∈W.vals/\(x,v)∈l):E1 W C c
theorem jT(h:(W.tab p).cls C=some c):E1 W C c:=by
 unfold bU.tab at h;dsimp only at h;obtain⟨nm,e,rfl⟩:=map_eq_some_iff.mp h;refine⟨nm,d9 e,rfl,λn f hf=>?_,λf hf=>?_,λx v hv=>?_⟩
 ·obtain⟨⟨a,b,d⟩,e,rfl⟩:=map_eq_some_iff.mp hf;have q:=List.find?_some e;simp only[and_eq_true,decide_eq_true_eq]at q;obtain⟨rfl,rfl⟩:=q;exact List.mem_of_find?_eq_some e
 ·obtain⟨⟨a,b,d⟩,e,rfl⟩:=map_eq_some_iff.mp hf;have q:=List.find?_some e;simp only[and_eq_true,decide_eq_true_eq]at q;obtain⟨rfl,rfl⟩:=q;exact List.mem_of_find?_eq_some e
 ·cases hl:W.vals.lookup nm with
  |none=>rw[hl]at hv;cases hv
  |some l=>rw[hl]at hv;exact⟨l,d9 hl,d9 hv⟩
structure ClsOk(K:Frag)(acc:Bool)(C:Addr):Prop where
 hook:findIn K (.ref C) "__getattr__"=some none
 cd:∃cd,clsIn K C=some cd/\cd.hasDict=true/\cd.mro=.ref C::qo acc
 free:∀x,attrOk x=true->findIn K (.ref C) x=some none
 typ:typeIn K (.ref C)=some (.type "type")
 ga:findIn K (.ref C) "__getattribute__"=some (some (.builtin (if acc then "list.__getattribute__"else "object.__getattribute__")))
 sa:findIn K (.ref C) "__setattr__"=some (some (.builtin "object.__setattr__"))
theorem mi(X:eU K W n₀){nm:Str}(h:(C,nm)∈W.clss):ClsOk K (decide (nm=("_Accumulator":Str))) C:=by
 have q:=dU X.cls h;unfold A3 at q;simp only[and_eq_true,beq_iff_eq]at q;obtain⟨⟨⟨⟨⟨q1,q2⟩,q3⟩,q4⟩,q5⟩,q6⟩:=q;refine⟨q1,?_,λx hx=>?_,q4,q5,q6⟩
 ·obtain⟨cd,e,h⟩:=any_some q2;obtain⟨h1,h2⟩:=and_eq_true_iff.mp h;exact⟨cd,e,h1,eq_of_beq h2⟩
 have:=dU q3 (contains_iff_mem.mp hx);exact eq_of_beq this
variable {t₀:gI n₀}{X:eU K W n₀}
section Rl2x
open Builtin.ObjectAttr
theorem x8{es:Array DictEntry}{ep:Nat}(hd:od.data=.dict es ep)(hk:StrKeys es)(x:Str):lookIn x od=some (nsFind es x):=by
 unfold lookIn nsFind findBy;rw[hd];dsimp only;rw[<-Array.find?_toList];cases h:es.toList.find? (λe=>e.key.isStr x)with
 |some e=>rfl
 |none=>
  have:es.toList.any (·.refKey)=false:=by rw[List.any_eq_false];intro e he;obtain⟨n,t,q⟩:=hk e (Array.mem_toList_iff.mp he);unfold DictEntry.refKey;rw[q];simp
  dsimp only;rw[if_neg (by rw[this];simp)];rfl
noncomputable def or:PO->Option (Addr×List (Str×PV))
 | .inst C fs=>some (C,fs)
 | .acc C fs _=>some (C,fs)
 |_=>none
inductive Av(h:Heap)(G:Gh)(r:Nat)(a:Addr)(C:Addr)(fs:List (Str×PV)):Prop where
 |mk (ox:Obj) (dx:Addr) (od:Obj) (es:Array DictEntry) (n:Nat) (mA:Str->Option Value) (e1:InstAt h a ox C (some od)) (e2:ox.dict=some dx) (e3:dx≠a) (e4:od.data=.dict es n) (e5:h.Ns1 dx mA) (e6:h.get? dx=some od) (e7:∀x,lookIn x od=some (mA x)) (e8:∀x,iA G.ad (fs.lookup x) (mA x)) (e9:G.own dx=some (r,true)):Av h G r a C fs
structure Hx(h:Heap)(G:Gh)(r:Nat)(a:Addr)(C:Addr)(fs:List (Str×PV)):Prop where
 at_:Av h G r a C fs
 own:G.own a=some (r,false)
theorem Inv.iat(I:Inv Z s G V)(h:V[r]?=some o)(hc:or o=some (C,fs))(hr:az G.ad ov (.ref r)):∃a,ov=.ref a/\G.ad[r]?=some a/\Hx s.heap G r a C fs:=by
 obtain⟨a,ha,rfl⟩:=hr;obtain⟨ow,rep⟩:=I.at h ha;refine⟨a,rfl,ha,?_,ow⟩;have bn:∀{ox:Obj},notCls ox=true->oX s.heap G r a C fs ox->Av s.heap G r a C fs:=by intro ox hn q;obtain⟨e,ec,d,mA,ed,ne,ns,ow',f⟩:=q;obtain⟨od,es,n,e1,e2,e3,e4,e5⟩:=id ns;exact⟨ox,d,od,es,n,mA,⟨e,ec,hn,by rw[ed];exact e1⟩,ed,ne,e2,ns,e1,λx=>(x8 e2 e3 x).trans (by rw[e5]),f,ow'⟩
 cases o with
 |inst C' fs'=>cases hc;obtain⟨ox,ed,rep⟩:=rep;exact bn (by unfold notCls;rw[ed]) rep
 |acc C' fs' xs=>cases hc;obtain⟨_,ox,vs,n,ed,_,rep,_⟩:=rep;exact bn (by unfold notCls;rw[ed]) rep
 |_=>cases hc
namespace LF
theorem split_ga:splitId "list.__getattribute__"=some ("list","__getattribute__"):=by decide+kernel
theorem kind_ga:builtinKind "list.__getattribute__"=some .slot:=by decide+kernel
theorem canon_ga:(Manifest.canonical "list.__getattribute__" !="object.__getattribute__")=false:=by decide+kernel
theorem canon_oa:(Manifest.canonical "object.__getattribute__" !="object.__getattribute__")=false:=by decide+kernel
theorem entry_ga:entryFor table "list.__getattribute__"=some Builtin.«object.__getattribute__»:=entryFor_alias (id':="object.__getattribute__") (by kernel_rfl) (by decide+kernel) (by decide+kernel) (by kernel_rfl)
end LF
section
variable {x:Addr}{od:Option Obj}{name:Str}
theorem nR(X:K.In s.heap)(I:InstAt s.heap x ox C od)(hga:findIn K (.ref C) "__getattribute__"=some (some (.builtin "list.__getattribute__")))(hk:findIn K (.ref C) "__getattr__"=some none)(hm:mroIn K C (.type "list")=some true) (h:wpAny (model prog w) A.in1 (Builtin.«object.__getattribute__» ⟨[.ref x,.str name s.toks],[]⟩) (λbn s'=>match bn with| .done (.ret v)=>wpAny (model prog w) A (handedOut v) Q E s'|_=>False) (λ_ _=>False) {s with toks:=s.toks+1}):wpAny (model prog w) A (getAttr (.ref x) name expr) Q E s:=by have T:=I.type (M:=model prog w);refine wpAny_bind (wpAny_mkText (wpAny_holding (wpAny_bind (T _ _ _ _ (λ_ _ e=>e) (wpAny_bind (looks_findIn X hga _ _ _ _ (λ_ _ e=>e) ?_))))));dsimp only;rw[show(onTheHeap (.ref C)&&Value.builtin "list.__getattribute__"==Value.builtin "object.__getattribute__")=false from by rw[show(Value.builtin "list.__getattribute__"==Value.builtin "object.__getattribute__")=false from by decide+kernel,Bool.and_false],if_neg (by decide)];refine wpAny_bind (looks_hook X (mc:=.ref C) hk _ _ _ _ (λ_ _ e=>e) (wpAny_bind (wpAny_attempt (wpAny_holding ?_))));unfold callGetattribute;rw[show(expr&&onTheHeap (Value.builtin "list.__getattribute__"))=false from Bool.and_false _,if_neg (by decide)];unfold boundAndCalled;rw[PySem.F.slot_list_getattribute.bind];refine wpAny_bind (wpAny_pure ?_);refine(?_:wpAny _ _ (call (.builtin "list.__getattribute__") [.ref x,.str name s.toks]) _ _ _);refine wpAny_call (codeAny_call_builtin PySem.F.slot_list_getattribute.plain LF.entry_ga ?_);refine @check_slot (model prog w) _ _ {s with toks:=s.toks+1} "list.__getattribute__" "list" "__getattribute__" (.ref x) [.str name s.toks] [] _ LF.kind_ga LF.split_ga (T.andThen (looks_mroIn X hm)) (PySem.F.args_list_getattribute_2 (.ref x) (.str name s.toks)) ?_;refine wpAny_mono h (λbn s' z=>?_) λ_ _ z=>z.elim;rcases bn with(_|_|_|_)|_<;>first|exact z|exact z.elim
theorem s0{v:Value}(X:K.In s.heap)(I:InstAt s.heap x ox C od)(hga:findIn K (.ref C) "__getattribute__"=some (some (.builtin "list.__getattribute__")))(hk:findIn K (.ref C) "__getattr__"=some none)(hm:mroIn K C (.type "list")=some true) (hf:findObj K C od name=some (.value v))(hh:handedIn v=true)(h:Q v {s with toks:=s.toks+1}):wpAny (model prog w) A (getAttr (.ref x) name expr) Q E s:=by refine nR X I hga hk hm ?_;have L1:=looks_find (M:=model prog w) X I hf;refine wpAny_bind (wpAny_pure (wpAny_bind (wpAny_pure (wpAny_bind (I.type _ _ _ _ (λ_ _ e=>e) (wpAny_bind (L1 _ _ _ _ (λ_ _ e=>e) ?_)))))));refine wpAny_pure ?_;refine(?_:wpAny _ _ (handedOut v) _ _ _);rw[handedOut_of hh];exact wpAny_pure h
theorem xq{g a:Value}(X:K.In s.heap)(I:InstAt s.heap x ox C od)(hga:findIn K (.ref C) "__getattribute__"=some (some (.builtin "list.__getattribute__")))(hk:findIn K (.ref C) "__getattr__"=some none)(hm:mroIn K C (.type "list")=some true) (hf:findObj K C od name=some (.bind g a)) (h:wpAny (model prog w) A.in1 (call g [a,.ref x,.ref C]) (λv s'=>wpAny (model prog w) A (handedOut v) Q E s') (λ_ _=>False) {s with toks:=s.toks+1}):wpAny (model prog w) A (getAttr (.ref x) name expr) Q E s:=by refine nR X I hga hk hm ?_;have L1:=looks_find (M:=model prog w) X I hf;refine wpAny_bind (wpAny_pure (wpAny_bind (wpAny_pure (wpAny_bind (I.type _ _ _ _ (λ_ _ e=>e) (wpAny_bind (L1 _ _ _ _ (λ_ _ e=>e) ?_)))))));refine(?_:wpAny _ _ (holding [a] (call g [a,.ref x,.ref C])>>=ret) _ _ _);exact wpAny_bind (wpAny_holding (wpAny_mono h (λv s' z=>wpAny_pure z) λ_ _ z=>z))
theorem o4{pl:Sem Bool}{Q:Value×List Value->Shared->Prop}{ga:String}{f T:Value}(X:K.In s.heap)(I:InstAt s.heap x ox C od)(hga:findIn K (.ref C) "__getattribute__"=some (some (.builtin ga)))(hcan:(Manifest.canonical ga !="object.__getattribute__")=false) (hk:findIn K (.ref C) "__getattr__"=some none)(hf:findIn K (.ref C) name=some (some f))(ht:typeIn K f=some T)(hT:(T != .type "function"&&T != .type "method_descriptor"&&T != .type "wrapper_descriptor")=false)(hs:shadowIn od name=some false)(h:Q (f,[.ref x]) s):wpAny (model prog w) A (getMethod (.ref x) name pl) Q E s:=by
 unfold getMethod specialOf;refine wpAny_bind (wpAny_bind (I.type.here ((looks_findIn X hga).here ?_)));dsimp only;rw[hcan,if_neg (by decide)];refine wpAny_bind (wpAny_bind (I.type.here ((looks_findIn X hk).here ?_)));refine wpAny_bind (wpAny_bind (I.type.here ((looks_findIn X hf).here (wpAny_bind ((looks_typeIn X ht).here ?_)))));rw[hT,if_neg (by decide)];refine wpAny_bind (wpAny_loadPart I.at_ ?_);have hd:=I.dict;cases e:ox.dict with
 |none=>exact wpAny_bind (wpAny_rule (wpAny_pure h))
 |some dx=>
  cases od with
  |none=>rw[e]at hd;exact hd.elim
  |some o=>rw[e]at hd;obtain⟨r,a,b⟩:=map_eq_some_iff.mp hs;refine wpAny_bind (wpAny_bind (wpAny_loadPart hd ?_));rw[nsLook_of a];refine wpAny_pure ?_;rw[b];exact wpAny_bind (wpAny_rule (wpAny_pure h))
end
end Rl2x
section Rl3x
open Builtin.ObjectAttr
theorem rq(x:Str)(v:PV)(y:Str)(fs:List (Str×PV)):(gM fs x v).lookup y=if y=x then some v else fs.lookup y:=by
 induction fs with
 |nil=>
  refine(?_:List.lookup y [(x,v)]=_);rw[lookup_cons];by_cases h:y=x
  ·rw[if_pos h,beq_iff_eq.mpr h]
  ·rw[if_neg h,beq_eq_false_iff_ne.mpr h]
 |cons p r ih=>
  obtain⟨z,u⟩:=p;show List.lookup y (if z=x then(x,v)::r else(z,u)::gM r x v)=_;by_cases hz:z=x
  ·rw[if_pos hz,lookup_cons,lookup_cons];by_cases h:y=x
   ·rw[if_pos h,beq_iff_eq.mpr h]
   ·rw[if_neg h,beq_eq_false_iff_ne.mpr h,beq_eq_false_iff_ne.mpr (λe=>h (e.trans hz))]
  ·rw[if_neg hz,lookup_cons,lookup_cons,ih];by_cases h:y=z
   ·rw[beq_iff_eq.mpr h];show some u=if y=x then some v else some u
    rw[if_neg (λe=>hz (h.symm.trans e))]
   ·rw[beq_eq_false_iff_ne.mpr h]
theorem xg{mA:Str->Option Value}(h:∀x,iA ad (fs.lookup x) (mA x)):Within mA (fs.map (·.1)):=λy hy=>by
 have:=h y;cases e:fs.lookup y with
 |none=>rw[e]at this;exact absurd this hy
 |some v=>exact mem_map.mpr ⟨(y,v),d9 e,rfl⟩
theorem rT(self:Value):refuseLoop self "__setattr__" [.type "list",.type "object"]=pure ():=by kernel_rfl
theorem tj(self:Value)(C:Addr)(acc:Bool):refuseLoop self "__setattr__" (.ref C::qo acc)=pure ():=by
 rw[refuseLoop_ref];cases acc
 ·exact PySem.F.store_object.passes self
 ·exact rT self
theorem ClsOk.mroIn(O:ClsOk K acc C)(b:Value):mroIn K C b=some ((Value.ref C::qo acc).contains b):=by obtain⟨cd,e,_,q⟩:=O.cd;unfold PySem.W.mroIn;rw[e,bind_some,q];rfl
theorem ClsOk.object(O:ClsOk K acc C):PySem.W.mroIn K C (.type "object")=some true:=by rw[O.mroIn];cases acc<;>simp[qo]
theorem ClsOk.list(O:ClsOk K true C):PySem.W.mroIn K C (.type "list")=some true:=by rw[O.mroIn];simp[qo]
theorem ClsOk.plainMro(O:ClsOk K acc C){cd:ClassData}(e:clsIn K C=some cd):(cd.mro.isEmpty||cd.mro.contains (.type "staticmethod")||cd.mro.contains (.type "classmethod"))=false:=by obtain⟨cd',e',_,q⟩:=O.cd;rw[e]at e';cases e';rw[q];cases acc<;>simp[qo]
theorem tN(O:ClsOk K acc C){v:Value}(hx:findIn K (.ref C) x=some none)(hl:lookIn x od=some (some v)):findObj K C (some od) x=some (.value v):=by obtain⟨cd,e,hd,_⟩:=O.cd;unfold findObj PySem.W.ownOf;rw[e,hx];simp only[bind_some,hd,if_true,hl]
theorem tR(hf:typeIn K (.ref f)=some (.type "function")):specialIn K (.ref f) "__get__"=some (some (.builtin "function.__get__"))/\takesIn K (.ref f)=some false:=by
 have e1:findIn K (.type "function") "__get__"=some (some (.builtin "function.__get__")):=by show fastLookup _ _=_;kernel_rfl
 have e2:findIn K (.type "function") "__set__"=some none:=by show fastLookup _ _=_;kernel_rfl
 have e3:findIn K (.type "function") "__delete__"=some none:=by show fastLookup _ _=_;kernel_rfl
 refine⟨?_,?_⟩
 ·unfold specialIn;rw[hf,bind_some,e1]
 ·unfold takesIn specialIn;rw[hf,bind_some,e2,bind_some,e3];rfl
theorem xJ(O:ClsOk K acc C)(hx:findIn K (.ref C) x=some (some (.ref f)))(hf:typeIn K (.ref f)=some (.type "function"))(hl:lookIn x od=some none):findObj K C (some od) x=some (.bind (.builtin "function.__get__") (.ref f)):=by obtain⟨cd,e,hd,_⟩:=O.cd;obtain⟨s1,s2⟩:=tR hf;unfold findObj PySem.W.ownOf;rw[e,hx];simp only[bind_some,hd,if_true,hl,s1,s2,O.plainMro e,Bool.and_false,false_eq_true,if_false]
theorem s9{u:PV}(X:K.In s.heap)(O:ClsOk K acc C)(J:Hx s.heap G r a C fs)(hx:attrOk x=true)(hu:fs.lookup x=some u)(hb:eO u=some u) (q:∀v,az G.ad v u->Q v {s with toks:=s.toks+1}):wpAny (model prog w) A (getAttr (.ref a) x expr) Q E s:=by
 obtain⟨ox,dx,od,es,n,mA,I,_,_,_,_,_,hl,hf,_⟩:=J.at_;have f:=hf x;rw[hu]at f;obtain⟨v,e,rv⟩:=f;have fo:=tN O (O.free x hx) ((hl x).trans (congrArg some e));have hh:handedIn v=true:=by
  unfold handedIn;cases u with
  |blt _=>cases hb
  |none=>cases rv;rfl
  |bool _=>cases rv;rfl
  |int _=>obtain⟨_,rfl⟩:=rv;rfl
  |str _=>obtain⟨⟨_,rfl⟩,_⟩:=rv;rfl
  |ref _=>obtain⟨_,_,rfl⟩:=rv;rfl
  |obj _=>cases rv;rfl
  |typ _=>cases rv;rfl
 have ga:=O.ga;cases acc
 ·exact get_value X I ga fo hh (q v rv)
 ·exact s0 X I ga O.hook O.list fo hh (q v rv)
theorem AE(X:K.In s.heap)(O:ClsOk K acc C)(J:Hx s.heap G r a C fs)(hx:findIn K (.ref C) x=some (some (.ref f)))(hf:typeIn K (.ref f)=some (.type "function"))(hu:fs.lookup x=none) (q:Q (.ref s.heap.objs.size) {s with heap:=s.heap.push (methodObj (.ref f) (.ref a)),toks:=s.toks+1}):wpAny (model prog w) A (getAttr (.ref a) x expr) Q E s:=by
 obtain⟨ox,dx,od,es,n,mA,I,_,_,_,_,_,hl,hfs,_⟩:=J.at_;have f':=hfs x;rw[hu]at f';have fo:=xJ O hx hf ((hl x).trans (congrArg some f'));have ga:=O.ga;have bn:∀EE:Value->Shared->Prop,wpAny (model prog w) A.in1 (call (.builtin "function.__get__") [.ref f,.ref a,.ref C]) (λv s'=>wpAny (model prog w) A (handedOut v) Q E s') EE {s with toks:=s.toks+1}:=λEE=>
  wpAny_call (fn_get (s:={s with toks:=s.toks+1}) X hf (wpAny_pure q))
 cases acc
 ·exact get_bind X I ga fo O.hook (bn _)
 ·exact xq X I ga O.hook O.list fo (bn _)
theorem yf{pl:Sem Bool}{Q:Value×List Value->Shared->Prop}(X:K.In s.heap)(O:ClsOk K acc C)(J:Hx s.heap G r a C fs)(hx:findIn K (.ref C) x=some (some (.ref f)))(hf:typeIn K (.ref f)=some (.type "function"))(hu:fs.lookup x=none) (q:Q (.ref f,[.ref a]) s):wpAny (model prog w) A (getMethod (.ref a) x pl) Q E s:=by
 obtain⟨ox,dx,od,es,n,mA,I,_,_,_,_,_,hl,hfs,_⟩:=J.at_;have f':=hfs x;rw[hu]at f';have ga:=O.ga;have hs:shadowIn (some od) x=some false:=by unfold shadowIn;dsimp only;rw[hl x,f'];rfl
 refine o4 X I ga ?_ O.hook hx hf (by decide+kernel) hs q;cases acc
 ·exact LF.canon_oa
 ·exact LF.canon_ga
theorem FY{v:Value}{Q:Unit->Shared->Prop}(X:K.In s.heap)(O:ClsOk K acc C)(J:Hx s.heap G r a C fs)(hx:attrOk x=true)(hn:fs.length<=100) (q:∀(dx:Addr) (mA:Str->Option Value) (h':Heap),G.own dx=some (r,true)->dx≠a->(∀y,iA G.ad (fs.lookup y) (mA y))->(∃ox,s.heap.get? a=some ox/\ox.dict=some dx)->h'.Ns1 dx (λy=>if y=x then some v else mA y)->Heap.SameBut dx s.heap h'->Q () {s with heap:=h',toks:=s.toks+2}):wpAny (model prog w) A (setAttr (.ref a) x v) Q E s:=by obtain⟨ox,dx,od,es,n,mA,I,hdx,hne,hod,hns,hget,hl,hfs,how⟩:=J.at_;obtain⟨cd,hcd,hd,hm⟩:=O.cd;refine set_plain X I O.sa ?_;have SF:=PySem.F.store_object;have L:Looks (model prog w) s.heap (isInstance (.ref a) (.type "object")) true:=I.type.andThen (looks_mroIn X O.object);refine codeAny_call_builtin SF.slot.plain SF.entry (@check_slot (model prog w) _ _ {s with toks:=s.toks+1} "object.__setattr__" "object" "__setattr__" (.ref a) [.str x s.toks,v] [] _ SF.kind SF.split L (SF.args (.ref a) (.str x s.toks) v) ?_);have hmr:Looks (model prog w) s.heap (mroOf (.ref C)) cd.mro:=(looks_clsIn X hcd).andThen .now;have T:=I.type (M:=model prog w);have L3:Looks (model prog w) s.heap (storeTaker? none) none:=.now;rw[osa_eq,refuse_eq];refine wpAny_bind (wpAny_bind (T _ _ _ _ (λ_ _ e=>e) (wpAny_bind (hmr _ _ _ _ (λ_ _ e=>e) ?_))));rw[hm,tj];refine wpAny_pure (wpAny_bind (T _ _ _ _ (λ_ _ e=>e) (wpAny_bind (looks_findIn X (O.free x hx) _ _ _ _ (λ_ _ e=>e) (wpAny_bind (L3 _ _ _ _ (λ_ _ e=>e) ?_))))));obtain⟨hx1,hcl,hnc,_⟩:=id I;obtain⟨oc,odi,oda,osl⟩:=ox;dsimp only at hcl hdx;subst hcl hdx;refine wpAny_bind (wpAny_pure (wpAny_bind (wpAny_bind (wpAny_loadPart hx1 (wpAny_bind (looks_clsIn X hcd _ _ _ _ (λ_ _ e=>e) ?_))))));rw[hd];refine wpAny_pure (a:=some dx) ?_;have hw:=xg hfs;refine wpAny_bind (wpAny_pure (wpAny_bind (wpAny_nsSet1 hns λh' hn' hs=>?_)));obtain⟨oD,esD,epD,hoD,hdD,hcD⟩:=hn'.count (Within.cons x v hw);refine wpAny_bind (wpAny_lookBehind hoD (by rw[hdD];exact pastItsLine_dict (Nat.le_trans hcD (by rw[length_cons,length_map,sizeLine_eq];(exact lt_of_le_of_lt (by assumption) (by decide))))) ?_);exact wpAny_pure (q dx mA h' how hne hfs ⟨_,hx1,rfl⟩ hn' hs)
end Rl3x
theorem yZ(X:eU K W n₀)(h:((W.tab p).cls C).isSome=true):∃acc,ClsOk K acc C:=by obtain⟨c,e⟩:=isSome_iff_exists.mp h;obtain⟨nm,hm,_⟩:=jT e;exact⟨_,mi X hm⟩
theorem si{u:PV}(h:eO u=some v):u=v/\eO v=some v:=by cases u<;>cases h<;>exact⟨rfl,rfl⟩
set_option tactic.hygienic true in
theorem B5(X:eU K W n₀){o:PV}(h:dW (W.tab p) o x V=some (v,V'))(I:Inv (ai X t₀) s G V)(rv:az G.ad ov o):Run (ai X t₀) prog w A fp G s (getAttr ov x true) V' (bj v):=by
 have hK:K.In s.heap:=I.top.1;have field:∀{r:Nat} {q:PO} {C:Addr} {fs:List (Str×PV)},V[r]?=some q->or q=some (C,fs)->az G.ad ov (.ref r)->(must (attrOk x&&((W.tab p).cls C).isSome)>>=λ_=>lift ((fs.lookup x).bind eO)) V=some (v,V')->Run (ai X t₀) prog w A fp G s (getAttr ov x true) V' (bj v):=by intro r q C fs hr hc rv h;refine ag h λh1 h=>?_;obtain⟨h1,h2⟩:=and_eq_true_iff.mp h1;obtain⟨h3,rfl⟩:=aW h;obtain⟨u,hu,hb⟩:=bind_eq_some_iff.mp h3;obtain⟨rfl,hb⟩:=si hb;obtain⟨acc,O⟩:=yZ X h2;obtain⟨a,rfl,_,J⟩:=I.iat hr hc rv;exact ay I λQ E q=>s9 hK O J h1 hu hb λy ry=>q y (s.toks+1) (le_succ _) ry
 unfold dW at h;cases o with
 |ref r=>
  dsimp only at h;refine aM h λq hr h=>?_;cases q with
  |inst C fs=>exact field hr rfl rv h
  |acc C fs xs=>exact field hr rfl rv h
  |_=>first|exact(aQ h).elim|cases h
 |obj C=>
  obtain⟨h1,rfl⟩:=aW h;obtain⟨c,hc,hv⟩:=bind_eq_some_iff.mp h1;obtain⟨nm,hm,_,_,_,hvals⟩:=jT hc;obtain⟨l,h1,h2⟩:=hvals x v hv;have q0:=dU X.vals h1;have q:=dU q0 hm;dsimp only at q;rw[decide_eq_true rfl]at q;simp only[Bool.not_true,Bool.false_or]at q;have q:=dU q h2;unfold AK at q;obtain⟨q1,q2⟩:=and_eq_true_iff.mp q;split at q2
  ·rename_i y e;obtain⟨q2,q3⟩:=and_eq_true_iff.mp q2;cases rv;exact ay I λQ E q=>cls_value hK q1 e q3 (q y (s.toks+1) (le_succ _) (qK q2 _))
  ·cases q2
 |_=>first|exact(aQ h).elim|cases h
theorem ve(X:eU K W n₀){o:PV}(h:ez (W.tab p) o x v V=some ((),V'))(I:Inv (ai X t₀) s G V)(rv:az G.ad ov o)(ry:az G.ad y v):Run (ai X t₀) prog w A fp G s (setAttr ov x y) V' Hz:=by
 have hK:K.In s.heap:=I.top.1;unfold ez at h;cases o with
 |ref r=>
  dsimp only at h;refine aM h λq hr h=>?_;have go:∀{C:Addr} {fs:List (Str×PV)} {q':PO},or q=some (C,fs)->(must (attrOk x&&((W.tab p).cls C).isSome&&decide (fs.length<=100))>>=λ_=>ek r q') V=some ((),V')->(∀{h':Heap} {a:Addr},gn s.heap G r a q->(∀{ox:Obj},oX s.heap G r a C fs ox->oX h' G r a C (gM fs x v) ox)->gn h' G r a q')->Run (ai X t₀) prog w A fp G s (setAttr ov x y) V' Hz:=by
   intro C fs q' hc h hrep Q E qq;refine ag h λh1 h=>?_;obtain⟨h12,h3⟩:=and_eq_true_iff.mp h1;obtain⟨h1,h2⟩:=and_eq_true_iff.mp h12;obtain⟨hlt,rfl⟩:=gS h;obtain⟨acc,O⟩:=yZ X h2;obtain⟨a,rfl,ha,J⟩:=I.iat hr hc rv;refine FY hK O J h1 (of_decide_eq_true h3) λdx mA h' ow ne hfs hox hns hs=>?_;obtain⟨ox,hox,hodx⟩:=hox;have hh:∃o,h'.get? dx=some o:=by obtain⟨o,_,_,e,_⟩:=hns;exact⟨o,e⟩
   refine qq _ _ G (I.change (s':={s with heap:=h',toks:=s.toks+2}) hr ow hs hh (λb hb=>?_) rfl (Nat.le_trans I.tok (le_add_right _ _))) (aK.change ow hs rfl rfl) trivial;obtain rfl:a=b:=Option.some.inj (ha.symm.trans hb);have rep:=(I.at hr ha).2;refine hrep rep λ{Mf} hi=>?_;obtain⟨e,ec,d,mA',ed,ne',ns',ow',f⟩:=hi;obtain rfl:ox=Mf:=Option.some.inj (hox.symm.trans e);obtain rfl:dx=d:=Option.some.inj (hodx.symm.trans ed);refine⟨(hs.2 a (Ne.symm ne)).trans e,ec,dx,_,ed,ne,hns,ow,λz=>?_⟩;rw[rq];by_cases hz:z=x
   ·rw[if_pos hz,if_pos hz];exact⟨y,rfl,ry⟩
   ·rw[if_neg hz,if_neg hz];exact hfs z
  cases q with
  |inst C fs=>exact go rfl h λz k=>by obtain⟨ox,e,r⟩:=z;exact⟨ox,e,k r⟩
  |acc C fs xs=>exact go rfl h λz k=>by obtain⟨hl,ox,vs,n,e,e2,r,rr⟩:=z;exact⟨hl,ox,vs,n,e,e2,k r,rr⟩
  |_=>first|exact(aQ h).elim|cases h
 |_=>first|exact(aQ h).elim|cases h
theorem li(X:eU K W n₀){f:PV}(h:bx (W.tab p) (.ref r) x V=some (f,V'))(hl:∀l,V[r]?≠some (.list l)):∃q C fs g acc,V'=V/\V[r]?=some q/\or q=some (C,fs)/\fs.lookup x=none/\f=.obj g/\ClsOk K acc C/\findIn K (.ref C) x=some (some (.ref g))/\typeIn K (.ref g)=some (.type "function"):=by
 unfold bx at h;dsimp only at h;refine aM h λq hr h=>?_;have go:∀{C:Addr} {fs:List (Str×PV)},or q=some (C,fs)->(must ((fs.lookup x).isNone)>>=λ_=>lift (((W.tab p).cls C).bind λc=>(c.meth x).map PV.obj)) V=some (f,V')->∃q C fs g acc,V'=V/\V[r]?=some q/\or q=some (C,fs)/\fs.lookup x=none/\f=.obj g/\ClsOk K acc C/\findIn K (.ref C) x=some (some (.ref g))/\typeIn K (.ref g)=some (.type "function"):=by intro C fs hc h;refine ag h λh1 h=>?_;obtain⟨h2,rfl⟩:=aW h;obtain⟨c,hcl,h2⟩:=bind_eq_some_iff.mp h2;obtain⟨g,hg,rfl⟩:=map_eq_some_iff.mp h2;obtain⟨nm,hm,_,hmeth,_⟩:=jT hcl;have q0:=dU X.meths (hmeth x g hg);have q2:=dU q0 hm;dsimp only at q2;rw[decide_eq_true rfl]at q2;simp only[Bool.not_true,Bool.false_or,and_eq_true,beq_iff_eq]at q2;exact⟨q,C,fs,g,_,rfl,hr,hc,isNone_iff_eq_none.mp h1,rfl,mi X hm,q2.1,q2.2⟩
 cases q with
 |inst C fs=>exact go rfl h
 |acc C fs xs=>exact go rfl h
 |list l=>exact absurd hr (hl l)
 |_=>first|exact(aQ h).elim|cases h
theorem En(X:eU K W n₀){f:PV}{pl:Sem Bool}(h:bx (W.tab p) (.ref r) x V=some (f,V'))(hl:∀l,V[r]?≠some (.list l))(I:Inv (ai X t₀) s G V)(rv:az G.ad ov (.ref r)):Run (ai X t₀) prog w A fp G s (getMethod ov x pl) V' (λG _ p=>∃fv,p=(fv,[ov])/\az G.ad fv f):=by obtain⟨q,C,fs,g,acc,rfl,hr,hc,hn,rfl,O,hf,ht⟩:=li X h hl;obtain⟨a,rfl,ha,J⟩:=I.iat hr hc rv;exact λQ E qq=>yf I.top.1 O J hf ht hn (qq _ s G I (aK.refl _ _ _) ⟨_,rfl,rfl⟩)
theorem yM(X:eU K W n₀)(h:bx (W.tab p) (.ref r) x V=some (.obj a,V'))(I:Inv (ai X t₀) s G V)(rv:az G.ad ov (.ref r)):Run (ai X t₀) prog w A fp G s (getAttr ov x true) V' (λG' s' b=>∃ba,b=.ref ba/\G'.own ba=none/\s'.heap.get? ba=some {cls:=.type "method",data:=.fields #[.ref a,ov]}):=by
 have hl:∀l,V[r]?≠some (.list l):=λl e=>by unfold bx at h;dsimp only at h;refine aM h λq hr h=>?_;rw[e]at hr;cases hr;obtain⟨h,_⟩:=aW h;obtain⟨_,_,h⟩:=map_eq_some_iff.mp h;cases h
 obtain⟨q,C,fs,g,acc,rfl,hr,hc,hn,e,O,hf,ht⟩:=li X h hl;cases e;obtain⟨b,rfl,ha,J⟩:=I.iat hr hc rv;refine λQ E qq=>AE I.top.1 O J hf ht hn (qq _ _ G (I.junk _ (Nat.le_trans I.tok (le_succ _))) (aK.junk _) ⟨_,rfl,I.fresh _ (bb (le_refl _)),Heap.get?_push_size _ rfl⟩)
section Rl5x
open Builtin.ObjectAttr
noncomputable def Gh.add2(G:Gh)(d x:Addr)(i:Nat):Gh:=⟨λb=>if b=x then some (i,false)else if b=d then some (i,true)else G.own b,G.ad++[x]⟩
theorem Gh.add2_ne{x:Addr}(h1:b≠x)(h2:b≠d):(G.add2 d x i).own b=G.own b:=by show(if b=x then _ else if b=d then _ else _)=_;rw[if_neg h1,if_neg h2]
theorem Inv.newI(I:Inv Z s G V){x:Addr}(ht:s.toks<=t)(hk:∀b o,s.heap.get? b=some o->h'.get? b=some o)(hx:s.heap.get? x=none)(hd:s.heap.get? d=none)(hnx:Z.n₀<=x)(hnd:Z.n₀<=d) (lx:∃ob,h'.get? x=some ob)(ld:∃ob,h'.get? d=some ob)(h:gn h' (G.add2 d x V.length) V.length x o):Inv Z {s with heap:=h',toks:=t} (G.add2 d x V.length) (V++[o])where
 top:=Z.keeps _ _ I.top λb o hb e=>.inl (hk b o e)
 len:=by simp[Gh.add2,I.len]
 rep i o' e:=by
  have ne:∀b y,G.own b=some y->b≠x/\b≠d:=λb y ow=>⟨λq=>(by rw[I.fresh b (q▸hx)]at ow;cases ow),λq=>(by rw[I.fresh b (q▸hd)]at ow;cases ow)⟩;by_cases hi:i<V.length
  ·rw[List.getElem?_append_left hi]at e;obtain⟨b,h1,h2,h3⟩:=I.rep i o' e;have n1:=ne b _ h2;exact⟨b,bD ⟨_,rfl⟩ h1,(Gh.add2_ne n1.1 n1.2).trans h2,h3.keep (λo e=>hk b o e) (λd' ow=>⟨λo e=>hk d' o e,(Gh.add2_ne (ne d' _ ow).1 (ne d' _ ow).2).trans ow⟩) ⟨_,rfl⟩⟩
  ·have:i=V.length:=by have:=(List.getElem?_eq_some_iff.mp e).1;simp at this;lia
   subst this;simp at e;subst e;exact⟨x,by simp[Gh.add2,<-I.len],by simp[Gh.add2],h⟩
 fresh b hb:=by
  have hb':h'.get? b=none:=hb;have n1:b≠x:=λq=>by obtain⟨ob,e⟩:=lx;rw[q,e]at hb';cases hb'
  have n2:b≠d:=λq=>by obtain⟨ob,e⟩:=ld;rw[q,e]at hb';cases hb'
  refine(Gh.add2_ne n1 n2).trans (I.fresh b ?_);cases e:s.heap.get? b with
  |none=>rfl
  |some o=>rw[hk b o e]at hb';cases hb'
 old b hb:=(Gh.add2_ne (λ(q:b=x)=>absurd hb (not_lt.mpr (by rw[q];exact hnx))) (λ(q:b=d)=>absurd hb (not_lt.mpr (by rw[q];exact hnd)))).trans (I.old b hb)
 bare:=I.bare
 tok:=Nat.le_trans I.tok ht
theorem aK.newI(I:Inv Z s G V){x:Addr}(hk:∀b o,s.heap.get? b=some o->h'.get? b=some o)(hx:s.heap.get? x=none)(hd:s.heap.get? d=none):aK fp G s (G.add2 d x i) {s with heap:=h',toks:=t}:=
 ⟨λb y e=>(Gh.add2_ne (λq=>by rw[I.fresh b (q▸hx)]at e;cases e) (λq=>by rw[I.fresh b (q▸hd)]at e;cases e)).trans e,⟨_,rfl⟩,λb o e h _ _=>⟨hk b o e,(Gh.add2_ne (λq=>by rw[q,hx]at e;cases e) (λq=>by rw[q,hd]at e;cases e)).trans h⟩,rfl,rfl⟩
noncomputable abbrev gE(C dx:Addr):Obj:={cls:=.ref C,dict:=some dx,data:=.seq #[]}
noncomputable def ll(K:Frag)(C:Addr):Bool:=match K.lookup C with
 |some ⟨_,_,.cls cd,sl⟩=>!cd.hasDel&&(sl.toList[4]?).join==some (.builtin "list.__new__")&& !cd.mro.isEmpty&&cd.mro.contains (.ref C)&&cd.mro.contains (.type "list")&&specialIn K (.ref C) "__call__"==some (some (.builtin "type.__call__"))&&instIn K (.ref C) (.type "type")==some true
 |_=>false
structure tZ(M:Model)(h:Heap)(C:Addr):Prop where
 obj:∃oc od cd sl,h.get? C=some ⟨oc,od,.cls cd,sl⟩/\cd.hasDel=false/\cd.mro.isEmpty=false
 made:Looks M h (Bind.madeBy (.ref C)) (some "list.__new__")
 base:Looks M h (Bind.staticBase (.ref C)) (.ref C)
 self:Looks M h (isSubtype (.ref C) (.ref C)) true
 top:Looks M h (isSubtype (.ref C) (.type "list")) true
 call:Looks M h (specialOf (.ref C) "__call__") (some (.builtin "type.__call__"))
 typ:Looks M h (isInstance (.ref C) (.type "type")) true
set_option tactic.hygienic true in
theorem xS(X:K.In h)(e:ll K C=true):tZ M h C:=by
 unfold ll at e;split at e
 ·rename_i oc od cd sl ho;simp only[and_eq_true,not_eq_true',beq_iff_eq]at e;obtain⟨⟨⟨⟨⟨⟨e2,e3⟩,e4⟩,e5⟩,e6⟩,e7⟩,e8⟩:=e;have hc:clsIn K C=some cd:=by unfold clsIn;rw[ho]
  have hm:Looks M h (mroOf (.ref C)) cd.mro:=(looks_clsIn X hc).andThen .now;obtain⟨c,l,hl⟩:∃c l,cd.mro=c::l:=by cases q:cd.mro with|nil=>rw[q]at e4;cases e4|cons c l=>exact⟨c,l,rfl⟩
  have made:Looks M h (Bind.madeBy (.ref C)) (some "list.__new__"):=by intro A Q E s k q;unfold Bind.madeBy;refine wpAny_bind (hm A _ E s k ?_);rw[hl,forIn_cons];refine wpAny_bind (wpAny_bind (wpAny_bind (wpAny_bind (wpAny_loadPart (k _ _ (X _ _ ho)) (wpAny_pure ?_)))));dsimp only;rw[<-Array.getElem?_toList,e3];exact wpAny_pure (wpAny_pure (wpAny_pure q))
  refine⟨⟨oc,od,cd,sl,X _ _ ho,e2,e4⟩,made,?_,looks_mroIn X ?_,looks_mroIn X ?_,looks_specialIn X e7,looks_instIn X e8⟩
  ·intro A Q E s k q;unfold Bind.staticBase;refine wpAny_bind (hm A _ E s k ?_);rw[hl,forIn_cons];exact wpAny_bind (wpAny_bind (wpAny_bind (made A _ E s k (wpAny_pure (wpAny_pure (wpAny_pure q))))))
  ·unfold PySem.W.mroIn;rw[hc,bind_some,if_neg (by rw[e4];decide),e5]
  ·unfold PySem.W.mroIn;rw[hc,bind_some,if_neg (by rw[e4];decide),e6]
 ·cases e
namespace LF
theorem kind_new:builtinKind "list.__new__"=some .builtinFn:=by decide+kernel
theorem split_new:splitId "list.__new__"=some ("list","__new__"):=by decide+kernel
theorem row_new:Manifest.signature? "list.__new__"=some ⟨.any,"list","list",.cls,[⟨"args",.varPos,false⟩,⟨"kwargs",.varKw,false⟩]⟩:=by kernel_rfl
end LF
section
variable {g:Array GenState}{d:Drawn}{os:OsState}
theorem FW{α:Type}{c:Bool}{x y:Sem α}{Q:α->Shared->Prop}(hc:c=true)(h:wpAny M A x Q E s):wpAny M A (if c=true then x else y) Q E s:=(if_pos hc)▸h
theorem AF{α:Type}{c:Bool}{x y:Sem α}{Q:α->Shared->Prop}(hc:c=false)(h:wpAny M A y Q E s):wpAny M A (if c=true then x else y) Q E s:=by rw[hc];exact h
noncomputable def nT(i:String)(as:Args):Sem Unit:=match Manifest.signature? i with
 |some sig=>Bind.checkArgs i sig as
 |_=>pure ()
theorem x4(as:Args):nT "list.__new__" as=pure ():=by unfold nT;rw[LF.row_new];kernel_rfl
theorem Ad{i:String}{as:Args}(h:argsOk i as):nT i as=pure ():=by
 unfold argsOk at h;unfold nT;cases e:Manifest.signature? i with
 |none=>rfl
 |some g=>rw[e]at h;exact h
theorem ia{α:Type}{P P':Sem α}{Q:α->Shared->Prop}(e:P=P')(h:wpAny M A P' Q E s):wpAny M A P Q E s:=e▸h
noncomputable def Jn(i:String)(as:Args):{p:(Manifest.AttrKind->String->String->Sem Unit)×(Option Manifest.AttrKind×Option (String×String)->Sem Unit)//checkBuiltinCall i as=checkBuiltinCall.match_11 (λ_=>Sem Unit) (builtinKind i,splitId i) p.1 p.2}:=⟨(_,_),rfl⟩
theorem JQ{Q:Unit->Shared->Prop}{P:Sem Unit}{p q:Option Manifest.AttrKind×Option (String×String)}{X:Manifest.AttrKind->String->String->Sem Unit}{Y:Option Manifest.AttrKind×Option (String×String)->Sem Unit} (hd:P=checkBuiltinCall.match_11 (λ_=>Sem Unit) p X Y)(e:p=q)(h:wpAny M A (checkBuiltinCall.match_11 (λ_=>Sem Unit) q X Y) Q E s):wpAny M A P Q E s:=by rw[hd,e];exact h
theorem yG{Q:Unit->Shared->Prop}{i o n:String}{as:Args}{k:Manifest.AttrKind}(hk:builtinKind i=some k)(hs:splitId i=some (o,n))(h:wpAny M A ((Jn i as).1.1 k o n) Q E s):wpAny M A (checkBuiltinCall i as) Q E s:=
 JQ (Jn i as).2 (q:=(some k,some (o,n))) (by rw[hk,hs]) h
noncomputable def Ll(i o n:String)(v:Value)(rest:List Value):{k:Bool->Sem Unit//(Jn i ⟨v::rest,[]⟩).1.1 .method o n=isInstance v (.type o)>>=k}:=⟨_,rfl⟩
section cb
variable (i o n m:String) (C:Addr) (rest:List Value) (a b:Bool) (v:Value)
noncomputable def KY:{p:(Bool->Sem Unit)×Sem Unit//(Jn i ⟨.ref C::rest,[]⟩).1.1 .builtinFn o n=if(n=="__new__")=true then isType (.ref C)>>=p.1 else p.2}:=⟨(_,_),rfl⟩
noncomputable def KS:{k:Bool->Sem Unit//(KY i o n C rest).1.1 true=isSubtype (.ref C) (.type o)>>=k}:=⟨_,rfl⟩
noncomputable def KZ:{k:Value->Option String->Sem Unit//(KS i o n C rest).1 true=Bind.staticBase (.ref C)>>=λv=>Bind.madeBy v>>=k v}:=⟨_,rfl⟩
noncomputable def Lu:{p:Sem Unit//(KZ i o n C rest).1 v (some m)=if(Manifest.canonical m !=Manifest.canonical i)=true then p else nT i ⟨.ref C::rest,[]⟩}:=⟨_,rfl⟩
end cb
theorem EP{α:Type}{c:Bool}{P x y:Sem α}{Q:α->Shared->Prop}(e:P=if c=true then x else y)(hc:c=false)(h:wpAny M A y Q E s):wpAny M A P Q E s:=by rw[e,hc];exact h
section ln
variable (i:String) (as:Args) (C:Addr) (rest:List Value) (p:Pos) (st:List (Code×Pos)) (a b:Bool)
noncomputable def K7:{k:List (Code×Pos)->Sem Fin//«list.__new__» ⟨.ref C::rest,[]⟩=stack>>=k}:=⟨_,rfl⟩
noncomputable def K4:{k:Bool->Sem Fin//(K7 C rest).1 ((.builtin i as,p)::st)=isType (.ref C)>>=k}:=⟨_,rfl⟩
noncomputable def KR:{k:Bool->Sem Fin//(K4 i as C rest p st).1 true=isSubtype (.ref C) (.type ((i.splitOn ".__new__").headD ""))>>=k}:=⟨_,rfl⟩
end ln
theorem HY{α:Type}{P:Sem α}{v:Value}{o o':String}{k:Bool->Sem α}{Q:α->Shared->Prop}(e:P=isSubtype v (.type o)>>=k)(ho:o=o') (h:wpAny M A (isSubtype v (.type o')>>=k) Q E s):wpAny M A P Q E s:=by rw[e,ho];exact h
section tc
variable (C:Addr) (rest m:List Value) (i:String) (x r:Value) (b:Bool)
noncomputable def Le:{k:List Value->Sem Fin//«type.__call__» ⟨.ref C::rest,[]⟩=mroOf (.ref C)>>=k}:=⟨_,rfl⟩
noncomputable def Ld:{p:(Option String->Sem Fin)×Sem Fin//(Le C rest).1 m=if m.isEmpty=true then p.2 else Bind.madeBy (.ref C)>>=p.1}:=⟨(_,_),rfl⟩
noncomputable def KU:{k:Value->Sem Fin//(Ld C rest m).1.1 (some i)=holding [.builtin i] (PySem.call (.builtin i) (.ref C::rest) [])>>=k}:=⟨_,rfl⟩
noncomputable def K9:{k:Bool->Sem Fin//(KU C rest m i).1 x=isInstance x (.ref C)>>=k}:=⟨_,rfl⟩
noncomputable def Lh:{k:Option Value->Sem Fin//(K9 C rest m i x).1 true=holding [x] (callSpecial? x ("__init__":Str) rest [])>>=k}:=⟨_,rfl⟩
end tc
theorem HU(Y:tZ (model prog w) h C) (hq:R (.ok (.ret (.ref (h.objs.size+1)))) ⟨(h.push emptyDict).push (gE C h.objs.size),g,d,t,os⟩):codeAny (model prog w) A (.call (.builtin "list.__new__") ⟨.ref C::rest,[]⟩) R ⟨h,g,d,t,os⟩:=by
 obtain⟨⟨oc,od,cd,sl,hC,e2,e4⟩,made,base,self,top,call,typ⟩:=Y;refine codeAny_call_builtin_code (Code.quiet_builtin _ (by decide+kernel)) ?_;refine yG LF.kind_new LF.split_new ?_;rw[(KY ..).2,if_pos (by decide+kernel)];refine wpAny_bind (nd_load hC (wpAny_pure ?_));refine ia (KS ..).2 (wpAny_bind (top.at (ia (KZ ..).2 (wpAny_bind (base.at (wpAny_bind (made.at ?_)))))));refine EP (Lu ..).2 (by decide+kernel) ?_;rw[x4];refine wpAny_pure ?_;refine codeAny_builtin_stack PySem.F.entry_list_new (K7 C rest).2 λp st=>?_;refine ia (K4 ..).2 (wpAny_bind (nd_load hC (wpAny_pure (HY (KR ..).2 owner_list_new (wpAny_bind (top.at ?_))))));unfold KR;dsimp only;rw[owner_list_new]
 repeat(first|with_reducible refine AF rfl ?_|with_reducible refine FW rfl ?_|lk)
 have hC':=Heap.get?_push_of_some (gE C (h.push emptyDict).objs.size.pred) (Heap.get?_push_of_some emptyDict hC);refine nd_load (Heap.get?_push_of_some _ (Heap.get?_push_of_some _ hC)) ?_;refine wpAny_pure ?_;dsimp only;rw[e2]
 repeat(first|with_reducible refine AF rfl ?_|lk)
 refine(?_:R _ _);rw[size_push];exact hq
theorem uy{fI:Addr}(Y:tZ (model prog w) h C)(hi:Looks (model prog w) h (typeLookup (.ref C) "__init__") (some (.ref fI))) (hb:∀self,Looks (model prog w) h (bindSpecial (.ref fI) self) (.ref fI,[self])) (hq:codeAny (model prog w) (A.under (.builtin "type.__call__" ⟨.ref C::rest,[]⟩)) (.call (.ref fI) ⟨.ref (h.objs.size+1)::rest,[]⟩) (InitBack (h.objs.size+1) R) ⟨(h.push emptyDict).push (gE C h.objs.size),g,d,t,os⟩):codeAny (model prog w) A (.call (.ref C) ⟨rest,[]⟩) R ⟨h,g,d,t,os⟩:=by
 have Y':=Y;obtain⟨⟨oc,od,cd,sl,hC,e2,e4⟩,made,base,self,top,call,typ⟩:=Y;refine codeAny_of_tree ?_;refine(?_:wpAny _ _ (callAny (.ref C) _) _ _ _);refine nd_load hC ?_;refine(?_:wpAny _ _ (callAny.viaDunder (.ref C) _) _ _ _);unfold callAny.viaDunder;refine wpAny_bind (call.at ?_);dsimp only;rw[tc_bind];refine wpAny_bind (wpAny_pure (wpAny_bind (wpAny_pure ?_)));refine wpAny_pure (a:=Fin.again (.call (.builtin "type.__call__") ⟨.ref C::rest,[]⟩)) (And.intro rfl ?_);refine codeAny_call_builtin_at (Code.quiet_builtin _ (by decide+kernel)) entry_typeCall (check_slot tc_kind tc_split typ (tc_args _ _ _) ?_);have hm:Looks (model prog w) h (mroOf (.ref C)) cd.mro:=((Looks.ld (part:=none) hC).andThen .now).andThen .now;refine ia (Le ..).2 (wpAny_bind (hm.at ?_));refine EP (Ld ..).2 e4 (wpAny_bind (made.at ?_));refine ia (KU ..).2 (wpAny_bind (wpAny_holding (wpAny_call (HU Y' ?_))));have k:∀b o,h.get? b=some o->((h.push emptyDict).push (gE C h.objs.size)).get? b=some o:=λb o e=>Heap.get?_push_of_some _ (Heap.get?_push_of_some _ e);have hx:((h.push emptyDict).push (gE C h.objs.size)).get? (h.objs.size+1)=some (gE C h.objs.size):=by heap_get
 have t1:Looks (model prog w) ((h.push emptyDict).push (gE C h.objs.size)) (typeOf (.ref (h.objs.size+1))) (.ref C):=(Looks.ld hx).andThen .now;have s1:=self.keeps k;have i1:=hi.keeps k;have b1:=(hb (.ref (h.objs.size+1))).keeps k;have in1:Looks (model prog w) ((h.push emptyDict).push (gE C h.objs.size)) (isInstance (.ref (h.objs.size+1)) (.ref C)) true:=t1.andThen s1;refine ia (K9 ..).2 (wpAny_bind (in1.at (ia (Lh ..).2 (wpAny_bind (wpAny_holding ?_)))));unfold callSpecial?;unfold specialOf
 repeat(first|with_reducible refine wpAny_call ?_|lk)
 refine codeAny_mono hq λr s' z=>?_;rcases r with e|(v|_|_|_)<;>first|exact z|exact z.elim|skip
 obtain⟨rfl,z⟩:=z;exact wpAny_pure (wpAny_pure z)
end
end Rl5x
noncomputable def Bn(W:bU)(f:Option Str×Str):Bool:=decide (f.1=some ("_Accumulator":Str))&&(fF W f.2).isSome
inductive cE(K:Frag)(p:Program)(f:Addr×Option Str×Str):Prop where
 |mk (fn:Fn) (o:Obj) (fd:FuncData) (e1:Mine.fnIn p f.2.1 f.2.2=some fn) (e2:re fn=true) (e3:K.lookup f.1=some o) (e4:o.data=.func fd) (e5:fd.scope=fn.scope) (e6:fd.body=.stmts fn.body) (e7:fd.closure=[]) (e8:fd.globals=mainGlobals) (e9:fd.builtins=builtinsNs) (e10:codeIn K fd.code fd.qualname=true) (e11:∀vals:List Value,vals.length=fn.params.args.length->bindArgs fd ⟨vals,[]⟩=pure ((fn.params.args.map (·.arg)).zip vals)):cE K p f
theorem nj{f:Fn}(h:(W.tab p).fn a=some f):∃c n,W.fns.lookup a=some (c,n)/\Mine.fnIn p c n=some f:=by obtain⟨⟨c,n⟩,e,q⟩:=bind_eq_some_iff.mp (show((W.fns.lookup a).bind λf=>Mine.fnIn p f.1 f.2)=some f from h);exact⟨c,n,e,q⟩
theorem yw(X:eU K W n₀)(hF:m1 (λf=>Bn W f.2=true∨cE K p f) W.fns)(a:Addr)(f:Fn)(h:(W.tab p).fn a=some f)(hp:(W.tab p).prim a=none):re f=true/\∀h,(ai X t₀).P h->zC h a f:=by
 obtain⟨c,n,e,q⟩:=nj h;clear h;have hp:((W.fns.lookup a).bind λf=>if f.1=some ("_Accumulator":Str)then fF W f.2 else none)=none:=hp;rw[e,bind_some]at hp;rcases hF.mem (d9 e)with r|⟨fn,o,fd,e1,e2,e3,e4,e5,e6,e7,e8,e9,e10,e11⟩
 ·exfalso
  obtain⟨r1,r2⟩:=and_eq_true_iff.mp r;rw[if_pos (of_decide_eq_true r1)]at hp;dsimp only at r2;rw[hp]at r2;cases r2
 ·dsimp only at e1;rw[q]at e1;cases e1;exact⟨e2,λh hP=>⟨⟨o,fd,hP.1 _ _ e3,e4,e5,e6,e7,e8,e9,codeRec_of hP.1 e10,e11⟩,X.noLim hP.1⟩⟩
set_option tactic.hygienic true in
theorem Cg(X:eU K W n₀)(hf:((W.tab p).fn a).isSome=true)(hP:(ai X t₀).P h):∃o fd,h.get? a=some o/\o.data=.func fd:=by
 obtain⟨f,e⟩:=isSome_iff_exists.mp hf;obtain⟨c,n,e,_⟩:=nj e;have q:=dU X.fnsI (d9 e);unfold PySem.W.fnIn at q;dsimp only at q;split at q
 ·rename_i e;exact⟨_,_,hP.1 _ _ e,rfl⟩
 ·cases q
theorem yN(X:eU K W n₀){first:List Value}{args:List (Bool×Sem Value)}(hc:(W.tab p).cls a=some c)(hpl:args.any (·.1)=false) (h:wpAny (model prog w) A (evalArgs (.ref a) true args []) (λx LK=>(ai X t₀).P LK.heap/\wpAny (model prog w) A (PySem.call (.ref a) (first++x.pos) x.kw) Q E LK) E s):wpAny (model prog w) A (callWith pos (.ref a) first args []) Q E s:=by obtain⟨nm,hm,_⟩:=jT hc;have q:=dU X.keep hm;exact callWith_of (P:=(ai X t₀).P) (by rw[hpl];rfl) (λh hP=>keeps_K q h hP.1) h
theorem Cw(X:eU K W n₀)(hM:W.clss.all (λc=>if decide (c.2=("_Accumulator":Str))then ll K c.1 else makesIn K c.1)=true)(hc:(W.tab p).cls C=some c)(hi:c.init=some f)(I:Inv (ai X t₀) s G V)(r:aC G.ad vs as)(hA:aL 5 A) (hinit:∀{A':Around} {G':Gh} {s':Shared} {vs':List Value},A'.handled=none->A'.depth<=A.depth+2->A'.units<=A.units+20->Inv (ai X t₀) s' G' (V++[if c.isAcc then .acc C [] []else .inst C []])->aC G'.ad vs' (.ref V.length::as)->jm (ai X t₀) prog w A' G' s' (.call (.ref f) ⟨vs',[]⟩) V' (bj .none)):Run (ai X t₀) prog w A fp G s (call (.ref C) vs) V' (bj (.ref V.length)):=by
 obtain⟨nm,hm,hacc,_,hin,_⟩:=jT hc;have q0:=dU X.meths (hin f hi);have q2:=dU q0 hm;dsimp only at q2;rw[decide_eq_true rfl]at q2;simp only[Bool.not_true,Bool.false_or,and_eq_true,beq_iff_eq]at q2;obtain⟨q2,q3⟩:=q2;have hK:K.In s.heap:=I.top.1;have L:=looks_findIn (M:=model prog w) hK q2;have hn:=I.above;have hx:s.heap.get? (s.heap.objs.size+1)=none:=bb (le_succ _);have hd:s.heap.get? s.heap.objs.size=none:=bb (le_refl _);have q1:=dU hM hm;dsimp only at q1;intro Q E q;refine wpAny_call ?_;have go:∀{ob:Obj},(∃D n,ob=⟨.ref C,some s.heap.objs.size,D,#[]⟩/\(c.isAcc=true/\D=.seq #[] n∨c.isAcc=false/\D=.plain))->codeAny (model prog w) (A.under (.builtin "type.__call__" ⟨.ref C::vs,[]⟩)) (.call (.ref f) ⟨.ref (s.heap.objs.size+1)::vs,[]⟩) (InitBack (s.heap.objs.size+1) (λr s'=>match r with| .ok (.ret v)=>Q v s'| .ok _=>False| .error e=>E e s')) {s with heap:=(s.heap.push emptyDict).push ob}:=by
  intro ob hob;obtain⟨D,n,rfl,hD⟩:=hob;have hk:∀b o,s.heap.get? b=some o->((s.heap.push emptyDict).push ⟨.ref C,some s.heap.objs.size,D,#[]⟩).get? b=some o:=λb o e=>Heap.get?_push_of_some _ (Heap.get?_push_of_some _ e);have gx:((s.heap.push emptyDict).push ⟨.ref C,some s.heap.objs.size,D,#[]⟩).get? (s.heap.objs.size+1)=some ⟨.ref C,some s.heap.objs.size,D,#[]⟩:=by
   have:=Heap.get?_push_size (s.heap.push emptyDict) (o:=⟨.ref C,some s.heap.objs.size,D,#[]⟩) (by rcases hD with⟨_,rfl⟩|⟨_,rfl⟩<;>rfl)
   rwa [size_push]at this
  have gd:((s.heap.push emptyDict).push ⟨.ref C,some s.heap.objs.size,D,#[]⟩).get? s.heap.objs.size=some emptyDict:=Heap.get?_push_of_some _ (Heap.get?_push_size _ rfl);have ns:((s.heap.push emptyDict).push ⟨.ref C,some s.heap.objs.size,D,#[]⟩).Ns1 s.heap.objs.size (λ_=>none):=Heap.Ns1.of_empty ⟨_,#[],_,gd,rfl,λe he=>absurd he (by simp),λ_=>rfl⟩;have ir:oX ((s.heap.push emptyDict).push ⟨.ref C,some s.heap.objs.size,D,#[]⟩) (G.add2 s.heap.objs.size (s.heap.objs.size+1) V.length) V.length (s.heap.objs.size+1) C [] ⟨.ref C,some s.heap.objs.size,D,#[]⟩:=
   ⟨gx,rfl,s.heap.objs.size,_,rfl,ne_of_lt (lt_succ_self _),ns,by simp[Gh.add2],λ_=>rfl⟩
  have orep:gn ((s.heap.push emptyDict).push ⟨.ref C,some s.heap.objs.size,D,#[]⟩) (G.add2 s.heap.objs.size (s.heap.objs.size+1) V.length) V.length (s.heap.objs.size+1) (if c.isAcc then .acc C [] []else .inst C []):=by
   rcases hD with⟨h1,rfl⟩|⟨h1,rfl⟩
   ·rw[h1,if_pos rfl];exact⟨zero_le _,_,[],n,rfl,rfl,ir,.nil⟩
   ·rw[h1,if_neg (by decide)];exact⟨_,rfl,ir⟩
  have I':=I.newI (t:=s.toks) (le_refl _) hk hx hd (Nat.le_trans hn (le_succ _)) hn ⟨_,gx⟩ ⟨_,gd⟩ orep;have S':=aK.newI (fp:=[]) (t:=s.toks) (i:=V.length) I hk hx hd;have ex:(G.add2 s.heap.objs.size (s.heap.objs.size+1) V.length).ad[V.length]?=some (s.heap.objs.size+1):=by simp[Gh.add2,<-I.len]
  have:=hinit (A':=A.under (.builtin "type.__call__" ⟨.ref C::vs,[]⟩)) hA.1 (le_succ _) (by show A.units+_<=_;exact Nat.add_le_add_left (le_of_ble_eq_true (by kernel_rfl)) _) I' (.cons ⟨_,ex,rfl⟩ (bf ⟨_,rfl⟩ r)) (λv s'=>v=.none/\Q (.ref (s.heap.objs.size+1)) s') E λv s' G' I₂ S2 e=>⟨e,q _ _ _ I₂ (S'.trans S2).nil ⟨_,bD S2.ad ex,rfl⟩⟩;refine codeAny_mono this λr s' z=>?_;rcases r with e|(v|_|_|_)<;>first|exact z|exact z.elim
 obtain⟨hh,gg,dd,t,os⟩:=s;cases ha:c.isAcc
 ·rw[ha]at hacc;rw[<-hacc,if_neg (by decide)]at q1;exact make_core (makes_of hK q1) L (λself=>bind_fn hK self q3) (.inl rfl) (go ⟨_,0,rfl,.inr ⟨ha,rfl⟩⟩)
 ·rw[ha]at hacc;rw[<-hacc,if_pos rfl]at q1;exact uy (xS hK q1) L (λself=>bind_fn hK self q3) (go ⟨_,_,rfl,.inl ⟨ha,rfl⟩⟩)
structure Ba(K:Frag)(C:Addr):Prop extends ClsOk K true C where
 names:∀x∈lp,findIn K (.ref C) x.1=some (some (.builtin x.2))
 noBool:findIn K (.ref C) "__bool__"=some none
 noDeque:subIn K (.ref C) (.type "collections.deque")=some false
 qual:∃cd,clsIn K C=some cd/\cd.qualname=("_Accumulator":Str)
structure AccAt(K:Frag)(h:Heap)(G:Gh)(r:Nat)(a C dx:Addr)(fs:List (Str×PV))(xs:List PV)(vs:List Value)(n:Nat):Prop where
 ad:G.ad[r]?=some a
 own:G.own a=some (r,false)
 at_:h.get? a=some (dn C dx vs n)
 reps:aC G.ad vs xs
 len:xs.length<=lim
 cls:Ba K C
 iat:Hx h G r a C fs
theorem yH(X:eU K W n₀)(h:(C,("_Accumulator":Str))∈W.clss):Ba K C:=by have O:=mi X h;rw[decide_eq_true rfl]at O;have q:=dU X.accs h;dsimp only at q;rw[decide_eq_true rfl]at q;simp only[Bool.not_true,Bool.false_or]at q;unfold y3 at q;simp only[and_eq_true,beq_iff_eq]at q;exact⟨O,λx hx=>(by have:=dU q.1.1.1 hx;exact eq_of_beq this),q.1.1.2,q.1.2,(let⟨cd,e,h⟩:=any_some q.2;⟨cd,e,eq_of_beq h⟩)⟩
inductive E2(K:Frag)(h:Heap)(G:Gh)(r:Nat)(C:Addr)(fs:List (Str×PV))(xs:List PV)(ov:Value):Prop where
 |mk (a dx:Addr) (vs:List Value) (n:Nat) (e:ov=.ref a) (J:AccAt K h G r a C dx fs xs vs n):E2 K h G r C fs xs ov
theorem Inv.accAt(X:eU K W n₀)(I:Inv (ai X t₀) s G V)(h:V[r]?=some (.acc C fs xs))(hc:(C,("_Accumulator":Str))∈W.clss)(rv:az G.ad ov (.ref r)):E2 K s.heap G r C fs xs ov:=by obtain⟨a,rfl,ha,J⟩:=I.iat h rfl rv;obtain⟨ow,hl,ox,vs,n,hd,hs,ir,rr⟩:=I.at h ha;obtain⟨e,ec,d,mA,ed,_⟩:=id ir;refine⟨a,d,vs,n,rfl,ha,ow,?_,rr,hl,yH X hc,J⟩;obtain⟨oc,od,oda,osl⟩:=ox;dsimp only at hd hs ec ed;subst hd hs ec ed;exact e
theorem vc(h:(W.tab p).cls C=some c)(ha:c.isAcc=true):(C,("_Accumulator":Str))∈W.clss:=by obtain⟨nm,hm,e,_⟩:=jT h;rw[ha]at e;rw[<-of_decide_eq_true e.symm];exact hm
theorem AccAt.inst(J:AccAt K s.heap G r a C dx fs xs vs n):∃od,InstAt s.heap a (dn C dx vs n) C (some od):=by obtain⟨ox,d,od,_,_,_,I,_⟩:=J.iat.at_;have:ox=dn C dx vs n:=Option.some.inj (I.at_.symm.trans J.at_);subst this;exact⟨od,I⟩
theorem fu{id m:String}{b:Builtin}(hK:K.In s.heap)(J:AccAt K s.heap G r a C dx fs xs vs n)(hk:builtinKind id=some .slot∨builtinKind id=some .method)(hs:splitId id=some ("list",m)) (hp:plainId id=true)(he:entryFor table id=some b)(ha:argsOk id ⟨.ref a::rest,[]⟩) (h:wpAny (model prog w) A.in1 (b ⟨.ref a::rest,[]⟩) (λbn s'=>match bn with| .done f=>R (.ok f) s'| .again c'=>c'.quiet=true/\codeAny (model prog w) A c' R s') (λe s'=>R (.error e) s') s):codeAny (model prog w) A (.call (.builtin id) ⟨.ref a::rest,[]⟩) R s:=by
 obtain⟨od,I⟩:=J.inst;have L:Looks (model prog w) s.heap (isInstance (.ref a) (.type "list")) true:=I.type.andThen (looks_mroIn hK J.cls.list);refine codeAny_call_builtin hp he ?_;rcases hk with hk|hk
 ·exact check_slot hk hs L ha h
 ·exact yG hk hs (ia (Ll ..).2 (wpAny_bind (L.here (ia (P':=nT id _) rfl (ia (Ad ha) (wpAny_pure h))))))
theorem fA{id:String}{args:List Value}{Q:Option Value->Shared->Prop}(hK:K.In s.heap)(J:AccAt K s.heap G r a C dx fs xs vs n)(hx:(x,id)∈lp)(hb:∀self,bindSpecial (.builtin id) self=pure (.builtin id,[self])) (h:codeAny (model prog w) A (.call (.builtin id) ⟨.ref a::args,[]⟩) (λr s'=>match r with| .ok (.ret v)=>Q (some v) s'| .ok _=>False| .error e=>E e s') s):wpAny (model prog w) A (callSpecial? (.ref a) x args) Q E s:=by obtain⟨od,I⟩:=J.inst;have hf:=J.cls.names _ hx;refine wpAny_bind (wpAny_bind (I.type.here ((looks_findIn hK hf).here (wpAny_holding ?_))));rw[hb];refine wpAny_bind (wpAny_pure (wpAny_bind (wpAny_call (codeAny_mono h λr s' z=>?_))));rcases r with e|(v|_|_|_)<;>first|exact z|exact wpAny_pure z
theorem mH{k:Value}(hK:K.In s.heap)(J:AccAt K s.heap G r a C dx fs xs vs n)(h:Q k s):wpAny (model prog w) A (sequenceKey (.ref a) k x) Q E s:=by
 obtain⟨od,I⟩:=J.inst;unfold sequenceKey;refine wpAny_bind (I.type.here ?_);have hs:(seqItemTypes.all λn=>subIn K (.ref C) (.type n)==some false)=true:=by refine(?_:(subIn K (.ref C) (.type "collections.deque")==some false&&true)=true);rw[J.cls.noDeque];rfl
 have any:∀{l:List String},(l.all λn=>subIn K (.ref C) (.type n)==some false)=true->Looks (model prog w) s.heap (l.anyM λn=>isSubtype (.ref C) (.type n)) false:=by
  intro l;induction l with
  |nil=>exact λ_=>.now
  |cons m r ih=>intro e;obtain⟨e1,e2⟩:=and_eq_true_iff.mp (all_cons▸e);exact(looks_subIn hK (beq_iff_eq.mp e1)).andThen (ih e2)
 refine wpAny_bind ((any hs).here ?_);rw[if_pos (show(!false)=true from rfl)];exact wpAny_pure h
theorem A2{k:Int}{t:Tok}(X:eU K W n₀)(I:Inv (ai X t₀) s G V)(J:AccAt K s.heap G r a C dx fs xs vs n)(h0:0<=k)(hp:place k xs.length=some j)(hx:xs[j]?=some v):Run (ai X t₀) prog w A fp G s (getItem (.ref a) (.int k t)) V (bj v):=by
 have hK:K.In s.heap:=I.top.1;intro Q E q;obtain⟨_,hj,hpos,_⟩:=fC hp;have hj':=hpos h0;have hl:=J.len;have hfit:k<2^63:=by have:lim=1000000:=rfl;omega
 obtain⟨y,hy,ry⟩:=J.reps.get hx;unfold getItem;refine wpAny_holding (wpAny_bind (mH hK J (wpAny_bind (fA hK J (id:="list.__getitem__") (by decide) slot_list_getitem.bind ?_))));refine fu hK J (.inr (by decide+kernel)) (m:="__getitem__") (by decide+kernel) slot_list_getitem.plain entry_list_getitem (args_list_getitem _ _) ?_;refine(?_:wpAny _ _ (Builtin.List.listSubscript? (.int k t)>>=_) _ _ s);refine wpAny_bind (wpAny_listSubscript_int (fitsIndex_of h0 hfit) ?_);clear hfit;obtain⟨j',rfl⟩:=Int.eq_ofNat_of_zero_le h0;obtain rfl:j'=j:=by simp_all
 have hx':vs.toArray[j']?=some y:=by simpa using hy
 refine(?_:wpAny _ _ ((seqItemAt a j'>>=λr=>pure (r.map (j',·)))>>=_) _ _ s);refine wpAny_bind (wpAny_bind (wpAny_seqItemAt J.at_ rfl (wpAny_pure ?_)));rw[hx'];have bn:wpAny (model prog w) A (pure y) Q E s:=wpAny_pure (q _ s G I (aK.refl _ _ _) ry)
 first
  |exact wpAny_bind (wpAny_pure (wpAny_pure bn))
  |exact wpAny_bind (wpAny_pure bn)
  |exact wpAny_pure bn
theorem Dk(X:eU K W n₀){k:Int}{t:Tok}(h:V[r]?=some (.acc C fs xs))(hc:((W.tab p).cls C).any (·.isAcc)=true)(h0:0<=k)(hp:place k xs.length=some j)(hx:xs[j]?=some v)(I:Inv (ai X t₀) s G V)(rv:az G.ad ov (.ref r)):Run (ai X t₀) prog w A fp G s (getItem ov (.int k t)) V (bj v):=by obtain⟨c,e,ha⟩:=any_some hc;obtain⟨a,dx,vs,n,rfl,J⟩:=I.accAt X h (vc e ha) rv;exact A2 X I J h0 hp hx
theorem wU(X:eU K W n₀)(h:V[r]?=some (.acc C fs xs))(hc:((W.tab p).cls C).any (·.isAcc)=true)(I:Inv (ai X t₀) s G V)(rv:az G.ad ov (.ref r)):Run (ai X t₀) prog w A fp G s (getitemInPython ov) V (ub false):=by obtain⟨c,e,ha⟩:=any_some hc;obtain⟨a,dx,vs,n,rfl,J⟩:=I.accAt X h (vc e ha) rv;obtain⟨od,J'⟩:=J.inst;have hf:=J.cls.names ("__getitem__","list.__getitem__") (by decide);intro Q E q;unfold getitemInPython;refine wpAny_bind (wpAny_bind (J'.type.here ((looks_findIn I.top.1 hf).here ?_)));exact wpAny_pure (q _ s G I (aK.refl _ _ _) rfl)
structure bz(Z:dK)(env:Env)(m:Str->Option Value)(G:Gh)(h:Heap):Prop where
 kind:env.scope.kind=.function
 gl:env.globals=mainGlobals
 bl:env.builtins=builtinsNs
 above:Z.n₀<=env.locals
 own:G.own env.locals=none
 loc:∃o,h.get? env.locals=some o/\o.cls≠.none
 ns:h.Ns env.locals m
structure PFn(K:Frag)(a:Addr)(fd:FuncData):Prop where
 at_:∃o,K.lookup a=some o/\o.data=.func fd
 code:codeIn K fd.code fd.qualname=true
 gl:fd.globals=mainGlobals
 bl:fd.builtins=builtinsNs
 co:fd.scope.isCoroutine=false
 gen:fd.scope.isGenerator=false
 kind:fd.scope.kind=.function
theorem bz.keep(F:bz Z env m G s.heap)(S:aK fp G s G' s')(hn:env.locals∉fp):bz Z env m G' s'.heap:=by obtain⟨o,e,hc⟩:=F.loc;obtain⟨e',ow⟩:=S.keep _ _ e F.own hn (.inl hc);exact{F with own:=ow,loc:=⟨o,e',hc⟩,ns:=F.ns.at λo' e2=>by rw[e]at e2;cases e2;exact e'}
theorem bz.keepE(F:bz Z env m G s.heap)(S:aK [] G s G' s'):bz Z env m G' s'.heap:=F.keep S λh=>nomatch h
theorem bz.name(F:bz Z env m G s.heap){v:Value}(hx:env.kindOf x=some .local)(hm:m x=some v)(q:Q v s)(hd:(x==("__debug__":Str))=false:=by decide):wpAny M A (eval (.Name x pos) env) Q E s:=
 wpAny_Name (wpAny_loadName_local F.kind hx F.ns hm q) hd
theorem bz.store(F:bz Z env m G s.heap)(I:Inv Z s G V){v:Value}{Q:Unit->Shared->Prop}(hx:env.kindOf x=some .local) (q:∀LK,Inv Z LK G V->aK [env.locals] G s G LK->bz Z env (λy=>if y=x then some v else m y) G LK.heap->Heap.SameBut env.locals s.heap LK.heap->Q () LK):wpAny (model prog w) A (storeName env x v) Q E s:=by obtain⟨o,e,hc⟩:=F.loc;rw[storeName_local hx (by rw[F.kind];rfl)];refine j5 e F.ns λh' o' e' ec hn' hs=>?_;refine q {s with heap:=h',toks:=s.toks+1} (I.aside (s':={s with heap:=h',toks:=s.toks+1}) F.own F.above hs.extBut rfl (Nat.le_trans I.tok (le_succ _))) (aK.aside (s':={s with heap:=h',toks:=s.toks+1}) hs.extBut rfl rfl (mem_cons_self ..)) {F with loc:=⟨o',e',by rw[ec];exact hc⟩,ns:=hn'} hs
noncomputable def jQ:(Str->Option Value)->List (Str×Value)->Str->Option Value
 |m,[]=>m
 |m,b::r=>jQ (λy=>if y=b.1 then some b.2 else m y) r
theorem zO(f:Str×Value->PUnit->Sem (ForInStep PUnit))(hf:∀x v u,f (x,v) u=(do storeName env x v;pure (.yield ⟨⟩)))(hk:env.scope.kind=.function){Q:PUnit->Shared->Prop}:∀{binds:List (Str×Value)} {s:Shared} {m:Str->Option Value} {o:Obj},(∀x∈binds,env.kindOf x.1=some .local)->s.heap.get? env.locals=some o->s.heap.Ns env.locals m->(∀h' o' t,s.toks<=t->h'.get? env.locals=some o'->o'.cls=o.cls->h'.Ns env.locals (jQ m binds)->Heap.SameBut env.locals s.heap h'->Q PUnit.unit {s with heap:=h',toks:=t})->wpAny (model prog w) A (forIn binds PUnit.unit f) Q E s:=by
 intro binds;induction binds with
 |nil=>intro s m o _ e hn q;exact wpAny_pure (q s.heap o s.toks (le_refl _) e rfl hn ⟨rfl,λ_ _=>rfl⟩)
 |cons b r ih=>
  intro s m o hl e hn q;rw[forIn_cons,hf];refine wpAny_bind (wpAny_bind ?_);rw[storeName_local (hl b (mem_cons_self ..)) (by rw[hk];rfl)];refine j5 e hn λh' o' e' ec hn' hs=>wpAny_pure ?_;exact ih (s:={s with heap:=h',toks:=s.toks+1}) (λx hx=>hl x (mem_cons_of_mem _ hx)) e' hn' λh'' o'' t ht e'' ec' hn'' hs'=>
   q h'' o'' t (Nat.le_trans (le_succ _) ht) e'' (ec'.trans ec) hn'' ⟨hs'.1.trans hs.1,λx hx=>(hs'.2 x hx).trans (hs.2 x hx)⟩
theorem PFn.call{P:Gh->Shared->Value->Prop}(F:PFn K a fd)(I:Inv (ai X t₀) s G V)(hd:A.depth<recursionLimit)(hbody:fd.body=.stmts body) (hbind:BindsTo s fd ⟨vals,[]⟩ binds)(hcell:∀x∈fd.scope.names,x.2≠.cell)(hloc:∀x∈binds,fd.scope.names.lookup x.1=some .local) (h:∀LK,Inv (ai X t₀) LK G V->(∀b o,s.heap.get? b=some o->LK.heap.get? b=some o)->bz (ai X t₀) (callEnv fd s.heap.objs.size a) (jQ (λ_=>none) binds) G LK.heap->Run (ai X t₀) prog w (A.deeper (callEnv fd s.heap.objs.size a)) [s.heap.objs.size] G LK (execs body (callEnv fd s.heap.objs.size a)) V' (λG' s' fl=>P G' s' (match fl with| .ret v=>v|_=>.none))):jm (ai X t₀) prog w A G s (.call (.ref a) ⟨vals,[]⟩) V' P:=by intro Q E q;obtain⟨o,ho,hdata⟩:=F.at_;have hK:K.In s.heap:=I.top.1;refine codeAny_call_function hd (hK _ _ ho) hdata F.co F.gen hbody (codeRec_of hK F.code) (hbind _ _ _ _ ?_);simp-iota only[newFunctionEnv,isSome_none,false_eq_true,if_false];refine wpAny_bind (wpAny_alloc ?_);rw[forIn_yield_id fd.closure (λx hx c=>by obtain⟨name,kind⟩:=x;have:=hcell _ hx;cases kind<;>first|rfl|exact absurd rfl this)];refine wpAny_bind (wpAny_pure (wpAny_bind ?_));have hno:s.heap.get? s.heap.objs.size=none:=bb (le_refl _);have eL:(s.heap.push {cls:=.type "frame",data:=.dict #[]}).get? s.heap.objs.size=some {cls:=.type "frame",data:=.dict #[]}:=Heap.get?_push_size _ rfl;refine zO (env:=callEnv fd s.heap.objs.size a) _ (λ_ _ _=>rfl) F.kind hloc eL ⟨_,#[],0,eL,rfl,λ_ he=>by simp at he,λ_=>rfl⟩ λh' o' t ht e' ec hn' hs=>wpAny_pure ?_;have hk:∀b o,s.heap.get? b=some o->h'.get? b=some o:=λb o e=>(hs.2 b (ne_of_lt (lt_size e))).trans (Heap.get?_push_of_some _ e);have I₁:Inv (ai X t₀) {s with heap:=h',toks:=t} G V:=I.kept ht hk;have S1:aK [s.heap.objs.size] G s G {s with heap:=h',toks:=t}:=aK.kept hk;refine⟨X.noLim I₁.top.1,codeAny_func ?_⟩;have FF:bz (ai X t₀) (callEnv fd s.heap.objs.size a) (jQ (λ_=>none) binds) G h':=⟨F.kind,F.gl,F.bl,I.above,I.fresh _ hno,⟨o',e',by rw[ec];exact λh=>nomatch h⟩,hn'⟩;refine h {s with heap:=h',toks:=t} I₁ hk FF _ _ λfl LL G₂ I₂ S2 r=>?_;exact q _ _ _ I₂ ((S1.trans S2).cut λb hb=>.inr (by rw[mem_singleton.mp hb];exact hno)) r
theorem AccAt.put(J:AccAt K s.heap G r a C dx fs xs vs n)(I:Inv Z s G V)(hr:V[r]?=some (.acc C fs xs))(ht:s.toks<=t)(hs:Heap.SameBut a s.heap h')(g:h'.get? a=some (dn C dx vs' n'))(rr:aC G.ad vs' xs')(hl:xs'.length<=lim):Inv Z {s with heap:=h',toks:=t} G (V.set r (.acc C fs xs'))/\aK fp G s G {s with heap:=h',toks:=t}:=by refine⟨I.change (s':={s with heap:=h',toks:=t}) hr J.own hs ⟨_,g⟩ (λb hb=>?_) rfl (Nat.le_trans I.tok ht),aK.change (s':={s with heap:=h',toks:=t}) J.own hs rfl rfl⟩;obtain rfl:a=b:=Option.some.inj (J.ad.symm.trans hb);obtain⟨_,_,ox,vs0,n₁,hd,hsl,⟨e,ec,d,mA,ed,ne,ns,ow,ff⟩,_⟩:=I.at hr hb;have eo:ox=dn C dx vs n:=Option.some.inj (e.symm.trans J.at_);subst eo;obtain rfl:dx=d:=Option.some.inj ed;exact⟨hl,dn C dx vs' n',vs',n',rfl,rfl,⟨g,rfl,dx,mA,rfl,ne,ns.sameBut hs ne,ow,ff⟩,rr⟩
theorem AccAt.inst'(J:AccAt K s.heap G r a C dx fs xs vs n)(hx:fs.lookup x=none):∃od,InstAt s.heap a (dn C dx vs n) C (some od)/\shadowIn (some od) x=some false:=by obtain⟨ox,dx',od',es,n',mA,I,hdx,_,_,_,_,hlk,hfs,_⟩:=J.iat.at_;have ff:=hfs x;rw[hx]at ff;have:ox=dn C dx vs n:=Option.some.inj (I.at_.symm.trans J.at_);subst this;exact⟨od',I,by unfold shadowIn;dsimp only;rw[hlk x,ff];rfl⟩
theorem AccAt.keep{V1:aI}(J:AccAt K s.heap G r a C dx fs xs vs n)(I':Inv (ai X t₀) s' G' V1)(S:aK fp G s G' s')(hr:V1[r]?=some (.acc C fs xs))(hC:(C,("_Accumulator":Str))∈W.clss):∃dx vs n,AccAt K s'.heap G' r a C dx fs xs vs n:=by obtain⟨a',dx',vs',n',e,J'⟩:=I'.accAt X hr hC (ov:=.ref a) ⟨a,bD S.ad J.ad,rfl⟩;cases e;exact⟨dx',vs',n',J'⟩
namespace LF
theorem kind_append:builtinKind "list.append"=some .method:=by decide+kernel
theorem split_append:splitId "list.append"=some ("list","append"):=by decide+kernel
theorem type_append:pureOf (fastBuiltinType "list.append")=some (.type "method_descriptor"):=by kernel_rfl
end LF
theorem fb{o:Expr}{name:Str}{apos:Pos}{args:List Expr}(hs:aH o=true)(hline:apos.endLine=pos.line)(hlen:args.length<20)(h1:(backTo pos (starEach args env)).all (!·.1)=true) (h:wpAny (model prog w) A (eval o env) (λov LK=>∀pl,wpAny (model prog w) A (getMethod ov name pl) (λx LL=>wpAny (model prog w) A (callWith pos x.1 x.2 (backTo pos (starEach args env)) []) Q E LL) E LK) E s):wpAny (model prog w) A (eval (.Call (.Attribute o name apos) args [] pos) env) Q E s:=by
 have hform:methodCallForm (args.length+([]:List Keyword).length) (backTo pos (starEach args env)) []=true:=by unfold methodCallForm;rw[h1];simp;lia
 have hpos:methodCallPos true o env apos pos=pure pos:=by unfold methodCallPos;simp[hline]
 rw[arm_eval_Call,fD hs,lv];refine wpAny_bind (wpAny_mono h (λov LK h=>wpAny_bind (wpAny_standAt ?_)) λ_ _ e=>e);unfold methodCall;rw[hform,hpos];exact wpAny_bind (wpAny_holding (wpAny_mono (h _) (λx LL h=>wpAny_bind (wpAny_pure h)) λ_ _ e=>e))
theorem ue{x:Value}(I:Inv (ai X t₀) s G V)(J:AccAt K s.heap G r a C dx fs xs vs n)(hr:V[r]?=some (.acc C fs xs))(hl:xs.length<=1000)(rv:az G.ad x v) (q:∀h',Inv (ai X t₀) {s with heap:=h'} G (V.set r (.acc C fs (xs++[v])))->aK fp G s G {s with heap:=h'}->Q .none {s with heap:=h'}):wpAny (model prog w) A (call (.builtin "list.append") [.ref a,x]) Q E s:=by
 have hn:=J.reps.length;refine wpAny_call (fu I.top.1 J (.inr LF.kind_append) LF.split_append slot_list_append.plain entry_list_append (args_list_append _ _) ?_);refine(?_:wpAny _ _ (updateSeq a (·.push x)>>=λ_=>ret .none) _ _ s);refine wpAny_bind (wpAny_updateSeq J.at_ rfl ?_ (by rw[size_toArray,sizeLine_eq];lia) (by rw[Array.size_push,size_toArray,sizeLine_eq];lia));have e:Obj.mapSeq (·.push x) (dn C dx vs n)=dn C dx (vs++[x]) (n+1):=by simp[Obj.mapSeq,dn]
 have g:=Heap.get?_update_self (Obj.mapSeq (·.push x)) J.at_ (by rw[e];rfl);rw[e]at g;obtain⟨I',S'⟩:=J.put (fp:=fp) (t:=s.toks) I hr (le_refl _) (Heap.SameBut.update ..) g (J.reps.append (.one rv)) (by rw[List.length_append,length_singleton];have:lim=1000000:=rfl;(exact lt_of_le_of_lt (by assumption) (by decide)));exact wpAny_pure (q _ I' S')
theorem ke{α:Type}{l l':List α}(h:l<+:l'){a:α}(e:l[i]?=some a):l'[i]?=some a:=by obtain⟨t,rfl⟩:=h;have:i<l.length:=(List.getElem?_eq_some_iff.mp e).1;rw[List.getElem?_append_left this];exact e
theorem a0{l:List (Str×NameKind)}(hs:fd.scope.names=l){k:NameKind}(h:l.lookup x=some k):(callEnv fd L a).kindOf x=some k:=by refine(?_:fd.scope.names.lookup x=some k);rw[hs];exact h
theorem fZ(F:bz Z env m G s.heap):interactive env=false:=by unfold interactive;rw[F.kind];rfl
theorem xh(F:PFn K f fd)(hb:fd.body=.stmts [.Expr (.Call (.Attribute (.Name "self" ⟨128,8,128,12⟩) "append" ⟨128,8,128,19⟩) [.Tuple [.Name "fws" ⟨128,21,128,24⟩,.Name "string" ⟨128,26,128,32⟩] 0 ⟨128,20,128,33⟩] [] ⟨128,8,128,34⟩) ⟨128,8,128,34⟩]) (hs:fd.scope.names=[(Str.ofString "self",NameKind.local),(Str.ofString "fws",NameKind.local),(Str.ofString "string",NameKind.local)])(hp:(⟨128,8,128,19⟩:Pos).endLine=(⟨128,8,128,34⟩:Pos).line)(hbind:∀x y z,bindArgs fd ⟨[x,y,z],[]⟩=pure [(Str.ofString "self",x),(Str.ofString "fws",y),(Str.ofString "string",z)]) (h:nr W as V=some (v,V'))(I:Inv (ai X t₀) s G V)(rv:aC G.ad vs as)(hA:aL 10 A):jm (ai X t₀) prog w A G s (.call (.ref f) ⟨vs,[]⟩) V' (bj v):=by
 refine dN h rv λa r _ x _ ea ra ev rv h=>dN h rv λb Mr _ y _ eb rb ev2 rv h=>dN h rv λc Mw _ z _ ec rc ev3 rv h=>?_;obtain⟨rfl,h⟩:=kS h rv;obtain rfl:=b8 ea;obtain rfl:=dS eb;obtain rfl:=dS ec;subst ev3 ev2 ev
 ·
  obtain⟨⟨C,fs,xs⟩,V1,h1,h⟩:=bt h;refine aM h1 λo hr h1=>?_;cases o with
  |acc C' fs' xs'=>
   refine ag h1 λhC h1=>?_;obtain⟨e,rfl⟩:=af h1;cases(e);have hC:=d9 (of_decide_eq_true hC);refine ag h λhl h=>?_;obtain⟨hl,hsh⟩:=and_eq_true_iff.mp hl;have hl:=of_decide_eq_true hl;have h:=k8 h;obtain⟨hlt,h⟩:=fU h;obtain⟨rfl,rfl⟩:=af h
   ·
      refine F.call (X:=X) I (by have:=hA.2.1;(exact lt_of_le_of_lt (le_add_right ..) (by assumption))) hb (BindsTo.of_eq (hbind x y z)) (by rw[hs];decide) (by rw[hs];intro b hb';simp only[mem_cons,not_mem_nil,or_false]at hb';rcases hb' with rfl|rfl|rfl<;>rfl) λLK I₁ hk FF=>?_;intro Q E q;obtain⟨a,dx,vs,n,rfl,J⟩:=I₁.accAt X hr hC ra;obtain⟨od,J',hshadow⟩:=J.inst' (x:=Str.ofString "append") (isNone_iff_eq_none.mp hsh);refine wpAny_execs_cons (wpAny_Expr_any ?_ (fZ FF) rfl);refine fb rfl hp (le_of_ble_eq_true rfl) rfl (FF.name (a0 hs rfl) rfl λpl=>?_);have hf:findIn K (.ref C) "append"=some (some (.builtin "list.append")):=J.cls.names (Str.ofString "append","list.append") (by decide);refine o4 I₁.top.1 J' J.cls.ga LF.canon_ga J.cls.hook hf LF.type_append (by decide+kernel) hshadow ?_;refine Calls.callWith_builtin rfl (Calls.evalArgs_plain (Calls.spliced_cons ?_));rw[arm_eval_Tuple];refine wpAny_bind (wpAny_standAt (wpAny_bind (Calls.spliced_cons (FF.name (a0 hs rfl) rfl (Calls.spliced_cons (FF.name (a0 hs rfl) rfl (Calls.spliced_nil ?_)))))));refine fG (fp:=[]) (xs:=[.str Mr,.str Mw]) I₁ (.cons rb (.cons rc .nil)) (le_of_ble_eq_true rfl) _ E λt LL G₂ I₂ S2 rt=>Calls.spliced_nil ?_;have hr2:(V++[PO.tup [.str Mr,.str Mw]])[r]?=some (.acc C fs xs):=ke ⟨_,rfl⟩ hr;obtain⟨dx2,vs2,n₂,J₂⟩:=J.keep (X:=X) I₂ S2 hr2 hC;refine ue (fp:=[]) I₂ J₂ hr2 hl rt λh' I₃ S3=>?_;exact wpAny_execs_nil (q _ _ _ I₃ (S2.nil.trans S3.nil) rfl)
  |_=>cases h1
noncomputable abbrev F6(a b c:Value):Obj:={cls:=.type "super",data:=.fields #[a,b,c]}
section
variable {g:Array GenState}{d:Drawn}{os:OsState}
theorem s7{x:Addr}{Q:Bool->Shared->Prop}(hx:h.get? x=some (dn C dx vs n))(hq:Q false ⟨h,g,d,t,os⟩):wpAny M A (isType (.ref x)) Q E ⟨h,g,d,t,os⟩:=ks_wpAny_isType_inst hx (λ_=>nofun) hq
theorem um{D x:Addr}{oD:Obj}{cdD:ClassData}(hD:h.get? D=some oD)(hDt:oD.data=.cls cdD)(hx:h.get? x=some (dn C dx vs n)) (hsub:Looks (model prog w) h (isSubtype (.ref C) (.ref D)) true) (hq:∀h',h'.get? h.objs.size=some (F6 (.ref D) (.ref x) (.ref C))->(∀y o,h.get? y=some o->h'.get? y=some o)->Q (.ref h.objs.size) ⟨h',g,d,t,os⟩):wpAny (model prog w) A (call (.type "super") [.ref D,.ref x]) Q E ⟨h,g,d,t,os⟩:=ks_wpAny_call_super hD hDt hx rfl (λ_=>nofun) hsub hq
end
structure rO(name:Str)(id T getId B:String):Prop where
 own:fastBuiltinOwn "list" name=some (.builtin id)
 typ:pureOf (fastBuiltinType id)=some (.type T)
 get:fastLookup T "__get__"=some (some (.builtin getId))
 call:∀{prog:Program} {w:World} {A:Around} {R:PySem.Result->Shared->Prop} {s:Shared} {x C:Addr},Looks (model prog w) s.heap (isInstance (.ref x) (.type "list")) true->R (.ok (.ret (.ref s.heap.objs.size))) {s with heap:=s.heap.push {cls:=.type B,data:=.fields #[.builtin id,.ref x]}}->codeAny (model prog w) A (.call (.builtin getId) ⟨[.builtin id,.ref x,.ref C],[]⟩) R s
theorem DQ{so x:Addr}{name:Str}{id T getId B:String}{pl:Sem Bool}{Q:Value×List Value->Shared->Prop}(hK:K.In s.heap)(O:Ba K C)(hst:nsIn K cStatics "thirdparty.any"=some none) (hso:s.heap.get? so=some (F6 (.ref C) (.ref x) (.ref C)))(hx:s.heap.get? x=some (dn C dx vs n))(hxC:x≠C)(hn:(name==("__class__":Str))=false)(Bd:rO name id T getId B) (hq:Q (.ref s.heap.objs.size,[]) {s with heap:=s.heap.push {cls:=.type B,data:=.fields #[.builtin id,.ref x]},toks:=s.toks+1}):wpAny (model prog w) A (getMethod (.ref so) name pl) Q E s:=by
 obtain⟨h,g,d,t,os⟩:=s;dsimp only at hK hso hx hq;have hlk:=F.ks_slot_super_ga.lookup;have hcan:=F.ks_canon_super_ga;have hT:∀t',(⟨h,g,d,t',os⟩:Shared).TypeIs (.ref so) "super":=λ_=>⟨_,hso,rfl⟩;unfold getMethod;refine wpAny_bind (wpAny_specialOf (hT _) hlk ?_);show wpAny _ _ (if(Manifest.canonical "super.__getattribute__" !="object.__getattribute__")=true then _ else _) _ _ _;rw[if_pos hcan];unfold getAttr getAttrBy;refine wpAny_bind (wpAny_bind (wpAny_mkText (wpAny_holding (wpAny_bind (wpAny_typeOf (hT _) (wpAny_bind (wpAny_of_eq hlk ?_)))))));refine(?_:wpAny _ _ (getAttrByItsOwn (.ref so) (.str name t) (.type "super") (.builtin "super.__getattribute__") true false) _ _ _);unfold getAttrByItsOwn hookBefore callGetattribute boundAndCalled;refine wpAny_bind (wpAny_of_eq (show(if onTheHeap (.type "super")then typeLookup (.type "super") "__getattr__"else pure none)=pure none from rfl) ?_);refine wpAny_bind (wpAny_attempt (wpAny_holding ?_));refine(?_:wpAny _ _ (bindSpecial (.builtin "super.__getattribute__") (.ref so)>>=_) _ _ _);refine wpAny_bind (wpAny_of_eq (F.ks_slot_super_ga.bind _) ?_);refine wpAny_mono (Q:=λv s'=>v=.ref h.objs.size/\s'=⟨h.push {cls:=.type B,data:=.fields #[.builtin id,.ref x]},g,d,t+1,os⟩) (E:=λ_ _=>False) (wpAny_call_entry F.ks_slot_super_ga (hT _) F.ks_entry_super_ga ?_ (F.ks_gaArgs_super _ _)) (λv s' hv=>?_) λ_ _ z=>z.elim
 ·have hne:(Value.ref x==Value.ref C)=false:=by simp[hxC]
  have f0:(#[.ref C,.ref x,.ref C]:Array Value)[0]?=some (.ref C):=rfl;have f1:(#[.ref C,.ref x,.ref C]:Array Value)[1]?=some (.ref x):=rfl;have f2:(#[.ref C,.ref x,.ref C]:Array Value)[2]?=some (.ref C):=rfl;have hdt:(F6 (.ref C) (.ref x) (.ref C)).data=.fields #[.ref C,.ref x,.ref C]:=rfl;have hno:=looks_opaque (M:=model prog w) (C:=C) hK hst;obtain⟨cd,hcd,_,hm⟩:=O.cd;have hmr:Looks (model prog w) h (mroOf (.ref C)) [.ref C,.type "list",.type "object"]:=by have:=(looks_clsIn (M:=model prog w) hK hcd).andThen (f:=λcd=>pure cd.mro) (b:=cd.mro) .now;rw[hm]at this;exact this
  have T0:Looks (model prog w) h (typeOf (.ref x)) (.ref C):=(Looks.ld hx).andThen .now;have Lx:Looks (model prog w) h (isInstance (.ref x) (.type "list")) true:=T0.andThen (looks_mroIn hK O.list);unfold Builtin.«super.__getattribute__»;refine wpAny_bind (wpAny_pure ?_);refine wpAny_bind (wpAny_pure ?_);have L1:Looks (model prog w) h (classOwn (.type "list") name) (some (.builtin id)):=looks_ownIn hK (show ownIn K name (.type "list")=some (some (.builtin id))from congrArg some Bd.own);have L2:Looks (model prog w) h (typeOf (.builtin id)) (.type T):=looks_typeIn hK Bd.typ;have L3:Looks (model prog w) h (typeLookup (.type T) "__get__") (some (.builtin getId)):=looks_findIn hK Bd.get;dsimp only;refine wpAny_bind (wpAny_field hso hdt f0 (wpAny_bind (wpAny_field hso hdt f1 (wpAny_bind (wpAny_field hso hdt f2 ?_)))));rw[if_neg (show¬((Value.ref C==Value.none||name==Str.ofString "__class__")=true)from by rw[hn];simp)];refine wpAny_bind ?_;unfold notOfAnOpaqueClass;refine wpAny_bind (hno.at (wpAny_pure ?_));rw[if_neg (show¬((Value.ref C==Value.type "module")=true)from by simp)];refine wpAny_bind (hmr.at ?_);rw[show List.drop 1 (List.dropWhile (λz=>z !=Value.ref C) [Value.ref C,Value.type "list",Value.type "object"])=[Value.type "list",Value.type "object"]from by simp];refine wpAny_bind ?_;rw[forIn_cons];refine wpAny_bind (wpAny_bind (L1.at ?_));dsimp only;refine wpAny_bind (L2.at (wpAny_bind (L3.at ?_)));dsimp only;rw[hne,if_neg (by decide)];refine wpAny_bind (wpAny_holding (wpAny_call (Bd.call (s:=⟨h,g,d,t+1,os⟩) Lx ?_)));exact wpAny_bind (wpAny_pure (wpAny_pure (wpAny_pure (wpAny_pure ⟨_,rfl,rfl,rfl⟩))))
 ·obtain⟨rfl,rfl⟩:=hv;exact wpAny_pure (wpAny_pure hq)
namespace SF
theorem wd:Slot "wrapper_descriptor" "__get__" "wrapper_descriptor.__get__":= .of (owner:="wrapper_descriptor") (n:="__get__") (by rw[typeLookup_type,builtinLookup_eq_fast];kernel_rfl) (by decide+kernel) (by decide+kernel) (by decide+kernel) (.inl (by decide+kernel)) (by rw[isSubtype_type];kernel_rfl)
theorem wd_entry:entryFor table "wrapper_descriptor.__get__"=some Builtin.«wrapper_descriptor.__get__»:=entryFor_of_tree (by kernel_rfl)
theorem wd_args(a b c:Value):argsOk "wrapper_descriptor.__get__" ⟨[a,b,c],[]⟩:=by unfold argsOk;kernel_rfl
theorem md:Slot "method_descriptor" "__get__" "method_descriptor.__get__":= .of (owner:="method_descriptor") (n:="__get__") (by rw[typeLookup_type,builtinLookup_eq_fast];kernel_rfl) (by decide+kernel) (by decide+kernel) (by decide+kernel) (.inl (by decide+kernel)) (by rw[isSubtype_type];kernel_rfl)
theorem md_entry:entryFor table "method_descriptor.__get__"=some Builtin.«method_descriptor.__get__»:=entryFor_of_tree (by kernel_rfl)
theorem md_args(a b c:Value):argsOk "method_descriptor.__get__" ⟨[a,b,c],[]⟩:=by unfold argsOk;kernel_rfl
theorem type_of{id T:String}(h:pureOf (fastBuiltinType id)=some (.type T)):typeOf (.builtin id)=pure (.type T):=by refine(?_:builtinType id=_);rw[builtinType_eq_fast];exact of_pureOf h
end SF
section
variable {x:Addr}
theorem u7{id:String}(hT:pureOf (fastBuiltinType id)=some (.type "wrapper_descriptor"))(e:".".intercalate (id.cutAt '.').dropLast="list")(L:Looks (model prog w) s.heap (isInstance (.ref x) (.type "list")) true) (q:R (.ok (.ret (.ref s.heap.objs.size))) {s with heap:=s.heap.push {cls:=.type "method-wrapper",data:=.fields #[.builtin id,.ref x]}}):codeAny (model prog w) A (.call (.builtin "wrapper_descriptor.__get__") ⟨[.builtin id,.ref x,.ref C],[]⟩) R s:=by
 obtain⟨h,g,d,t,os⟩:=s;refine codeAny_call_builtin SF.wd.plain SF.wd_entry (SF.wd.check _ _ _ _ _ _ _ _ (SF.type_of hT) (SF.wd_args _ _ _) ?_);rw[<-e]at L;unfold Builtin.«wrapper_descriptor.__get__»
 repeat lk
 exact q
theorem C1{id:String}(hT:pureOf (fastBuiltinType id)=some (.type "method_descriptor"))(e:".".intercalate (id.cutAt '.').dropLast="list")(ht:Manifest.toldItsClass.contains id=false)(L:Looks (model prog w) s.heap (isInstance (.ref x) (.type "list")) true) (q:R (.ok (.ret (.ref s.heap.objs.size))) {s with heap:=s.heap.push {cls:=.type "builtin_function_or_method",data:=.fields #[.builtin id,.ref x]}}):codeAny (model prog w) A (.call (.builtin "method_descriptor.__get__") ⟨[.builtin id,.ref x,.ref C],[]⟩) R s:=by
 obtain⟨h,g,d,t,os⟩:=s;refine codeAny_call_builtin SF.md.plain SF.md_entry (SF.md.check _ _ _ _ _ _ _ _ (SF.type_of hT) (SF.md_args _ _ _) ?_);rw[<-e]at L;unfold Builtin.«method_descriptor.__get__»
 repeat(first|rw[ht,if_neg (by decide)]|lk)
 exact q
end
theorem Cv:".".intercalate ("list.__len__".cutAt '.').dropLast="list":=by decide+kernel
theorem Ax:".".intercalate ("list.__init__".cutAt '.').dropLast="list":=by decide+kernel
theorem BV:".".intercalate ("list.pop".cutAt '.').dropLast="list":=by decide+kernel
theorem wg:pureOf (fastBuiltinType "list.__len__")=some (.type "wrapper_descriptor"):=by kernel_rfl
theorem qr:pureOf (fastBuiltinType "list.__init__")=some (.type "wrapper_descriptor"):=by kernel_rfl
theorem wa:pureOf (fastBuiltinType "list.pop")=some (.type "method_descriptor"):=by kernel_rfl
theorem xl:rO "__len__" "list.__len__" "wrapper_descriptor" "wrapper_descriptor.__get__" "method-wrapper":=⟨by kernel_rfl,wg,by kernel_rfl,u7 wg Cv⟩
theorem sP:rO "__init__" "list.__init__" "wrapper_descriptor" "wrapper_descriptor.__get__" "method-wrapper":=⟨by kernel_rfl,qr,by kernel_rfl,u7 qr Ax⟩
theorem yc:rO "pop" "list.pop" "method_descriptor" "method_descriptor.__get__" "builtin_function_or_method":=⟨by kernel_rfl,wa,by kernel_rfl,C1 wa BV (by decide+kernel)⟩
section
variable {x:Addr}
theorem nB{id:String}{bi:Builtin}(hb:s.heap.get? b=some {cls:=.type "method-wrapper",data:=.fields #[.builtin id,.ref x]})(hk:builtinKind id=some .slot)(ha:argsOk id ⟨[.ref x],[]⟩)(hp:plainId id=true)(he:entryFor table id=some bi) (h:wpAny (model prog w) A.in1 (bi ⟨[.ref x],[]⟩) (λbn s'=>match bn with| .done (.ret v)=>Q v s'|_=>False) E s):wpAny (model prog w) A (call (.ref b) []) Q E s:=by
 refine wpAny_call (codeAny_of_tree ?_);refine(?_:wpAny _ _ (callAny (.ref b) _) _ _ _);unfold callAny;refine wpAny_bind (wpAny_load hb ?_);show wpAny _ _ (if(Value.type "method-wrapper" !=Value.type "method")=true then _ else _) _ _ _;rw[if_pos (by decide)];refine wpAny_bind ?_;have chk:checkBoundCall id ⟨[.ref x],[]⟩=pure ():=by
  unfold checkBoundCall;cases hsig:Manifest.signature? id with
  |none=>rfl
  |some sig=>
   simp only[argsOk,hsig]at ha
   try dsimp only
   rw[hk];exact ha
 refine(?_:wpAny _ _ (checkBoundCall id ⟨[.ref x],[]⟩) _ _ _);rw[chk];refine wpAny_pure (wpAny_pure ⟨plainId_quiet hp _,codeAny_builtin he ?_⟩);rw[Around.under_plainId hp _];refine wpAny_mono h (λbn s' z=>?_) λ_ _ z=>z;rcases bn with(_|_|_|_)|_<;>first|exact z|exact z.elim
end
namespace LF
theorem row_pop:Manifest.signature? "list.pop"=some ⟨.positional,"list.pop","pop",.self,[⟨"index",.posOnly,false⟩]⟩:=by kernel_rfl
theorem kind_pop:builtinKind "list.pop"=some .method:=by decide+kernel
theorem chk_pop(x:Addr):Bind.checkArgs "list.pop" ⟨.positional,s!"{("_Accumulator":Str).toString}.{Bind.lastOf "list.pop"}","pop",.self,[⟨"index",.posOnly,false⟩]⟩ ⟨[.ref x],[]⟩=pure ():=by kernel_rfl
theorem var_pop:Manifest.varargsMethods.contains "list.pop"=false:=by decide+kernel
theorem entry_pop:entryFor table "list.pop"=some Builtin.«list.pop»:=entryFor_of_tree (by kernel_rfl)
theorem plain_pop:plainId "list.pop"=true:=by decide+kernel
theorem boot_super:bootBuiltins "super"=some (.type "super"):=by kernel_rfl
end LF
structure kq(K:Frag)(prog:Program)(f C:Addr)(fd:FuncData):Prop extends PFn K f fd where
 clo:∃cc,fd.closure=[(Str.ofString "__class__",cc)]/\K.lookup cc=some {cls:=.type "cell",data:=.cell (some (.ref C))}
 codeAt:∃c oc vs file tf,fd.code=.ref c/\K.lookup c=some oc/\oc.data=.fields vs/\vs[2]?=some (.str file tf)/\((prog.main.file:Str)==file)=true
 top:(prog.main.scope.names.lookup ("super":Str)).isSome=false
 self:∃ar,(fd.params.posonlyargs++fd.params.args).head?=some ar/\ar.arg=Str.ofString "self"
 kSuper:fd.scope.names.lookup ("super":Str)=some .globalImplicit
 kClass:fd.scope.names.lookup ("__class__":Str)=some .free
 kSelf:fd.scope.names.lookup ("self":Str)=some .local
theorem yB(hK:K.In s.heap)(J:AccAt K s.heap G r a C dx fs xs vs n)(hb:s.heap.get? b=some {cls:=.type "builtin_function_or_method",data:=.fields #[.builtin "list.pop",.ref a]}) (h:wpAny (model prog w) A.in1 (Builtin.«list.pop» ⟨[.ref a],[]⟩) (λbn s'=>match bn with| .done (.ret v)=>Q v s'|_=>False) E s):wpAny (model prog w) A (call (.ref b) []) Q E s:=by
 refine wpAny_call (codeAny_of_tree ?_);refine(?_:wpAny _ _ (callAny (.ref b) _) _ _ _);unfold callAny;refine wpAny_bind (wpAny_load hb ?_);show wpAny _ _ (if(Value.type "builtin_function_or_method" !=Value.type "method")=true then _ else _) _ _ _;rw[if_pos (by decide)];refine wpAny_bind ?_;refine(?_:wpAny _ _ (checkBoundCall "list.pop" ⟨[.ref a],[]⟩) _ _ _);have bn:wpAny (model prog w) (A.under (.call (.ref b) ⟨[],[]⟩)) (again (.builtin "list.pop" ⟨[.ref a],[]⟩)) (λbn s'=>match bn with| .done f=>(match(.ok f:PySem.Result)with| .ok (.ret v)=>Q v s'| .ok _=>False| .error e=>E e s')| .again c'=>c'.quiet=true/\codeAny (model prog w) A c' (λr s'=>match r with| .ok (.ret v)=>Q v s'| .ok _=>False| .error e=>E e s') s') (λe s'=>E e s') s:=by refine wpAny_pure ⟨plainId_quiet LF.plain_pop _,codeAny_builtin LF.entry_pop ?_⟩;rw[Around.under_plainId LF.plain_pop _];refine wpAny_mono h (λbn s' z=>?_) λ_ _ z=>z;rcases bn with(_|_|_|_)|_<;>first|exact z|exact z.elim
 obtain⟨od,I⟩:=J.inst;obtain⟨cd,hcd,hq⟩:=J.cls.qual;have T:=I.type (M:=model prog w);have Lm:Looks (model prog w) s.heap (isInstance (.ref a) (.type "module")) false:=T.andThen (looks_mroIn hK (by rw[J.cls.mroIn];simp[qo]));obtain⟨hh,g,d,t,os⟩:=s;unfold checkBoundCall;rw[LF.row_pop,LF.kind_pop];dsimp only;rw[if_neg (by decide)];refine wpAny_bind (Lm.at ?_);rw[LF.var_pop];dsimp only;rw[if_neg (by decide)];refine wpAny_bind (s7 J.at_ ?_);rw[if_neg (by decide)];refine wpAny_bind (T.at ?_);dsimp only;refine wpAny_bind ((looks_clsIn hK hcd).at ?_);rw[hq];refine wpAny_bind ((looks_typeIn hK J.cls.typ).at ?_);rw[if_pos (by decide),LF.chk_pop];exact wpAny_pure bn
set_option tactic.hygienic true in
theorem iL{p0:Pos}{name:Str}{id T getId B:String}(S:kq K prog f C fd)(I:Inv (ai X t₀) s G V)(FF:bz (ai X t₀) (callEnv fd L f) m G s.heap)(J:AccAt K s.heap G r a C dx fs xs vs n) (hm:m ("self":Str)=some (.ref a))(hn:(name==("__class__":Str))=false)(hp:p2.endLine=p3.line)(Bd:rO name id T getId B)(hB:B="method-wrapper"∨B="builtin_function_or_method") (q:∀b h',(∀c o,s.heap.get? c=some o->h'.get? c=some o)->h'.get? b=some {cls:=.type B,data:=.fields #[.builtin id,.ref a]}->wpAny (model prog w) A (call (.ref b) []) Q E {s with heap:=h',toks:=s.toks+1}):PySem.wpAt (model prog w) A (.func body (callEnv fd L f)) (eval (.Call (.Attribute (.Call (.Name "super" p0) [] [] p1) name p2) [] [] p3) (callEnv fd L f)) Q E s:=by
 have hK:K.In s.heap:=I.top.1;obtain⟨cc,hclo,hcc⟩:=S.clo;obtain⟨c,oc,cvs,file,tf,hcode,hc,hcd,hfv,hfile⟩:=S.codeAt;obtain⟨ar,har,hself⟩:=S.self;obtain⟨of,hof,hofd⟩:=S.at_;obtain⟨cdC,hcC,_,hmro⟩:=J.cls.cd;obtain⟨oC,hoC,hoCd⟩:∃oC,s.heap.get? C=some oC/\oC.data=.cls cdC:=by
  unfold clsIn at hcC;split at hcC
  ·rename_i ho;cases hcC;exact⟨_,hK _ _ ho,rfl⟩
  ·cases hcC
 have hxC:a≠C:=λe=>by have:=J.at_;rw[e,hoC]at this;cases this;cases hoCd
 have hsub:Looks (model prog w) s.heap (isSubtype (.ref C) (.ref C)) true:=looks_mroIn hK (by rw[J.cls.mroIn];simp);obtain⟨mg,hmg⟩:=X.mainNs hK;obtain⟨_,⟨ob,mb,_,_,hmb,hboot⟩,_⟩:=I.top;rw[arm_eval_Call,lv];obtain⟨hh,g,d,t,os⟩:=s;refine PySem.wpAt_bind (ks_wpAt_super_base (f:=f) (cc:=c) S.kSuper S.kClass hn rfl (hK _ _ hof) hofd har hcode (hK _ _ hc) hcd hfv hfile S.top ?_);refine cr (env:=callEnv fd L f) S.kind S.kSuper (PySem.Calls.loadGlobal_builtin (env:=callEnv fd L f) (by rw[FF.gl];exact hmg) (mg_none_of hK hmg X.noSuper) (by rw[FF.bl];exact hmb) ((hboot _ (by decide)).trans LF.boot_super) ⟨rfl,?_⟩);refine wpAny_loadName_free (env:=callEnv fd L f) S.kind S.kClass (by show fd.closure.lookup _=_;rw[hclo];rfl) ⟨_,hK _ _ hcc,rfl⟩ ?_;rw[hself];refine wpAny_loadName_local (env:=callEnv fd L f) S.kind S.kSelf FF.ns hm ?_;refine ks_wpAny_isType_cls hoC hoCd ⟨rfl,um hoC hoCd J.at_ hsub λh' e k=>PySem.wpAt_of_wpAny (wpAny_bind (wpAny_standAt ?_))⟩;have hform:methodCallForm (([]:List Expr).length+([]:List Keyword).length) (backTo p3 (starEach [] (callEnv fd L f))) []=true:=rfl;have hpos:methodCallPos true (.Call (.Name "super" p0) [] [] p1) (callEnv fd L f) p2 p3=pure p3:=by unfold methodCallPos;simp[hp]
 unfold methodCall;rw[hform,hpos];refine wpAny_bind (wpAny_holding (DQ (hK.keeps k) J.cls X.third e (k _ _ J.at_) hxC hn Bd (wpAny_bind (wpAny_pure ?_))));have eb:(h'.push {cls:=.type B,data:=.fields #[.builtin id,.ref a]}).get? h'.objs.size=some {cls:=.type B,data:=.fields #[.builtin id,.ref a]}:=Heap.get?_push_size _ rfl;refine callWith_of (P:=λLZ=>LZ.get? h'.objs.size=some {cls:=.type B,data:=.fields #[.builtin id,.ref a]}) rfl (λLZ Ma=>⟨.machine,.inr (.inl rfl),?_⟩) (PySem.evalArgs_none ⟨eb,?_⟩)
 ·refine(Looks.ld (part:=none) Ma).andThen ?_;rcases hB with rfl|rfl<;>exact .now
 ·exact q _ _ (λc o e=>Heap.get?_push_of_some _ (k _ _ e)) eb
theorem PFn.callAt{P:Gh->Shared->Value->Prop}(F:PFn K a fd)(I:Inv (ai X t₀) s G V)(hd:A.depth<recursionLimit)(hbody:fd.body=.stmts body) (hbind:BindsTo s fd ⟨vals,[]⟩ binds)(hcell:∀x∈fd.scope.names,x.2≠.cell)(hloc:∀x∈binds,fd.scope.names.lookup x.1=some .local) (h:∀LK,Inv (ai X t₀) LK G V->(∀b o,s.heap.get? b=some o->LK.heap.get? b=some o)->bz (ai X t₀) (callEnv fd s.heap.objs.size a) (jQ (λ_=>none) binds) G LK.heap->∀(Q:Flow->Shared->Prop) (E:Value->Shared->Prop),(∀fl s' G',Inv (ai X t₀) s' G' V'->aK [s.heap.objs.size] G LK G' s'->P G' s' (match fl with| .ret v=>v|_=>.none)->Q fl s')->PySem.wpAt (model prog w) (A.deeper (callEnv fd s.heap.objs.size a)) (.func body (callEnv fd s.heap.objs.size a)) (execs body (callEnv fd s.heap.objs.size a)) Q E LK):jm (ai X t₀) prog w A G s (.call (.ref a) ⟨vals,[]⟩) V' P:=by intro Q E q;obtain⟨o,ho,hdata⟩:=F.at_;have hK:K.In s.heap:=I.top.1;refine codeAny_call_function hd (hK _ _ ho) hdata F.co F.gen hbody (codeRec_of hK F.code) (hbind _ _ _ _ ?_);simp-iota only[newFunctionEnv,isSome_none,false_eq_true,if_false];refine wpAny_bind (wpAny_alloc ?_);rw[forIn_yield_id fd.closure (λx hx c=>by obtain⟨name,kind⟩:=x;have:=hcell _ hx;cases kind<;>first|rfl|exact absurd rfl this)];refine wpAny_bind (wpAny_pure (wpAny_bind ?_));have hno:s.heap.get? s.heap.objs.size=none:=bb (le_refl _);have eL:(s.heap.push {cls:=.type "frame",data:=.dict #[]}).get? s.heap.objs.size=some {cls:=.type "frame",data:=.dict #[]}:=Heap.get?_push_size _ rfl;refine zO (env:=callEnv fd s.heap.objs.size a) _ (λ_ _ _=>rfl) F.kind hloc eL ⟨_,#[],0,eL,rfl,λ_ he=>by simp at he,λ_=>rfl⟩ λh' o' t ht e' ec hn' hs=>wpAny_pure ?_;have hk:∀b o,s.heap.get? b=some o->h'.get? b=some o:=λb o e=>(hs.2 b (ne_of_lt (lt_size e))).trans (Heap.get?_push_of_some _ e);have I₁:Inv (ai X t₀) {s with heap:=h',toks:=t} G V:=I.kept ht hk;have S1:aK [s.heap.objs.size] G s G {s with heap:=h',toks:=t}:=aK.kept hk;refine⟨X.noLim I₁.top.1,ks_codeAny_funcAt ?_⟩;have FF:bz (ai X t₀) (callEnv fd s.heap.objs.size a) (jQ (λ_=>none) binds) G h':=⟨F.kind,F.gl,F.bl,I.above,I.fresh _ hno,⟨o',e',by rw[ec];exact λh=>nomatch h⟩,hn'⟩;refine h {s with heap:=h',toks:=t} I₁ hk FF _ _ λfl LL G₂ I₂ S2 r=>?_;exact q _ _ _ I₂ ((S1.trans S2).cut λb hb=>.inr (by rw[mem_singleton.mp hb];exact hno)) r
namespace LF
theorem kind_len:builtinKind "list.__len__"=some .slot:=by decide+kernel
theorem kind_init:builtinKind "list.__init__"=some .slot:=by decide+kernel
theorem entry_len:entryFor table "list.__len__"=some Builtin.«list.__len__»:=entryFor_of_tree (by kernel_rfl)
theorem plain_len:plainId "list.__len__"=true:=by decide+kernel
theorem args_len(a:Value):argsOk "list.__len__" ⟨[a],[]⟩:=by unfold argsOk;kernel_rfl
theorem entry_init:entryFor table "list.__init__"=some Builtin.«list.__init__»:=entryFor_of_tree (by kernel_rfl)
theorem plain_init:plainId "list.__init__"=true:=by decide+kernel
theorem args_init(a:Value):argsOk "list.__init__" ⟨[a],[]⟩:=by unfold argsOk;kernel_rfl
end LF
theorem bM{o:Addr×List (Str×PV)×List PV}(h:c3 W r V=some (o,V')):V'=V/\V[r]?=some (.acc o.1 o.2.1 o.2.2)/\(o.1,("_Accumulator":Str))∈W.clss:=by
 refine aM h λob hr h=>?_;cases ob with
 |acc C fs xs=>refine ag h λhC h=>?_;obtain⟨rfl,rfl⟩:=af h;exact⟨rfl,hr,d9 (of_decide_eq_true hC)⟩
 |_=>first|exact(aQ h).elim|cases h
theorem tm(S:kq K prog f C fd)(hone:∀C',(C',("_Accumulator":Str))∈W.clss->C'=C)(hb:fd.body=.stmts [.Return (some (.Call (.Attribute (.Call (.Name ("super":Str) ⟨156,15,156,20⟩) [] [] ⟨156,15,156,22⟩) ("__len__":Str) ⟨156,15,156,30⟩) [] [] ⟨156,15,156,32⟩)) ⟨156,8,156,32⟩]) (hp:(⟨156,15,156,30⟩:Pos).endLine=(⟨156,15,156,32⟩:Pos).line)(hcell:∀x∈fd.scope.names,x.2≠.cell)(hbind:∀x,bindArgs fd ⟨[x],[]⟩=pure [(Str.ofString "self",x)]) (h:gv W as V=some (v,V'))(I:Inv (ai X t₀) s G V)(rv:aC G.ad vs as)(hA:A.depth<recursionLimit):jm (ai X t₀) prog w A G s (.call (.ref f) ⟨vs,[]⟩) V' (bj v):=by
 obtain⟨r,x,rfl,ra,h⟩:=fj h rv
 ·
  obtain⟨⟨C',fs,xs⟩,V1,h1,h2⟩:=bt h;clear h;obtain⟨rfl,hr,hC⟩:=bM h1;obtain rfl:=hone _ hC;refine ag h2 λhl h3=>?_;obtain⟨rfl,rfl⟩:=af h3;refine S.toPFn.callAt (X:=X) I hA hb (BindsTo.of_eq (hbind x)) hcell (by intro b hb';simp-iota only[mem_cons,not_mem_nil,or_false]at hb';rw[hb'];exact S.kSelf) λLK I₁ hk FF=>?_;intro Q E q;obtain⟨a,dx,vs,n,rfl,J⟩:=I₁.accAt X hr hC ra;refine ks_wpAt_execs_cons (ks_wpAt_Return_some (iL S I₁ FF J rfl rfl hp xl (.inl rfl) λb h' k e=>?_));have Ja:=k _ _ J.at_;refine nB (s:={LK with heap:=h',toks:=LK.toks+1}) e LF.kind_len (LF.args_len _) LF.plain_len LF.entry_len ?_;refine(?_:wpAny _ _ (seqSize a>>=λn=>retInt n) _ _ _);refine wpAny_bind ?_;unfold seqSize;refine wpAny_bind (wpAny_load Ja (wpAny_pure ?_));refine wpAny_bind (wpAny_mkInt (wpAny_pure ?_));have I₂:Inv (ai X t₀) {LK with heap:=h',toks:=LK.toks+1+1} G _:=I₁.kept (t:=LK.toks+1+1) (by lia) k;exact q _ _ G I₂ (aK.kept k) ⟨LK.toks+1,congrArg (λz:Nat=>Value.int (z:Int) (LK.toks+1)) (by rw[size_toArray,J.reps.length])⟩
theorem ng{Q:PySem.Fin->Shared->Prop}(I:Inv (ai X t₀) s G V)(J:AccAt K s.heap G r a C dx fs xs vs n)(hr:V[r]?=some (.acc C fs xs))(hl:xs.getLast?=some v) (q:∀s' y,Inv (ai X t₀) s' G (V.set r (.acc C fs xs.dropLast))->aK [] G s G s'->az G.ad y v->Q (.done (.ret y)) s'):wpAny (model prog w) A (Builtin.«list.pop» ⟨[.ref a],[]⟩) Q E s:=by
 have hn:=J.reps.length;have hlen:=J.len;have hx:xs.length=(xs.length-1)+1:=by
  cases xs with
  |nil=>cases hl
  |cons _ _=>simp
 have hlast:xs[xs.length-1]?=some v:=by rw[<-hl,List.getLast?_eq_getElem?]
 obtain⟨y,hy,ry⟩:=J.reps.get hlast;unfold Builtin.«list.pop»;refine wpAny_bind (wpAny_pure ?_);refine wpAny_bind (wpAny_pure ?_);show wpAny _ _ (if(!List.listFitsIndex (-1))=true then _ else _) _ _ _;rw[if_neg (by decide)];refine wpAny_bind ?_;refine(?_:wpAny _ _ (seqItems? (.ref a)>>=_) _ _ _);refine wpAny_bind (wpAny_seqItems J.at_ rfl (wpAny_pure ?_));have hsz:vs.toArray.size=xs.length:=by rw[size_toArray,hn]
 rw[if_neg (by intro h;have:=Array.isEmpty_iff_size_eq_zero.mp h;lia)];rw[seqIndex_neg (by decide) (by rw[hsz];lia),hsz,show((-1:Int)+(xs.length:Int)).toNat=xs.length-1 from by lia];have hy':vs.toArray[xs.length-1]?=some y:=by simpa using hy
 simp only[bind_some,hy',Option.map_some];refine(?_:wpAny _ _ (updateSeq a (λx=>x.eraseIdxIfInBounds (xs.length-1))>>=λ_=>ret y) _ _ _);have he:vs.toArray.eraseIdxIfInBounds (xs.length-1)=vs.dropLast.toArray:=by
  rw[<-hn];apply Array.ext';simp[Array.eraseIdxIfInBounds];split
  ·first|rfl|exact List.eraseIdx_length_sub_one|simp
  ·cases vs with
   |nil=>rfl
   |cons _ _=>simp at*
 have lim1:lim=1000000:=rfl;refine wpAny_bind (wpAny_updateSeq J.at_ rfl ?_ (by rw[hsz,sizeLine_eq];lia) (by rw[he,size_toArray,length_dropLast,sizeLine_eq];lia));have e:Obj.mapSeq (λx=>x.eraseIdxIfInBounds (xs.length-1)) (dn C dx vs n)=dn C dx vs.dropLast (if vs.dropLast.toArray.size==vs.toArray.size then n else n+1):=by refine(?_:(⟨_,_,.seq (vs.toArray.eraseIdxIfInBounds (xs.length-1)) _,_⟩:Obj)=_);simp only[he]
 have g:=Heap.get?_update_self (Obj.mapSeq (λx=>x.eraseIdxIfInBounds (xs.length-1))) J.at_ (by rw[e];rfl);rw[e]at g;have rr:aC G.ad vs.dropLast xs.dropLast:=by rw[List.dropLast_eq_take,List.dropLast_eq_take,hn];exact J.reps.take _
 obtain⟨I',S'⟩:=J.put (fp:=[]) (t:=s.toks) I hr (le_refl _) (Heap.SameBut.update ..) g rr (by rw[length_dropLast];lia);exact wpAny_pure (q _ y I' S' ry)
def Meets(X:eU K W n₀)(t₀:gI n₀)(prog:Program)(w:World)(f:Addr)(p:List PV->Mo PV)(lo:Nat):Prop:=∀{A:Around} {G:Gh} {s:Shared} {V V':aI} {as:List PV} {vs:List Value} {v:PV},p as V=some (v,V')->Inv (ai X t₀) s G V->aC G.ad vs as->A.handled=none->A.depth+lo<recursionLimit->A.units+20*lo<cLine->jm (ai X t₀) prog w A G s (.call (.ref f) ⟨vs,[]⟩) V' (bj v)
set_option tactic.hygienic true in
theorem xZ{name:Str}(I:Inv (ai X t₀) s G V)(FF:bz (ai X t₀) env m G s.heap)(J:AccAt K s.heap G r a C dx fs xs vs n)(hk:env.kindOf ("self":Str)=some .local)(hm:m ("self":Str)=some (.ref a))(hp:p2.endLine=p3.line) (hf:findIn K (.ref C) name=some (some (.ref f₂)))(ht:typeIn K (.ref f₂)=some (.type "function"))(hfd:PySem.W.fnIn K f₂=true)(hsh:fs.lookup name=none)(q:wpAny (model prog w) A (call (.ref f₂) [.ref a]) Q E s):wpAny (model prog w) A (eval (.Call (.Attribute (.Name ("self":Str) p1) name p2) [] [] p3) env) Q E s:=by
 obtain⟨od,J',hshadow⟩:=J.inst' hsh;refine fb rfl hp (le_of_ble_eq_true rfl) rfl (FF.name hk hm λpl=>?_);refine o4 I.top.1 J' J.cls.ga LF.canon_ga J.cls.hook hf ht (by decide+kernel) hshadow ?_;refine yL (PySem.evalArgs_none ⟨?_,q⟩);unfold PySem.W.fnIn at hfd;split at hfd
 ·rename_i e;exact⟨_,_,I.top.1 _ _ e,rfl⟩
 ·cases hfd
theorem z5(S:kq K prog f C fd)(hone:∀C',(C',("_Accumulator":Str))∈W.clss->C'=C) (hb:fd.body=.stmts [.If (.Compare (.Call (.Attribute (.Name ("self":Str) ⟨136,11,136,15⟩) ("part_count":Str) ⟨136,11,136,26⟩) [] [] ⟨136,11,136,28⟩) [.Eq] [.Constant (.int 0) 0 ⟨136,32,136,33⟩] ⟨136,11,136,33⟩) [.Return (some (.Tuple [.Constant (.str ("":Str)) 0 ⟨137,20,137,22⟩,.Constant (.str ("":Str)) 0 ⟨137,24,137,26⟩] 0 ⟨137,19,137,27⟩)) ⟨137,12,137,27⟩] [] ⟨136,8,137,27⟩,.Return (some (.Call (.Attribute (.Call (.Name ("super":Str) ⟨138,15,138,20⟩) [] [] ⟨138,15,138,22⟩) ("pop":Str) ⟨138,15,138,26⟩) [] [] ⟨138,15,138,28⟩)) ⟨138,8,138,28⟩]) (hp:(⟨138,15,138,26⟩:Pos).endLine=(⟨138,15,138,28⟩:Pos).line)(hq:(⟨136,11,136,26⟩:Pos).endLine=(⟨136,11,136,28⟩:Pos).line)(hcell:∀x∈fd.scope.names,x.2≠.cell)(hbind:∀x,bindArgs fd ⟨[x],[]⟩=pure [(Str.ofString "self",x)]) (hf:findIn K (.ref C) ("part_count":Str)=some (some (.ref f₂)))(ht:typeIn K (.ref f₂)=some (.type "function"))(hfd:PySem.W.fnIn K f₂=true)(HC:Meets X t₀ prog w f₂ (gv W) 1):Meets X t₀ prog w f (zB W) 4:=by
 intro A G s V V' as vs v h I rv hh hd hu;obtain⟨r,x,rfl,ra,h⟩:=fj h rv
 ·
  obtain⟨⟨C',fs,xs⟩,V1,h1,h2⟩:=bt h;clear h;obtain⟨rfl,hr,hC⟩:=bM h1;obtain rfl:=hone _ hC;refine ag h2 λhl h3=>?_;clear h2;obtain⟨hl,hsh⟩:=and_eq_true_iff.mp hl;refine S.toPFn.callAt (X:=X) I (by(exact lt_of_le_of_lt (le_add_right ..) (by assumption))) hb (BindsTo.of_eq (hbind x)) hcell (by intro b hb';simp only[mem_cons,not_mem_nil,or_false]at hb';rw[hb'];exact S.kSelf) λLK I₁ hk FF=>?_;intro Q E q;obtain⟨a,dx,vs,n,rfl,J⟩:=I₁.accAt X hr hC ra;have ra1:=ra;refine ks_wpAt_execs_cons (PySem.wpAt_of_wpAny (wpAny_If (wpAny_isTrue_Compare1 ?_)));refine xZ I₁ FF J S.kSelf rfl hq hf ht hfd (isNone_iff_eq_none.mp hsh) ?_;have hcnt:gv W [.ref r] V1=some (.int (xs.length:Int),V1):=by unfold gv;refine(?_:(c3 W r>>=_) V1=_);refine(?_:bd (c3 W r) _ V1=_);unfold bd;rw[h1];refine(?_:(must _>>=_) V1=_);refine(?_:bd (must _) _ V1=_);unfold bd must;rw[hl];rfl
  refine(HC (A:=A.deeper (callEnv fd s.heap.objs.size f)) hcnt I₁ (.one ra) hh (by show A.depth+1+1<_;(exact Nat.le_trans (le_succ _) (Nat.le_trans (le_succ _) (by assumption)))) (by show A.units+3+20*1<_;lia)).call _ E λy LL G₂ I₂ S2 ry=>?_;obtain⟨t,rfl⟩:=ry;refine wpAny_Constant_int ?_;have I₃:Inv (ai X t₀) {LL with toks:=LL.toks+1} G₂ V1:=I₂.toks (Nat.le_trans I₂.tok (le_succ _));have S3:aK [] G LK G₂ {LL with toks:=LL.toks+1}:=S2.trans aK.toks;refine fV (fp:=[]) (op:=.Eq) (a:=.int xs.length) (b:=.int 0) (v:=.bool (decide ((xs.length:Int)=0))) (V':=V1) rfl I₃ ⟨_,rfl⟩ ⟨_,rfl⟩ (by show A.units+3+4<_;lia) _ E λc LX G₄ I₄ S4 rc=>?_;refine bL (fp:=[]) (v:=.bool (decide ((xs.length:Int)=0))) (b:=decide ((xs.length:Int)=0)) (V':=V1) rfl I₄ rc _ E λb s₅ G₅ LV LY eb=>?_;have eb:b=decide ((xs.length:Int)=0):=eb;have S5':=S3.trans (S4.trans LY);have FF5:=FF.keepE S5';cases hxs:xs.getLast? with
  |none=>
   rw[hxs]at h3;have hx0:xs=[]:=List.getLast?_eq_none_iff.mp hxs;obtain⟨rfl,rfl⟩:=bJ h3;rw[eb,hx0];refine(?_:wpAny _ _ (execs _ _) _ _ _);refine wpAny_execs_cons (wpAny_Return_some ?_);rw[arm_eval_Tuple];refine wpAny_bind (wpAny_standAt (wpAny_bind (Calls.spliced_cons (wpAny_Constant_str (k:=0) (pos:=⟨137,20,137,22⟩) (Calls.spliced_cons (wpAny_Constant_str (k:=0) (pos:=⟨137,24,137,26⟩) (Calls.spliced_nil ?_)))))));have I₆:Inv (ai X t₀) {s₅ with toks:=s₅.toks+1+1} G₅ V1:=LV.toks (Nat.le_trans LV.tok (by lia));have S6:aK [] G LK G₅ {s₅ with toks:=s₅.toks+1+1}:=S5'.trans aK.toks;have es:strOk ("":Str)=true:=by decide
   refine fG (fp:=[]) (xs:=[.str ("":Str),.str ("":Str)]) I₆ (.cons ⟨⟨_,rfl⟩,es⟩ (.cons ⟨⟨_,rfl⟩,es⟩ .nil)) (le_of_ble_eq_true rfl) _ E λy s₇ G₇ I₇ S7 ry=>?_;exact q _ _ _ I₇ (S6.trans S7).nil ry
  |some v'=>
   rw[hxs]at h3;obtain⟨hlt,h4⟩:=fU h3;obtain⟨rfl,rfl⟩:=af h4;have hne:¬((xs.length:Int)=0):=λe=>by have:xs=[]:=List.eq_nil_of_length_eq_zero (by lia);rw[this]at hxs;cases hxs
   rw[eb,decide_eq_false hne];refine(?_:wpAny _ _ (execs [] _) _ _ _);refine wpAny_execs_nil ?_;obtain⟨dx5,vs5,Mu,J₅⟩:=J.keep (X:=X) LV S5' hr hC;refine ks_wpAt_execs_cons (ks_wpAt_Return_some (iL S LV FF5 J₅ rfl rfl hp yc (.inr rfl) λb h' k e=>?_));have I₆:Inv (ai X t₀) {s₅ with heap:=h',toks:=s₅.toks+1} G₅ V1:=LV.kept (le_succ _) k;have S6:aK [] G₅ s₅ G₅ {s₅ with heap:=h',toks:=s₅.toks+1}:=aK.kept k;obtain⟨dx6,vs6,n₆,J₆⟩:=J₅.keep (X:=X) I₆ S6 hr hC;refine yB (s:={s₅ with heap:=h',toks:=s₅.toks+1}) I₆.top.1 J₆ e (ng I₆ J₆ hr hxs λs₇ y I₇ S7 ry=>?_);exact q _ _ _ I₇ ((S5'.trans (S6.trans S7)).nil) ry
section
variable {u:Value}{lo hi:Option Int}
theorem kz{Q:Value×Value×Value->Shared->Prop}(gs:s.heap.get? sl=some (bw l u))(pl:gm l lo)(pu:gm u hi)(h:Q (rawPart lo,rawPart hi,rawPart none) s):wpAny (model prog w) A (Builtin.List.listSliceParts (.ref sl)) Q E s:=by rw[listSliceParts_eq];refine wpAny_bind (wpAny_field gs rfl (x:=.none) rfl (wpAny_bind (wpAny_listPart .none ?_)));rw[if_neg (show¬((rawPart none==rawInt 0)=true)from Bool.false_ne_true)];refine wpAny_bind (wpAny_field gs rfl (x:=l) rfl (wpAny_bind (wpAny_listPart pl.isPart ?_)));exact wpAny_bind (wpAny_field gs rfl (x:=u) rfl (wpAny_bind (wpAny_listPart pu.isPart (wpAny_pure h))))
theorem n9{Q:Option Int->Shared->Prop}(gs:s.heap.get? sl=some (bw l u))(h:Q none s):wpAny (model prog w) A (Builtin.List.listSubscript? (.ref sl)) Q E s:=by unfold Builtin.List.listSubscript?;refine wpAny_bind (wpAny_specialOf (T:="slice") ⟨_,gs,rfl⟩ slice_no_index ?_);simp only[Option.isNone_none,if_true];exact wpAny_pure h
theorem x6(I:Inv (ai X t₀) s G V)(J:AccAt K s.heap G r a C dx fs xs vs n)(gs:s.heap.get? sl=some (bw l u))(pl:gm l lo)(pu:gm u hi):Run (ai X t₀) prog w A fp G s (getItem (.ref a) (.ref sl)) (V++[.list (c9 xs lo hi)]) (bj (.ref V.length)):=by have hK:K.In s.heap:=I.top.1;refine dh (ob:=aT (c9 vs lo hi) 0) I rfl (dQ (Nat.le_trans (kU _ _ _) J.len) (n6 J.reps _ _) rfl) λQ E q=>?_;unfold getItem;refine wpAny_holding (wpAny_bind (mH hK J (wpAny_bind (fA hK J (id:="list.__getitem__") (by decide) slot_list_getitem.bind ?_))));refine fu hK J (.inr (by decide+kernel)) (m:="__getitem__") (by decide+kernel) slot_list_getitem.plain entry_list_getitem (args_list_getitem _ _) ?_;refine(?_:wpAny _ _ (Builtin.List.listSubscript? (.ref sl)>>=_) _ _ s);refine wpAny_bind (n9 gs ?_);refine wpAny_bind (wpAny_typeOf (T:="slice") ⟨_,gs,rfl⟩ ?_);rw[if_neg (by decide)];refine wpAny_bind (kz gs pl pu ?_);refine wpAny_bind (m:=Builtin.List.listItems (.ref a)) ?_;unfold Builtin.List.listItems;refine wpAny_bind (wpAny_seqItems J.at_ rfl (wpAny_pure ?_));refine wpAny_bind (wpAny_of_eq (sliceIndices_raw lo hi none vs.toArray.size (by simp)) ?_);have hz:(slicePick vs.toArray lo hi none).size<=sizeLine:=Nat.le_trans (slicePick_size_le _ _ _ _) (by rw[size_toArray,J.reps.length];exact Nat.le_trans J.len cM);have e:=im vs.toArray lo hi;have q':=q s.toks (le_refl _);refine wpAny_bind (wpAny_newObj_type ?_ hz);refine(?_:wpAny _ _ (ret _) _ _ {s with heap:=s.heap.push {cls:=.type "list",data:=.seq (slicePick vs.toArray lo hi none)}});rw[e];exact wpAny_pure (wpAny_pure q')
theorem ud(F:Array Value->Array Value){ts:List Value}(h:F vs.toArray=ts.toArray):∃k',Obj.mapSeq F (dn C dx vs n)=dn C dx ts k':=by refine⟨if ts.toArray.size==vs.toArray.size then n else n+1,?_⟩;show(⟨_,_,.seq (F vs.toArray) (if(F vs.toArray).size==vs.toArray.size then n else n+1),_⟩:Obj)=_;rw[h]
theorem C7(vs ws:List Value){c:Nat}(h:c<=vs.length):vs.toArray.extract 0 (Int.toNat (c:Nat))++ws.toArray++vs.toArray.extract (max (c:Int) ((vs.toArray.size:Nat):Int)).toNat=(vs.take c++ws).toArray:=by rw[H0,Nat.max_eq_right (show c<=vs.toArray.size from h),toNat_natCast];apply Array.ext';simp
theorem je{c:Nat}{Q:Unit->Shared->Prop}(I:Inv (ai X t₀) s G V)(J:AccAt K s.heap G r a C dx fs xs vs n)(hr:V[r]?=some (.acc C fs xs))(gs:s.heap.get? sl=some (bw l .none))(pl:gm l lo) (gl:s.heap.get? lst=some (aT ws k))(ry:aC G.ad ws ys)(h1:xs.length<=1000)(h2:ys.length<=1000)(hc:eg lo 0 xs.length=c)(hle:c<=xs.length) (q:∀s',Inv (ai X t₀) s' G (V.set r (.acc C fs (xs.take c++ys)))->aK [] G s G s'->Q () s'):wpAny (model prog w) A (setItem (.ref a) (.ref sl) (.ref lst)) Q E s:=by
 have hK:K.In s.heap:=I.top.1;have hn:=J.reps.length;have hm:=ry.length;have hne:(a==lst)=false:=by apply beq_eq_false_iff_ne.mpr;rintro rfl;have:=J.at_;rw[gl]at this;cases this
 have hns:(Builtin.List.listSameRef (.ref a) (.ref lst))=false:=hne;unfold setItem;refine wpAny_holding (wpAny_bind (mH hK J (wpAny_bind (fA hK J (id:="list.__setitem__") (by decide) slot_list_setitem.bind ?_))));refine fu hK J (.inl (by decide+kernel)) (m:="__setitem__") (by decide+kernel) slot_list_setitem.plain entry_list_setitem (args_list_setitem _ _ _) ?_;refine(?_:wpAny _ _ (Builtin.List.listSubscript? (.ref sl)>>=_) _ _ s);refine wpAny_bind (n9 gs ?_);refine wpAny_bind (wpAny_typeOf (T:="slice") ⟨_,gs,rfl⟩ ?_);rw[if_neg (by decide)];refine wpAny_bind (kz (hi:=none) gs pl rfl ?_);show wpAny _ _ (if Builtin.List.listSameRef (.ref a) (.ref lst)=true then _ else _) _ _ _;rw[hns,if_neg (by decide)];refine wpAny_bind ?_;unfold Builtin.List.listAllItems;refine wpAny_bind (wpAny_typeOf (T:="list") ⟨_,gl,rfl⟩ ?_);rw[if_pos (by decide)];unfold Builtin.List.listItems
 first
  |refine wpAny_bind (wpAny_seqItems gl rfl (wpAny_pure ?_))
  |refine wpAny_bind (wpAny_bind (wpAny_seqItems gl rfl (wpAny_pure (wpAny_pure ?_))))
 refine wpAny_bind ?_;refine wpAny_bind (wpAny_seqItems J.at_ rfl (wpAny_pure ?_));refine wpAny_bind (wpAny_of_eq (sliceIndices_raw lo none none vs.toArray.size (by simp)) ?_);have hsz:vs.toArray.size=xs.length:=hn;have hl:vs.toArray.size<=1000:=hsz▸h1;have hw:ws.toArray.size<=1000:=Nat.le_trans (le_of_eq hm) h2;rw[jW,hsz,hc,<-hsz];have hz:Builtin.List.listTooLong (vs.toArray.size+ws.toArray.size)=false:=decide_eq_false (Nat.not_lt_of_le (Nat.le_trans (add_le_add hl hw) (by rw[sizeLine_eq];decide)));have hF:=C7 vs ws (c:=c) (hn▸hle);have hT:(vs.take c++ws).toArray.size<=2000:=by refine(?_:(vs.take c++ws).length<=_);rw[List.length_append];exact add_le_add (Nat.le_trans (List.length_take_le' c vs) hl) hw
 show wpAny _ _ (if((1:Int)==1)=true then _ else _) _ _ _;rw[if_pos (by decide)];refine wpAny_bind (wpAny_rule ?_);rw[hz,if_neg (by decide)];refine wpAny_bind ?_;refine(?_:wpAny _ _ (updateSeq a _) _ _ _);refine wpAny_updateSeq J.at_ rfl ?_ (Nat.le_trans hl (by rw[sizeLine_eq];decide)) (Nat.le_trans (le_of_eq (congrArg Array.size hF)) (Nat.le_trans hT (by rw[sizeLine_eq];decide)));have rr:aC G.ad (vs.take c++ws) (xs.take c++ys):=(J.reps.take _).append ry;obtain⟨k',e⟩:=ud (C:=C) (dx:=dx) (n:=n) (vs:=vs) (λzs=>zs.extract 0 (Int.toNat (c:Nat))++ws.toArray++zs.extract (max (c:Int) ((vs.toArray.size:Nat):Int)).toNat) hF;obtain⟨I',S'⟩:=J.put (fp:=[]) (t:=s.toks) I hr (le_refl _) (Heap.SameBut.update ..) ((Heap.get?_update_self _ J.at_ rfl).trans (congrArg some e)) rr (Nat.le_trans (Nat.le_trans (le_of_eq rr.length.symm) hT) (by decide));exact wpAny_bind (wpAny_letGo (wpAny_pure (wpAny_pure (q _ I' S'))))
end
theorem mem_lookup{α:Type}{l:List (Addr×α)}{b:α}(h:(a,b)∈l):∃c,l.lookup a=some c:=by
 cases e:l.lookup a with
 |some c=>exact⟨c,rfl⟩
 |none=>have:=List.lookup_eq_none_iff.mp e _ h;rw[bne_self_eq_false]at this;cases this
theorem v8(I:Inv (ai X t₀) s G V)(hr:V[r]?=some (.acc C fs xs))(hC:(C,("_Accumulator":Str))∈W.clss)(hx:attrOk x=true)(hl:fs.length<=100)(rv:az G.ad ov (.ref r))(ry:az G.ad y v):Run (ai X t₀) prog w A fp G s (setAttr ov x y) (V.set r (.acc C (gM fs x v) xs)) Hz:=by
 refine ve X (p:=prog) ?_ I rv ry;obtain⟨nm,e⟩:=mem_lookup hC;have hc:((W.tab prog).cls C).isSome=true:=by refine(?_:((W.clss.lookup C).map _).isSome=true);rw[e];rfl
 have hlt:r<V.length:=(List.getElem?_eq_some_iff.mp hr).1;unfold ez;refine(?_:bd (getO r) _ V=_);unfold bd getO;rw[hr];refine(?_:bd (must _) _ V=_);unfold bd must;rw[hx,hc,decide_eq_true hl];refine(?_:ek r _ V=_);unfold ek;rw[if_pos hlt]
theorem yv{α:Type}{l:List α}{a:α}(h:l[i]?=some a):l.set i a=l:=by
 apply List.ext_getElem?;intro j;by_cases hj:i=j
 ·subst hj;rw[List.getElem?_set_self (List.getElem?_eq_some_iff.mp h).1,h]
 ·rw[List.getElem?_set_ne hj]
theorem n8(S:kq K prog f C fd)(hone:∀C',(C',("_Accumulator":Str))∈W.clss->C'=C) (hb:fd.body=.stmts [.Assign [.Attribute (.Name ("self":Str) ⟨124,8,124,12⟩) ("_initial_size":Str) ⟨124,8,124,26⟩] (.Name ("initial_size":Str) ⟨124,29,124,41⟩) ⟨124,8,124,41⟩,.Expr (.Call (.Attribute (.Call (.Name ("super":Str) ⟨125,8,125,13⟩) [] [] ⟨125,8,125,15⟩) ("__init__":Str) ⟨125,8,125,24⟩) [] [] ⟨125,8,125,26⟩) ⟨125,8,125,26⟩]) (hp:(⟨125,8,125,24⟩:Pos).endLine=(⟨125,8,125,26⟩:Pos).line)(hcell:∀x∈fd.scope.names,x.2≠.cell)(hk2:fd.scope.names.lookup ("initial_size":Str)=some .local) {k:Int}{x:Value}(h:wE W r k V=some (v,V'))(I:Inv (ai X t₀) s G V)(ra:az G.ad x (.ref r))(ry:az G.ad y (.int k))(hd:A.depth<recursionLimit) (hbind:BindsTo s fd ⟨vs,[]⟩ [(Str.ofString "self",x),(Str.ofString "initial_size",y)]):jm (ai X t₀) prog w A G s (.call (.ref f) ⟨vs,[]⟩) V' (bj v):=by
 ·
  obtain⟨⟨C',fs,xs⟩,V1,h1,h2⟩:=bt h;clear h;obtain⟨rfl,hr,hC⟩:=bM h1;obtain rfl:=hone _ hC;refine ag h2 λhl h3=>?_;clear h2;obtain⟨hl1,hx0⟩:=and_eq_true_iff.mp hl;have h10:fs.length<=10:=of_decide_eq_true hl1;obtain⟨hlt,h4⟩:=fU h3;obtain⟨rfl,rfl⟩:=af h4;have hxs:xs=[]:=List.isEmpty_iff.mp hx0;subst hxs;refine S.toPFn.callAt (X:=X) I hd hb hbind hcell (by intro b hb';simp only[mem_cons,not_mem_nil,or_false]at hb';rcases hb' with rfl|rfl;exact S.kSelf;exact hk2) λLK I₁ hk FF=>?_;intro Q E q;refine ks_wpAt_execs_cons (PySem.wpAt_of_wpAny (plainObj_wpAny_Assign_Attribute ?_ rfl));refine FF.name hk2 rfl (FF.name S.kSelf rfl ?_);refine v8 (fp:=[]) I₁ hr hC (by decide) (Nat.le_trans h10 (by decide)) ra ry _ E λ_ LL G₂ I₂ S2 _=>?_;have FF2:=FF.keepE S2;have hr2:(V1.set r (.acc C' (gM fs ("_initial_size":Str) (.int k)) []))[r]?=some (.acc C' (gM fs ("_initial_size":Str) (.int k)) []):=List.getElem?_set_self hlt;obtain⟨a,dx,vs,n,rfl,J⟩:=I₂.accAt X hr2 hC (ra.mono S2.ad);refine ks_wpAt_execs_cons (ks_wpAt_Expr_any (iL S I₂ FF2 J rfl rfl hp sP (.inl rfl) λb h' k' e=>?_) (fZ FF2) rfl);have I₃:Inv (ai X t₀) {LL with heap:=h',toks:=LL.toks+1} G₂ _:=I₂.kept (le_succ _) k';have S3:aK [] G₂ LL G₂ {LL with heap:=h',toks:=LL.toks+1}:=aK.kept k';obtain⟨dx3,vs3,n₃,J₃⟩:=J.keep (X:=X) I₃ S3 hr2 hC;refine nB (s:={LL with heap:=h',toks:=LL.toks+1}) e LF.kind_init (LF.args_init _) LF.plain_init LF.entry_init ?_;have hv3:vs3=[]:=List.eq_nil_of_length_eq_zero J₃.reps.length;subst hv3;refine(?_:wpAny _ _ (Builtin.List.listItems (.ref a)>>=_) _ _ _);refine wpAny_bind ?_;unfold Builtin.List.listItems;refine wpAny_bind (wpAny_seqItems J₃.at_ rfl (wpAny_pure ?_));refine wpAny_bind ?_;refine(?_:wpAny _ _ (updateSeq a _) _ _ _);refine wpAny_updateSeq J₃.at_ rfl ?_ (by rw[sizeLine_eq];decide) (by rw[sizeLine_eq];decide);have em:Obj.mapSeq (λ_=> #[]) (dn C' dx3 [] n₃)=dn C' dx3 [] n₃:=by simp[Obj.mapSeq,dn]
  have g:=Heap.get?_update_self (Obj.mapSeq λ_=> #[]) J₃.at_ (by rfl);rw[em]at g;obtain⟨I₄,S4⟩:=J₃.put (fp:=[]) (t:=LL.toks+1) I₃ hr2 (le_refl _) (Heap.SameBut.update ..) g (.nil) (zero_le _);refine wpAny_bind (wpAny_letGo (wpAny_pure ?_));rw[yv hr2]at I₄;exact PySem.wpAt_of_wpAny (wpAny_execs_nil (q _ _ _ I₄ ((S2.trans (S3.trans S4)).nil) rfl))
theorem xW(S:kq K prog f C fd)(hone:∀C',(C',("_Accumulator":Str))∈W.clss->C'=C) (hb:fd.body=.stmts [.Assign [.Attribute (.Name ("self":Str) ⟨124,8,124,12⟩) ("_initial_size":Str) ⟨124,8,124,26⟩] (.Name ("initial_size":Str) ⟨124,29,124,41⟩) ⟨124,8,124,41⟩,.Expr (.Call (.Attribute (.Call (.Name ("super":Str) ⟨125,8,125,13⟩) [] [] ⟨125,8,125,15⟩) ("__init__":Str) ⟨125,8,125,24⟩) [] [] ⟨125,8,125,26⟩) ⟨125,8,125,26⟩]) (hp:(⟨125,8,125,24⟩:Pos).endLine=(⟨125,8,125,26⟩:Pos).line)(hcell:∀x∈fd.scope.names,x.2≠.cell)(hk2:fd.scope.names.lookup ("initial_size":Str)=some .local) (hbind:∀(s:Shared) (x y:Value),K.In s.heap->BindsTo s fd ⟨[x,y],[]⟩ [(Str.ofString "self",x),(Str.ofString "initial_size",y)]){t0:Tok} (hbind1:∀(s:Shared) (x:Value),K.In s.heap->BindsTo s fd ⟨[x],[]⟩ [(Str.ofString "self",x),(Str.ofString "initial_size",.int 0 t0)]):Meets X t₀ prog w f (sj W) 4:=by
 intro A G s V V' as vs v h I rv hh hd hu;unfold sj at h;refine dN h rv λ_ r _ x _ ea ra ev rv' h'=>?_;clear rv h;revert rv' h';intro rv h;obtain rfl:=b8 ea;subst ev;cases rv with
 |nil=>exact n8 S hone hb hp hcell hk2 h I ra ⟨t0,rfl⟩ (by lia) (hbind1 s x I.top.1)
 |cons rb rv=>refine dN h (.cons rb rv) λ_ k _ y _ eb ry ev rv h=>?_;obtain⟨rfl,h⟩:=kS h rv;obtain rfl:=ms eb;rw[ev];exact n8 S hone hb hp hcell hk2 h I ra ry (by lia) (hbind s x y I.top.1)
theorem Bb{α:Type}(xs:List α)(i:Int)(h0:0<=i)(h1:i.toNat<=xs.length):c9 xs (some i) none=xs.drop i.toNat/\eg (some i) 0 xs.length=i.toNat/\eg none xs.length xs.length=xs.length:=by
 have e:eg (some i) 0 xs.length=i.toNat:=by obtain⟨j,rfl⟩:=Int.eq_ofNat_of_zero_le h0;rw[ft];exact min_eq_left h1
 refine⟨?_,e,rfl⟩;unfold c9;rw[e];refine(?_:(xs.drop i.toNat).take (xs.length-i.toNat)=_);exact List.take_of_length_le (by rw[length_drop];exact le_refl _)
theorem Fp(I:Inv (ai X t₀) s G V)(J:AccAt K s.heap G r a C dx fs xs vs n):Run (ai X t₀) prog w A fp G s (getitemInPython (.ref a)) V (ub false):=by obtain⟨od,J'⟩:=J.inst;have hf:=J.cls.names ("__getitem__","list.__getitem__") (by decide);intro Q E q;unfold getitemInPython;refine wpAny_bind (wpAny_bind (J'.type.here ((looks_findIn I.top.1 hf).here ?_)));exact wpAny_pure (q _ s G I (aK.refl _ _ _) rfl)
theorem lT{p:Pos}(q:Q (.ref s.heap.objs.size) {s with heap:=s.heap.push (aT [] 0)}):wpAny (model prog w) A (eval (.List [] p) env) Q E s:=by rw[arm_eval_List];refine wpAny_bind (wpAny_standAt (wpAny_bind (Calls.spliced_nil ?_)));exact wpAny_newObj_type q (by show(0:Nat)<=sizeLine;exact zero_le _)
theorem pQ(F:PFn K f fd) (hb:fd.body=.stmts [.Assign [.Name ("popped":Str) ⟨131,8,131,14⟩] (.Subscript (.Name ("self":Str) ⟨131,17,131,21⟩) (.Slice (some (.Name ("i":Str) ⟨131,22,131,23⟩)) none none ⟨131,22,131,24⟩) ⟨131,17,131,25⟩) ⟨131,8,131,25⟩,.Assign [.Subscript (.Name ("self":Str) ⟨132,8,132,12⟩) (.Slice (some (.Name ("i":Str) ⟨132,13,132,14⟩)) none none ⟨132,13,132,15⟩) ⟨132,8,132,16⟩] (.List [] ⟨132,19,132,21⟩) ⟨132,8,132,21⟩,.Return (some (.Name ("popped":Str) ⟨133,15,133,21⟩)) ⟨133,8,133,21⟩]) (hs:fd.scope.names=[(Str.ofString "self",NameKind.local),(Str.ofString "i",NameKind.local),(Str.ofString "popped",NameKind.local)]) (hbind:∀(s:Shared) (x y:Value),K.In s.heap->BindsTo s fd ⟨[x,y],[]⟩ [(Str.ofString "self",x),(Str.ofString "i",y)]):Meets X t₀ prog w f (gJ W) 4:=by
 intro A G s V V' as vs v h I rv hh hd hu;obtain⟨r,i,x,y,rfl,ra,ry,h⟩:=CH (c:=PV.int) ms h rv
 ·
  obtain⟨⟨C,fs,xs⟩,V1,h1,h2⟩:=bt h;clear h;obtain⟨rfl,hr,hC⟩:=bM h1;refine ag h2 λhl h3=>?_;clear h2;have hl1:=of_decide_eq_true hl;obtain⟨h0,hi,h1000⟩:=hl1;have h4:=k8 h3;clear h3;obtain⟨hlt,h5⟩:=fU h4;obtain⟨rfl,rfl⟩:=af h5;refine F.call (X:=X) I (by lia) hb (hbind s x y I.top.1) (by rw[hs];decide) (by rw[hs];intro b hb';simp only[mem_cons,not_mem_nil,or_false]at hb';rcases hb' with rfl|rfl<;>rfl) λLK I₁ hk FF=>?_;intro Q E q;obtain⟨a,dx,vs,n,rfl,J⟩:=I₁.accAt X hr hC ra;obtain⟨e1,e2,e3⟩:=Bb xs i h0 hi;obtain⟨ti,rfl⟩:=ry;refine wpAny_execs_cons (wpAny_Assign_Name ?_ rfl);rw[arm_eval_Subscript];refine wpAny_bind (FF.name (a0 hs rfl) rfl (wpAny_bind (wpAny_holding (wpAny_Slice (show wpAny _ _ (eval _ _) _ _ _ from FF.name (a0 hs rfl) rfl (wpAny_pure (wpAny_pure ?_)))))));refine wpAny_bind (wpAny_standAt ?_);have I₂:Inv (ai X t₀) {LK with heap:=LK.heap.push (bw (.int i ti) .none)} G V1:=I₁.junk _ I₁.tok;have S2:aK [] G LK G {LK with heap:=LK.heap.push (bw (.int i ti) .none)}:=aK.junk _;have gs:({LK with heap:=LK.heap.push (bw (.int i ti) .none)}:Shared).heap.get? LK.heap.objs.size=some (bw (.int i ti) .none):=Heap.get?_push_size _ rfl;obtain⟨dx2,vs2,n₂,J₂⟩:=J.keep (X:=X) I₂ S2 hr hC;refine jH (V':=V1++[.list (c9 xs (some i) none)]) (P:=bj (.ref V1.length)) I₂ (Fp I₂ J₂) (λs₃ G₃ I₃ S3=>?_) _ E λb s₃ G₃ I₃ S3 rb=>?_
  ·obtain⟨dx3,vs3,n₃,J₃⟩:=J₂.keep (X:=X) I₃ S3 hr hC;exact x6 I₃ J₃ (S3.keep _ _ gs (I₁.fresh _ (bb (le_refl _))) (λh=>nomatch h) (.inl λh=>nomatch h)).1 ⟨_,rfl⟩ rfl
  have S3':=S2.trans S3;have FF3:=FF.keepE S3';rw[e1]at I₃;have hr3:(V1++[PO.list (xs.drop i.toNat)])[r]?=some (.acc C fs xs):=ke ⟨_,rfl⟩ hr;refine FF3.store I₃ (a0 hs rfl) λLX I₄ S4 FF4 _=>?_;refine wpAny_execs_cons (wpAny_Assign_Subscript ?_ rfl);refine lT ?_;have LV:Inv (ai X t₀) {LX with heap:=LX.heap.push (aT [] 0)} G₃ (V1++[PO.list (xs.drop i.toNat)]):=I₄.junk _ I₄.tok;have LY:aK [] G₃ LX G₃ {LX with heap:=LX.heap.push (aT [] 0)}:=aK.junk _;have gl:({LX with heap:=LX.heap.push (aT [] 0)}:Shared).heap.get? LX.heap.objs.size=some (aT [] 0):=Heap.get?_push_size _ rfl;have FF5:=FF4.keepE LY;refine FF5.name (a0 hs rfl) rfl (wpAny_Slice (show wpAny _ _ (eval _ _) _ _ _ from FF5.name (a0 hs rfl) rfl (wpAny_pure (wpAny_pure ?_))));have I₆:Inv (ai X t₀) {LX with heap:=(LX.heap.push (aT [] 0)).push (bw (.int i ti) .none)} G₃ (V1++[PO.list (xs.drop i.toNat)]):=LV.junk _ LV.tok;have S6:aK [] G₃ {LX with heap:=LX.heap.push (aT [] 0)} G₃ {LX with heap:=(LX.heap.push (aT [] 0)).push (bw (.int i ti) .none)}:=aK.junk _;have gs6:({LX with heap:=(LX.heap.push (aT [] 0)).push (bw (.int i ti) .none)}:Shared).heap.get? (LX.heap.push (aT [] 0)).objs.size=some (bw (.int i ti) .none):=Heap.get?_push_size _ rfl;obtain⟨a',dx6,vs6,n₆,ea,J₆⟩:=I₆.accAt X hr3 hC (ov:=.ref a) (ra.mono S3'.ad);cases ea;refine je (ys:=[]) (ws:=[]) I₆ J₆ hr3 gs6 (lo:=some i) ⟨_,rfl⟩ (Heap.get?_push_of_some _ gl) .nil h1000 (zero_le _) e2 hi λs₇ I₇ S7=>?_;rw[append_nil]at I₇;have FF7:=(FF5.keepE S6).keepE S7;refine wpAny_execs_cons (wpAny_Return_some (FF7.name (a0 hs rfl) rfl ?_));have ST:aK [s.heap.objs.size] G LK G₃ s₇:=((S3'.nil.trans S4).trans (LY.trans (S6.trans S7)).nil);exact q _ _ _ I₇ ST rb
theorem mQ{p8 p9:Pos}{k':Nat}{Q:Flow->Shared->Prop}(I:Inv (ai X t₀) s G V)(FF:bz (ai X t₀) env m G s.heap)(hr:V[r]?=some (.acc C fs xs))(hC:(C,("_Accumulator":Str))∈W.clss)(ra:az G.ad ov (.ref r)) (hk1:env.kindOf ("self":Str)=some .local)(hk2:env.kindOf ("startval":Str)=some .local)(hm1:m ("self":Str)=some ov)(hm2:m ("startval":Str)=some (.ref lst)) (gl:s.heap.get? lst=some (aT ws k'))(ry:aC G.ad ws ys)(hf:fs.length<=10)(h1:xs.length<=1000)(h2:ys.length<=1000) (q:∀s' G',Inv (ai X t₀) s' G' (V.set r (.acc C (gM fs ("_initial_size":Str) (.int 0)) ys))->aK [] G s G' s'->Q .next s'):wpAny (model prog w) A (execs [.Assign [.Subscript (.Name ("self":Str) p1) (.Slice none none none p2) p3] (.Name ("startval":Str) p4) p5,.Assign [.Attribute (.Name ("self":Str) p6) ("_initial_size":Str) p7] (.Constant (.int 0) k p8) p9] env) Q E s:=by obtain⟨a,dx,vs,n,rfl,J⟩:=I.accAt X hr hC ra;have hlt:r<V.length:=(List.getElem?_eq_some_iff.mp hr).1;refine wpAny_execs_cons (wpAny_Assign_Subscript ?_ rfl);refine FF.name hk2 hm2 (FF.name hk1 hm1 (wpAny_Slice (wpAny_pure (wpAny_pure (wpAny_pure ?_)))));have I₁:Inv (ai X t₀) {s with heap:=s.heap.push (bw .none .none)} G V:=I.junk _ I.tok;have S1:aK [] G s G {s with heap:=s.heap.push (bw .none .none)}:=aK.junk _;have gs:({s with heap:=s.heap.push (bw .none .none)}:Shared).heap.get? s.heap.objs.size=some (bw .none .none):=Heap.get?_push_size _ rfl;obtain⟨dx1,vs1,n₁,J₁⟩:=J.keep (X:=X) I₁ S1 hr hC;refine je (c:=0) I₁ J₁ hr gs (lo:=none) rfl (Heap.get?_push_of_some _ gl) ry h1 h2 rfl (zero_le _) λLL I₂ S2=>?_;have hr2:(V.set r (.acc C fs ys))[r]?=some (.acc C fs ys):=List.getElem?_set_self hlt;have S2':=S1.trans S2;have FF2:=FF.keepE S2';refine wpAny_execs_cons (plainObj_wpAny_Assign_Attribute ?_ rfl);refine wpAny_Constant_int ?_;have I₃:Inv (ai X t₀) {LL with toks:=LL.toks+1} G (V.set r (.acc C fs ys)):=I₂.toks (Nat.le_trans I₂.tok (le_succ _));have S3:aK [] G s G {LL with toks:=LL.toks+1}:=S2'.trans aK.toks;refine FF2.name (s:={LL with toks:=LL.toks+1}) hk1 hm1 ?_;refine v8 (fp:=[]) (v:=.int 0) I₃ hr2 hC (by decide) (Nat.le_trans hf (by decide)) ra ⟨_,rfl⟩ _ E λ_ LX G₄ I₄ S4 _=>?_;rw[List.set_set]at I₄;exact wpAny_execs_nil (q _ _ I₄ (S3.trans S4))
theorem tz(F:PFn K f fd) (hb:fd.body=.stmts [.If (.Compare (.Name ("startval":Str) ⟨147,11,147,19⟩) [.Is] [.Constant .none 0 ⟨147,23,147,27⟩] ⟨147,11,147,27⟩) [.Assign [.Name ("startval":Str) ⟨148,12,148,20⟩] (.List [] ⟨148,23,148,25⟩) ⟨148,12,148,25⟩] [] ⟨147,8,148,25⟩,.Assign [.Subscript (.Name ("self":Str) ⟨149,8,149,12⟩) (.Slice none none none ⟨149,13,149,14⟩) ⟨149,8,149,15⟩] (.Name ("startval":Str) ⟨149,18,149,26⟩) ⟨149,8,149,26⟩,.Assign [.Attribute (.Name ("self":Str) ⟨150,8,150,12⟩) ("_initial_size":Str) ⟨150,8,150,26⟩] (.Constant (.int 0) 0 ⟨150,29,150,30⟩) ⟨150,8,150,30⟩]) (hs:fd.scope.names=[(Str.ofString "self",NameKind.local),(Str.ofString "startval",NameKind.local)]) (hbind:∀(s:Shared) (x y:Value),K.In s.heap->BindsTo s fd ⟨[x,y],[]⟩ [(Str.ofString "self",x),(Str.ofString "startval",y)]) (hbind1:∀(s:Shared) (x:Value),K.In s.heap->BindsTo s fd ⟨[x],[]⟩ [(Str.ofString "self",x),(Str.ofString "startval",.none)]):Meets X t₀ prog w f (iI W) 4:=by
 intro A G s V V' as vs v h I rv hh hd hu;unfold iI at h;refine dN h rv λ_ r _ x _ ea ra ev rv' h'=>?_;clear rv h;revert rv' h';intro rv h;obtain rfl:=b8 ea;subst ev;cases rv with
 |cons rb rv=>obtain⟨l,y,ev,ry,h⟩:=fj h (.cons rb rv);obtain rfl:y=_:=(List.cons.inj ev).1.symm;obtain rfl:=(List.cons.inj ev).2;obtain⟨⟨C,fs,xs⟩,V1,h1,h2⟩:=bt h;clear h;obtain⟨rfl,hr,hC⟩:=bM h1;refine ag h2 λhl h3=>?_;clear h2;obtain⟨hf10,h1000⟩:=of_decide_eq_true hl;refine aM h3 λob el h4=>ah h4 λys ey h4=>?_;clear h3;obtain rfl:=gY ey;refine ag h4 λhy h5=>?_;clear h4;have hy1000:=of_decide_eq_true hy;obtain⟨hlt,h6⟩:=fU h5;obtain⟨rfl,rfl⟩:=af h6;refine F.call (X:=X) I (by lia) hb (hbind s x y I.top.1) (by rw[hs];decide) (by rw[hs];intro b hb';simp only[mem_cons,not_mem_nil,or_false]at hb';rcases hb' with rfl|rfl<;>rfl) λLK I₁ hk FF=>?_;intro Q E q;obtain⟨lst,hlst,rfl⟩:=cu ry;refine wpAny_execs_cons (wpAny_If (wpAny_isTrue_Compare1 (FF.name (a0 hs rfl) rfl (wpAny_Constant_none ?_))));refine wpAny_is_other rfl (by simp) (bL (fp:=[]) (v:=.bool false) (b:=false) (V':=V1) rfl I₁ rfl _ E λb LL G₂ I₂ S2 eb=>?_);have eb:b=false:=eb;rw[eb];refine wpAny_execs_nil ?_;have FF2:=FF.keepE S2;obtain⟨_,ws,k',gl,rl⟩:=bp I₂ (bD S2.ad hlst) el;exact mQ I₂ FF2 hr hC (ra.mono S2.ad) (a0 hs rfl) (a0 hs rfl) rfl rfl gl rl hf10 h1000 hy1000 λs₃ G₃ I₃ S3=>q _ _ _ I₃ (S2.trans S3).nil rfl
 |nil=>obtain⟨⟨C,fs,xs⟩,V1,h1,h2⟩:=bt h;clear h;obtain⟨rfl,hr,hC⟩:=bM h1;refine ag h2 λhl h3=>?_;clear h2;obtain⟨hf10,h1000⟩:=of_decide_eq_true hl;obtain⟨hlt,h6⟩:=fU h3;obtain⟨rfl,rfl⟩:=af h6;refine F.call (X:=X) I (by lia) hb (hbind1 s x I.top.1) (by rw[hs];decide) (by rw[hs];intro b hb';simp only[mem_cons,not_mem_nil,or_false]at hb';rcases hb' with rfl|rfl<;>rfl) λLK I₁ hk FF=>?_;intro Q E q;refine wpAny_execs_cons (wpAny_If (wpAny_isTrue_Compare1 (FF.name (a0 hs rfl) rfl (wpAny_Constant_none ?_))));refine wpAny_is_self rfl (bL (fp:=[]) (v:=.bool true) (b:=true) (V':=V1) rfl I₁ rfl _ E λb LL G₂ I₂ S2 eb=>?_);have eb:b=true:=eb;rw[eb];have FF2:=FF.keepE S2;refine wpAny_execs_cons (wpAny_Assign_Name (lT ?_) rfl);have LV:Inv (ai X t₀) {LL with heap:=LL.heap.push (aT [] 0)} G₂ V1:=I₂.junk _ I₂.tok;have LY:aK [] G₂ LL G₂ {LL with heap:=LL.heap.push (aT [] 0)}:=aK.junk _;have gl:({LL with heap:=LL.heap.push (aT [] 0)}:Shared).heap.get? LL.heap.objs.size=some (aT [] 0):=Heap.get?_push_size _ rfl;have FF5:=FF2.keepE LY;refine FF5.store (s:={LL with heap:=LL.heap.push (aT [] 0)}) LV (a0 hs rfl) λs₆ I₆ S6 FF6 hsb=>?_;refine wpAny_execs_nil ?_;have S2':=S2.trans LY;refine mQ (ys:=[]) (ws:=[]) I₆ FF6 hr hC (ra.mono S2'.ad) (a0 hs rfl) (a0 hs rfl) rfl rfl ((hsb.2 _ ?_).trans gl) .nil hf10 h1000 (zero_le _) λs₃ G₃ I₃ S3=>q _ _ _ I₃ ((S2'.nil.trans S6).trans S3.nil) rfl;intro e;obtain⟨o,e1,_⟩:=FF2.loc;rw[<-e]at e1;exact absurd (lt_size e1) (lt_irrefl _)
theorem Bh(hK:K.In s.heap)(J:AccAt K s.heap G r a C dx fs xs vs n) (q:Q (.ref s.heap.objs.size) {s with heap:=s.heap.push {cls:=.type "list_iterator",data:=.fields #[.ref a,.int 0 0]}}):wpAny (model prog w) A (pyIter (.ref a)) Q E s:=by
 obtain⟨od,I⟩:=J.inst;have hf:=J.cls.names (Str.ofString "__iter__","list.__iter__") (by decide);unfold pyIter;refine wpAny_bind (wpAny_bind (I.type.here ((looks_findIn hK hf).here ?_)));refine(?_:wpAny _ _ (callSpecialIfBoundUnlessNone? (.ref a) "__iter__" _>>=_) _ _ _);refine wpAny_bind ?_;unfold callSpecialIfBoundUnlessNone? bindSpecialIfBound?;have bn:wpAny (model prog w) A (call (.builtin "list.__iter__") [.ref a]>>=λv=>pure (some v)) (λo s'=>wpAny (model prog w) A (match o with
   |some it=>do
    match<-specialOf it "__next__"with
    |none=>rule "iter.non-iterator";raiseError "TypeError" s!"iter() returned non-iterator of type '{← PySem.typeNameOf it}'"
    |some _=>pure it
   |none=>do
    match<-bindSpecialIfBound? (.ref a) "__getitem__"with
    |none=>rule "iter.not-iterable";raiseError "TypeError" s!"'{← PySem.typeNameOf (.ref a)}' object is not iterable"
    |some _=>rule "iter.getitem-fallback";newFields "iterator" [.ref a,<-PySem.mkInt 0]) Q E s') E s:=by
  refine wpAny_bind (wpAny_call (fu hK J (.inl (by decide+kernel)) (m:="__iter__") (by decide+kernel) slot_list_iter.plain entry_list_iter (args_list_iter _) ?_));refine(?_:wpAny _ _ (do ret (<-newFields "list_iterator" [.ref a,rawInt 0])) _ _ s);refine wpAny_bind (wpAny_newObj_type (wpAny_pure (wpAny_pure ?_)));exact wpAny_bind (wpAny_specialOf (T:="list_iterator") ⟨_,Heap.get?_push_size _ rfl,rfl⟩ slot_listiter_next.lookup (wpAny_pure q))
 refine wpAny_holding (wpAny_bind (wpAny_bind (wpAny_bind (I.type.here ((looks_findIn hK hf).here ?_)))));refine wpAny_bind (wpAny_askSetting (wpAny_ite ?_));have b:∀{Q':Option (Value×List Value)->Shared->Prop} {E':Value->Shared->Prop},Q' (some (.builtin "list.__iter__",[.ref a])) s->wpAny (model prog w) A (do return some (<-bindSpecial (.builtin "list.__iter__") (.ref a))) Q' E' s:=by intro Q' E' h;rw[slot_list_iter.bind];exact wpAny_bind (wpAny_pure (wpAny_pure h))
 split
 ·exact b bn
 ·exact wpAny_tryCatch (b bn)
theorem m4{Q:Option Value->Shared->Prop}(hit:s.heap.IsListIter I a i)(ha:s.heap.get? a=some (dn C dx vs n))(hx:vs[i]?=some y) (hQ:∀h',h'.IsListIter I a (i+1)->Heap.SameBut I s.heap h'->Q (some y) {s with heap:=h'}):wpAny (model prog w) A (pyNext (.ref I)) Q E s:=by
 obtain⟨o,ho,hc,hd⟩:=id hit;unfold pyNext;refine wpAny_bind (wpAny_attempt (wpAny_callSpecial?_slot (name:=Str.ofString "__next__") hit.typeIs slot_listiter_next (wpAny_call_entry slot_listiter_next hit.typeIs entry_listiter_next ?_ (args_listiter_next _))));refine(?_:wpAny _ _ (field (.ref I) 0>>=_) _ _ s);refine wpAny_bind (wpAny_field ho hd (x:=.ref a) rfl ?_);show wpAny _ _ (if(Value.ref a==Value.none)=true then _ else _) _ _ s;rw[if_neg (show¬((Value.ref a==Value.none)=true)from Bool.false_ne_true)];refine(?_:wpAny _ _ (field (.ref I) 1>>=_) _ _ s);refine wpAny_bind (wpAny_field ho hd (x:=.int i 0) rfl ?_);refine(?_:wpAny _ _ (seqItems? (.ref a)>>=_) _ _ s);refine wpAny_bind (wpAny_seqItems ha rfl ?_);have hx':vs.toArray[i]?=some y:=by simpa using hx
 simp only[toNat_natCast,hx'];refine wpAny_bind (wpAny_setField ho hd (by simp) (wpAny_pure ⟨y,rfl,wpAny_pure (hQ _ ?_ (Heap.SameBut.update ..))⟩));exact⟨_,Heap.get?_update_self _ ho (Obj.isFreed_of_fields (Obj.data_mapFields hd _)),(Obj.cls_mapFields ..).trans hc,by rw[Obj.data_mapFields hd];simp[rawInt]⟩
theorem oV{Q:Option Value->Shared->Prop}(hh:A.handled=none)(hit:s.heap.IsListIter I a i)(ha:s.heap.get? a=some (dn C dx vs n))(hx:vs[i]?=none) (hQ:∀h',Heap.ExtBut I s.heap h'->Q none {s with heap:=h'}):wpAny (model prog w) A (pyNext (.ref I)) Q E s:=by
 obtain⟨o,ho,hc,hd⟩:=id hit;unfold pyNext;refine wpAny_bind (wpAny_attempt (wpAny_callSpecial?_slot (name:=Str.ofString "__next__") hit.typeIs slot_listiter_next (wpAny_call_entry slot_listiter_next hit.typeIs entry_listiter_next ?_ (args_listiter_next _))));refine(?_:wpAny _ _ (field (.ref I) 0>>=_) _ _ s);refine wpAny_bind (wpAny_field ho hd (x:=.ref a) rfl ?_);show wpAny _ _ (if(Value.ref a==Value.none)=true then _ else _) _ _ s;rw[if_neg (show¬((Value.ref a==Value.none)=true)from Bool.false_ne_true)];refine(?_:wpAny _ _ (field (.ref I) 1>>=_) _ _ s);refine wpAny_bind (wpAny_field ho hd (x:=.int i 0) rfl ?_);refine(?_:wpAny _ _ (seqItems? (.ref a)>>=_) _ _ s);refine wpAny_bind (wpAny_seqItems ha rfl ?_);have hx':vs.toArray[i]?=none:=by simpa using hx
 simp only[toNat_natCast,hx'];refine wpAny_bind (wpAny_rule (wpAny_bind (wpAny_setField ho hd (by simp) ?_)));refine(?_:wpAny _ _ (newExc (.type "StopIteration") []>>=_) _ _ _);refine wpAny_bind ?_;simp-iota only[newExc,PySem.newTuple];refine wpAny_bind (wpAny_newObj_type ?_ (by size_fits));refine wpAny_bind (m:=firstArgMember _ _) (wpAny_of_eq (a:=Value.none) (by first|rfl|(simp-iota only[firstArgMember];rfl)) ?_);refine wpAny_newObj_type ?_ (by size_fits);simp-iota only[raiseNew];refine wpAny_bind (wpAny_handled ?_);rw[show A.in1.handled=none from hh];refine wpAny_bind (wpAny_pure (wpAny_throw ?_));refine wpAny_bind (wpAny_isInstance (T:="StopIteration") (b:=true) ⟨_,Heap.get?_push_size _ rfl,rfl⟩ isSubtype_stop ?_);exact wpAny_pure (hQ _ (((Heap.SameBut.update ..).extBut.push _).push _))
theorem tG(hh:A.handled=none)(I:Addr)(hne:a≠I)(Ts:Nat->Addr)(vals:Nat->Array Value)(hit:∀j,j<vs.length->vs[j]?=some (.ref (Ts j)))(hTI:∀j,j<vs.length->Ts j≠I):WalksU prog w A I (I::a::(List.range vs.length).map Ts) [I] vs.length (λj v=>v=vals j) (λj h=>h.IsListIter I a j/\h.get? a=some (dn C dx vs n)/\∀k,k<vs.length->h.IsTuple (Ts k) (vals k)) (λj T h=>(j<vs.length/\T=Ts j)/\h.IsListIter I a (j+1)/\h.get? a=some (dn C dx vs n)/\∀k,k<vs.length->h.IsTuple (Ts k) (vals k))where
 sub:=λb hb=>by simp at hb;simp[hb]
 frame:=λ_ _ _ st hk=>⟨st.1.at λo e=>hk I (by simp) o e,hk a (by simp) _ st.2.1,λk hk'=>(st.2.2 k hk').at λo e=>hk (Ts k) (mem_cons_of_mem _ (mem_cons_of_mem _ (mem_map.mpr ⟨k,mem_range.mpr hk',rfl⟩))) o e⟩
 item:=λi s Q E hi st hQ=>by refine m4 st.1 st.2.1 (hit i hi) λh' hit' hs'=>?_;have tup:∀k,k<vs.length->h'.IsTuple (Ts k) (vals k):=λk hk'=>(st.2.2 k hk').extBut hs'.extBut (hTI k hk');exact hQ (Ts i) (vals i) h' s.toks rfl (tup i hi) ⟨⟨hi,rfl⟩,hit',(hs'.2 a hne).trans st.2.1,tup⟩ λb o hb e=>hs'.extBut b o (λh=>hb (by simp[h])) e
 go:=λ_ _ _ _ _ s Q _ hm hQ=>wpAny_letOwnedTupleGo_listiter hm.2.1 (hQ s.heap hm.2 λ_ _ _ e=>e)
 apart:=λj T _ hm hmem=>by
  rcases mem_cons.mp hmem with e|e
  ·exact hTI j hm.1.1 (hm.1.2▸e)
  ·cases e
 done:=λs Q E st hQ=>oV hh st.1 st.2.1 (by simp) λh' he'=>hQ h' s.toks λb o hb e=>he' b o (λh=>hb (by simp[h])) e
 self:=λ_ _ _ _ st hQ=>wpAny_pyIter_listiter st.1 hQ
structure xA(scope:Scope)(cenv:Env):Prop where
 scope:cenv.scope=scope
 gl:cenv.globals=mainGlobals
 bl:cenv.builtins=builtinsNs
inductive zp(prog:Program)(w:World)(A:Around)(lo ga:Addr)(n:Nat)(F:Nat->Value->Prop)(s:Shared):Prop where
 |mk (fp wr:List Addr) (g:Nat) (St:Nat->Shared->Prop) (PP:Nat->Value->Prop) (hPF:∀i v,PP i v->F i v) (WS:WalksS prog w A.in4 ga fp wr (GenOnlyQ g) n PP St) (hst:St 0 s) (hat:∀i s',St i s'->s'.TypeIs (.ref ga) "generator") (hga:ga∈fp) (hfp:∀b∈fp,b<s.heap.objs.size) (hwr:∀b∈wr,lo<=b):zp prog w A lo ga n F s
theorem Lv{α1 α2 α3 α4 α5 α6 α7 α8 α9:Sort _}{p:α1->α2->α3->α4->α5->α6->α7->α8->α9->Prop}(Mh:α1)(Mn:α2)(Mm:α3)(Mk:α4)(Mp:α5)(Mj:α6)(Mi:α7)(a₈:α8)(a₉:α9)(h:p Mh Mn Mm Mk Mp Mj Mi a₈ a₉):∃Mh Mn Mm Mk Mp Mj Mi a₈ a₉,p Mh Mn Mm Mk Mp Mj Mi a₈ a₉:=
 ⟨Mh,Mn,Mm,Mk,Mp,Mj,Mi,a₈,a₉,h⟩
theorem A1(X:eU K W n₀)(hK:K.In s.heap){ps:Array Value}(ta:s.heap.TableAt cd P ps):cStatics≠P:=λq=>by obtain⟨es,n,e,_⟩:=X.stat;have e1:=hK _ _ e;have e2:=ta.2;rw[<-q,e1]at e2;cases(e2)
theorem Inv.grow(I:Inv (ai X t₀) s G V)(hcp:(cd,P)∈t₀.codes)(hP:P<n₀)(hx:Heap.ExtBut P s.heap h')(gr:rN s.heap h' cd P)(ht:s.toks<=t):Inv (ai X t₀) {s with heap:=h',toks:=t} G V where
 top:=(ai X t₀).keeps _ _ I.top λb o hb e=>by
  by_cases h:b=P
  ·subst h;exact .inr ⟨cd,hcp,gr⟩
  ·exact .inl (hx b o h e)
 len:=I.len
 rep i o e:=by
  obtain⟨a,h1,h2,h3⟩:=I.rep i o e;have nP:∀b x,G.own b=some x->b≠P:=λb x ow q=>by rw[I.old b (q▸hP)]at ow;cases ow
  exact⟨a,h1,h2,h3.keep (λo e=>hx a o (nP a _ h2) e) (λd ow=>⟨λo e=>hx d o (nP d _ ow) e,ow⟩) prefix_rfl⟩
 fresh a h:=by
  cases e:s.heap.get? a with
  |none=>exact I.fresh a e
  |some o=>
   by_cases q:a=P
   ·rw[q];exact I.old P hP
   ·have:=hx a o q e;rw[h]at this;cases this
 old:=I.old
 bare:=I.bare
 tok:=Nat.le_trans I.tok ht
theorem aK.grow(I:Inv (ai X t₀) s G V)(hx:Heap.ExtBut P s.heap h')(gr:rN s.heap h' cd P):aK fp G s G {s with heap:=h',toks:=t}:=
 ⟨λ_ _ e=>e,prefix_rfl,λb o e h _ hk=>⟨hx b o (λq=>by
  obtain⟨ps,more,_,ta,_⟩:=gr;have:=ta.2;rw[<-q,e]at this;cases this;rcases hk with hk|hk
  ·exact hk rfl
  ·exact A1 X I.top.1 ta (hk.symm.trans q)) e,h⟩,rfl,rfl⟩
theorem zc{qn:Str}(I:Inv (ai X t₀) s G V)(hcode:env.code=.ref cd)(hcp:(cd,P)∈t₀.codes) (q:∀code h' t,Heap.ExtBut P s.heap h'->s.heap.objs.size<=h'.objs.size->Inv (ai X t₀) {s with heap:=h',toks:=t} G V->aK [] G s G {s with heap:=h',toks:=t}->Q code {s with heap:=h',toks:=t}):wpAny (model prog w) A (genexprCode env pos qn scope) Q E s:=by
 obtain⟨ps,hc,hP,ic,ta⟩:=I.top.2.2.2 _ hcp;cases hf:codeAmong pos ps.toList with
 |some c'=>exact wpAny_genexprCode_hit hcode ic hf (q c' s.heap s.toks (Heap.ExtBut.refl _ _) (le_refl _) I (aK.refl _ _ _))
 |none=>refine cy (wpAny_genexprCodeX hcode ic ta hf λc' h' t hx h1 h2 ic' _ ta' _ l=>?_);have gr:rN s.heap h' cd P:=⟨ps,_,ic,ta,ic',ta'⟩;exact q _ h' t hx l.2 (I.grow hcp hP hx gr l.1) (aK.grow I hx gr)
theorem passing_true(n:Nat):(passing (λ_=>true) n 0)=List.range n:=by unfold passing;rw[List.drop_zero];exact List.filter_eq_self.mpr λ_ _=>rfl
theorem wv{elt:Expr}{xa xb:Str}{pa pb pt ps:Pos}{kt:Nat}{Ts:Nat->Addr}{vals:Nat->Array Value}{F:Nat->Value->Prop}(I:Inv (ai X t₀) s G V)(FF:bz (ai X t₀) env m G s.heap)(J:AccAt K s.heap G r a C dx fs xs vs n) (hk:env.kindOf ("self":Str)=some .local)(hm:m ("self":Str)=some (.ref a))(hcode:env.code=.ref cd)(hcp:(cd,P)∈t₀.codes)(hh:A.handled=none)(hroom:A.depth<recursionLimit) (hco:scope.isCoroutine=false)(hfree:∀y∈scope.names,y.2≠.free)(hcell:∀y∈scope.names,y.2≠.cell)(h0:scope.names.lookup (".0":Str)=some NameKind.local)(hxa:scope.names.lookup xa=some .local)(hxb:scope.names.lookup xb=some .local)(hab:xa≠xb)(hkind:scope.kind=.function) (hit:∀j,j<vs.length->vs[j]?=some (.ref (Ts j)))(htup:∀j,j<vs.length->s.heap.IsTuple (Ts j) (vals j))(h2:∀j,∃va vb,vals j= #[va,vb]) (helt:∀(cenv:Env) (A':Around) E' i va vb (u:Shared) m₂,xA scope cenv->A'.handled=none->A'.depth<=A.depth+1->A'.units<=A.units+8->i<vs.length->vals i= #[va,vb]->K.In u.heap->iD u.heap->u.heap.Ns cenv.locals m₂->m₂ xa=some va->m₂ xb=some vb->wpAny (model prog w) A' (eval elt cenv) (λy s₃=>F i y/\Keeps u s₃) E' u) (q:∀ga s₅,Inv (ai X t₀) s₅ G V->aK [] G s G s₅->zp prog w A s.heap.objs.size ga vs.length F s₅->Q (.ref ga) s₅):wpAny (model prog w) A (eval (.GeneratorExp elt [⟨.Tuple [.Name xa pa,.Name xb pb] kt pt,.Name ("self":Str) ps,[],0⟩] scope pos) env) Q E s:=by
 have hK:K.In s.heap:=I.top.1;refine cy (wpAny_GeneratorExp_walksQTD hh hco (closureFor_none hfree) hcell h0 hxa hxb hab hkind hroom (FF.name hk hm (Bh hK J ?_)) (λ_=>rfl));have I₂:Inv (ai X t₀) {s with heap:=s.heap.push {cls:=.type "list_iterator",data:=.fields #[.ref a,.int 0 0]}} G V:=I.junk _ I.tok;have S2:aK [] G s G {s with heap:=s.heap.push {cls:=.type "list_iterator",data:=.fields #[.ref a,.int 0 0]}}:=aK.junk _;refine⟨X.noLim I₂.top.1,zc I₂ hcode hcp λcode L4 tk3 hx3 hge3 I₃ S3=>?_⟩;obtain⟨ps2,hc2,hP2,ic,ta⟩:=I₂.top.2.2.2 _ hcp;obtain⟨mg,hmg⟩:=X.mainNs I₃.top.1;obtain⟨bm,ob,b1,b2,b3,b4,b5,b6⟩:=X.bmod;refine wpAny_builtinsFor (by rw[FF.gl];exact hmg) (mg_of I₃.top.1 hmg b1) b6 (I₃.top.1 _ _ b2) b3 b4 b5 ?_;have hsz2:({s with heap:=s.heap.push {cls:=.type "list_iterator",data:=.fields #[.ref a,.int 0 0]}}:Shared).heap.objs.size=s.heap.objs.size+1:=size_push ..;have hIlt:s.heap.objs.size<L4.objs.size:=by have:s.heap.objs.size+1<=L4.objs.size:=hsz2▸hge3;assumption
 have hPlt:P<s.heap.objs.size:=lt_of_lt_of_le hP2 I.above;have up:∀b o,b≠P->s.heap.get? b=some o->L4.get? b=some o:=λb o hb e=>hx3 b o hb (Heap.get?_push_of_some _ e);have ltS:∀{b o},s.heap.get? b=some o->b<s.heap.objs.size:=λe=>lt_size e;have neP:∀{b o},s.heap.get? b=some o->o.cls≠.none->b≠P:=λe hc q=>by have:=ta.2;rw[<-q]at this;rw[Heap.get?_push_of_some _ e]at this;cases this;exact hc rfl
 have hTlt:∀j,j<vs.length->Ts j<s.heap.objs.size:=λj hj=>by obtain⟨_,e,_⟩:=htup j hj;exact lt_size e
 have halt:=lt_size J.at_;have hIt:L4.IsListIter s.heap.objs.size a 0:=⟨_,hx3 _ _ (ne_of_gt hPlt) (Heap.get?_push_size _ rfl),rfl,rfl⟩;have hac:L4.get? a=some (dn C dx vs n):=up _ _ (neP J.at_ (λh=>nomatch h)) J.at_;have htup3:∀k,k<vs.length->L4.IsTuple (Ts k) (vals k):=λk hk=>(htup k hk).at λo e=>by obtain⟨o',e',hc,_⟩:=htup k hk;rw[e]at e';cases e';exact up _ _ (neP e (by rw[hc];exact λh=>nomatch h)) e
 have Wk:=λ(A':Around) (hA:A'.handled=none)=>(tG (prog:=prog) (w:=w) (C:=C) (dx:=dx) (n:=n) hA s.heap.objs.size (ne_of_lt halt) Ts vals hit λj hj=>ne_of_lt (hTlt j hj)).bound;refine Lv s.heap.objs.size _ _ vs.length _ _ _ (λ_=>true) F ⟨rfl,Wk,?_,⟨hIt,hac,htup3⟩,?_,X.noLim I₃.top.1,?_,?_,?_⟩
 ·rintro i vls ⟨_,rfl⟩;exact h2 i
 ·intro b hb;rcases mem_cons.mp hb with rfl|hb
  ·exact hIlt
  ·rcases mem_cons.mp hb with rfl|hb
   ·exact lt_trans halt hIlt
   ·obtain⟨j,hj,rfl⟩:=mem_map.mp hb;exact lt_trans (hTlt j (mem_range.mp hj)) hIlt
 ·intro hmem;have h1:cStatics=s.heap.objs.size:=mem_singleton.mp hmem;obtain⟨es,nn,e,_⟩:=X.stat;exact absurd (lt_size (hK _ _ e)) (by rw[h1];exact lt_irrefl _)
 ·intro href hkr;have facts:∀(u:Shared),(∀b∈List.range L4.objs.size,b∉[s.heap.objs.size]->∀o,href.get? b=some o->u.heap.get? b=some o)->K.In u.heap/\iD u.heap:=by intro u hu;have up':∀b o,L4.get? b=some o->b≠s.heap.objs.size->u.heap.get? b=some o:=λb o e hb=>hu b (mem_range.mpr (lt_size e)) (by simpa using hb) o (hkr _ _ e);have low:∀b o,b<n₀->L4.get? b=some o->u.heap.get? b=some o:=λb o hb e=>up' b o e (ne_of_lt (lt_of_lt_of_le hb I.above));refine⟨λb o e=>low b o (X.lowN b o e) (I₃.top.1 _ _ e),?_⟩;obtain⟨o,mb,e,hc,hn,hb⟩:=I₃.top.2.1;refine⟨o,mb,low _ _ X.pos e,hc,hn.at λo' e'=>low _ _ X.pos e',hb⟩
  refine⟨λA' E' i va vb u m₂ hA hd hu ⟨hi,hv⟩ hns ha hb hkeep=>?_,λA' E' i va vb u m₂ hA hd hu ⟨hi,hv⟩ _ hns ha hb hkeep=>?_⟩
  ·exact wpAny_pure ⟨rfl,u.heap,u.toks,rfl,λ_ _ e=>e⟩
  ·obtain⟨f1,f2⟩:=facts u hkeep;exact helt _ A' E' i va vb u m₂ ⟨rfl,FF.gl,rfl⟩ hA hd hu hi hv.symm f1 f2 hns ha hb
 ·intro ga Ml tk gs hgb hag hsz5 Mv WS hat late;have LV:Inv (ai X t₀) {s with heap:=Ml,gens:=s.gens.push gs,toks:=tk} G V:=I₃.still (s':={s with heap:=Ml,gens:=s.gens.push gs,toks:=tk}) (λb o e _=>Mv b o e) (I₃.bare.push hgb) (Nat.le_trans I.tok late.1);have LY:aK [] G s G {s with heap:=Ml,gens:=s.gens.push gs,toks:=tk}:=(S2.trans S3).trans ⟨λ_ _ e=>e,prefix_rfl,λb o e h _ _=>⟨Mv b o e,h⟩,rfl,rfl⟩;refine q ga _ LV LY ⟨_,_,_,_,_,λi v hv=>?_,by rw[passing_true,length_range]at WS;exact WS,hat,λi s' st=>st.1.typeIs,mem_cons_self,λb hb=>?_,λb hb=>?_⟩
  ·obtain⟨j,hj,hF⟩:=hv;obtain⟨_,e⟩:=List.getElem?_eq_some_iff.mp hj;rw[List.getElem_range]at e;rw[e];exact hF
  ·refine(?_:b<Ml.objs.size);rw[hsz5];rcases mem_cons.mp hb with rfl|hb
   ·exact lt_succ_self _
   ·rcases mem_cons.mp hb with rfl|hb
    ·exact Nat.lt_succ_of_lt hag
    ·exact Nat.lt_succ_of_lt (lt_trans (mem_range.mp hb) hag)
  ·rcases mem_cons.mp hb with rfl|hb
   ·exact Nat.le_of_lt hIlt
   ·rw[mem_singleton.mp hb];exact le_refl _
section
variable {G:Array GenState->Array GenState->Prop}{P:Nat->Value->Prop}
noncomputable def sh{α:Type}(x:α)(f:Nat->α):Nat->α
 |0=>x
 |i+1=>f i
theorem AY(W:WalksS prog w A I fp wr G n P St):WalksS prog w A I fp wr G (n+1) (sh (λ_=>False) P) (sh (λ_=>False) St)where
 sub:=W.sub
 grefl:=W.grefl
 gtrans:=W.gtrans
 frame i s h' tk st:=match i,st with|i+1,st=>W.frame i s h' tk st
 item i s Q E hi st:=match i,st,hi with|i+1,st,hi=>W.item i s Q E (lt_of_succ_lt_succ hi) st
 done:=W.done
 self i s Q E st:=match i,st with|i+1,st=>W.self i s Q E st
theorem fi(LS:Int)(val:Nat->Int):∀i,preSum (sh LS val) (i+1)=LS+preSum val i
 |0=>(Int.zero_add LS).trans (add_zero LS).symm
 |i+1=>(congrArg (·+val i) (fi LS val i)).trans (Int.add_assoc ..)
theorem Bq(W:WalksS prog w A.in1 I fp wr G n P St)(LS:Int)(hk:InLong LS)(val:Nat->Int)(hval:∀i v,P i v->∃t,v=.int (val i) t)(hfit:∀j,j<n->InLong (val j)/\InLong (LS+preSum val (j+1)))(S:Addr)(hSf:S∉fp)(s:Shared)(tA:Tok)(c:Nat) (hst:St 0 s)(hS:s.heap.get? S=some {cls:=.type "list",dict:=none,data:=.seq #[.int LS tA] c,slots:= #[]})(hR:∀s' t',Moved (S::wr) G s s'->R (.ok (.ret (.int (LS+preSum val n) t'))) s'):codeAny (model prog w) A (.builtin "sum.loop" ⟨[.ref I,.ref S,rawInt 0,rawInt 0],[]⟩) R s:=
 codeAny_sum_loopS (AY W) (sh LS val) (λi v h=>match i,h with|i+1,h=>hval i v h) (λj hj=>match j,hj with
   |0,_=>⟨hk,(fi LS val 0).symm▸(add_zero LS).symm▸hk⟩
   |j+1,hj=>(fi LS val (j+1)).symm▸hfit j (lt_of_succ_lt_succ hj))
  S hSf n 1 s tA c (Nat.add_sub_cancel ..) (le_add_left ..) hst (hS.trans (by rw[fi];rw[show preSum val 0=0 from rfl,add_zero])) λs' t' hm=>(fi LS val n).symm▸hR s' t' hm
theorem wT(a b:Value):argsOk "sum" ⟨[a,b],[]⟩:=by unfold argsOk;kernel_rfl
inductive E6(prog:Program)(w:World)(A:Around)(LS:Int)(Q:Value->Shared->Prop)(it:Value)(LL:Shared):Prop where
 |mk (I:Addr) (fp wr:List Addr) (G:Array GenState->Array GenState->Prop) (n:Nat) (P:Nat->Value->Prop) (St:Nat->Shared->Prop) (val:Nat->Int) (e:it=.ref I) (h1:WalksS prog w A.in1 I fp wr G n P St) (h2:St 0 LL) (h3:∀b∈fp,b<LL.heap.objs.size) (h4:∀i v,P i v->∃t,v=.int (val i) t) (h5:∀j,j<n->InLong (val j)/\InLong (LS+preSum val (j+1))) (h6:∀s' t',Moved wr G LL s'->Q (.int (LS+preSum val n) t') s'):E6 prog w A LS Q it LL
theorem xp{x:Value}{LS:Int}{tk:Tok}(hk:(decide (-(2^63)<=LS)&&decide (LS<2^63))=true) (h:wpAny (model prog w) A.in1 (pyIter x) (E6 prog w A LS Q) E s):wpAny (model prog w) A (call (.builtin "sum") [x,.int LS tk]) Q E s:=by refine call_function_tree F.kind_sum F.plain_sum F.entry_sum (wT _ _) ?_;unfold Builtin.«sum»;simp-iota only[length_cons,List.length_nil];rw[if_neg (by decide)];refine wpAny_bind (wpAny_of_eq (show Builtin.Builtins.bindParams "sum" ["start"] 0 ⟨[.int LS tk],[]⟩=pure [some (.int LS tk)]from rfl) ?_);refine wpAny_bind (wpAny_mono h (λit LL Ms=>?_) λ_ _ e=>e);obtain⟨I,fp,wr,G,n,P,St,val,rfl,W,hst,hfp,hval,hfit,hQ⟩:=Ms;dsimp only;refine(if_pos hk).symm▸?_;refine wpAny_bind (wpAny_rule (wpAny_bind (wpAny_mkInt (wpAny_bind (wpAny_pure ?_)))));simp-iota only[forIn_cons,List.forIn_nil];refine wpAny_bind (wpAny_bind (wpAny_bind (wpAny_isInstance (T:="int") (b:=false) (typeIs_int _ _ _) PySem.sub_int_str ?_)));simp-iota only[false_eq_true,if_false];refine wpAny_pure (wpAny_bind (wpAny_bind (wpAny_isInstance (T:="int") (b:=false) (typeIs_int _ _ _) PySem.sub_int_bytes ?_)));simp-iota only[false_eq_true,if_false];refine wpAny_pure (wpAny_bind (wpAny_bind (wpAny_isInstance (T:="int") (b:=false) (typeIs_int _ _ _) PySem.sub_int_bytearray ?_)));simp-iota only[false_eq_true,if_false];refine wpAny_pure (wpAny_pure ?_);refine wpAny_bind (wpAny_newObj_type ?_);have hSf:LL.heap.objs.size∉fp:=λhm=>lt_irrefl _ (hfp _ hm);have hk:=and_eq_true_iff.mp hk;refine wpAny_pure ⟨plainId_quiet F.plain_sum_loop _,Bq W LS ⟨of_decide_eq_true hk.1,of_decide_eq_true hk.2⟩ val hval hfit LL.heap.objs.size hSf _ LL.toks 0 (W.frame 0 LL _ _ hst (by first|exact le_refl _|exact le_succ _|lia) λb _ o e=>Heap.get?_push_of_some _ e) (Heap.get?_push_size _ rfl) λs' t' hm=>?_⟩;exact hQ s' t' (hm.drop_new (by first|exact le_refl _|exact le_succ _|lia))
end
theorem nh(I:Inv (ai X t₀) s G V)(LV:Inv (ai X t₀) s₅ G V)(hm:Moved wr (GenOnlyQ g) s₅ s')(hwr:∀b∈wr,s.heap.objs.size<=b):Inv (ai X t₀) s' G V:=by
 refine LV.still (λb o e q=>hm.heap b o (λhb=>?_) e) (AllBare.movedS LV.bare hm) (Nat.le_trans LV.tok hm.toks);have hlt:b<s.heap.objs.size:=by
  rcases q with q|q
  ·cases e':s.heap.get? b with
   |none=>exact absurd (I.fresh b e') q
   |some o=>exact lt_size e'
  ·exact lt_of_lt_of_le q I.above
 exact absurd hlt (not_lt.mpr (hwr b hb))
theorem nF(S:aK [] G s G s₅)(hm:Moved wr (GenOnlyQ g) s₅ s')(hwr:∀b∈wr,s.heap.objs.size<=b):aK [] G s G s':=
 ⟨λ_ _ e=>e,prefix_rfl,λb o e h1 h2 h3=>⟨hm.heap b o (λhb=>absurd (lt_size e) (not_lt.mpr (hwr b hb))) (S.keep b o e h1 h2 h3).1,h1⟩,hm.os.trans S.os,hm.drawn.trans S.drawn⟩
inductive q8(h:Heap)(vs:List Value)(ps:List (Str×Str)):Prop where
 |mk (hl:vs.length=ps.length) (Ts:Nat->Addr) (vals:Nat->Array Value) (hT:∀j,j<vs.length->vs[j]?=some (.ref (Ts j))) (ht:∀j,j<vs.length->h.IsTuple (Ts j) (vals j)) (h2:∀j,∃va vb,vals j= #[va,vb]) (hv:∀(j:Nat) (p:Str×Str),ps[j]?=some p->strOk p.1=true/\strOk p.2=true/\∃t u,vals j= #[.str p.1 t,.str p.2 u]):q8 h vs ps
theorem xY{p:Str×Str}(h:asPair o=some p):∃a b,o=.tup [.str a,.str b]/\p=(a,b):=by
 cases o<;>first|(cases h;done)|skip
 obtain⟨q,h1,h⟩:=bind_eq_some_iff.mp (show(two _).bind _=_ from h);obtain⟨a,h2,h⟩:=bind_eq_some_iff.mp h;obtain⟨b,h3,rfl⟩:=map_eq_some_iff.mp h;exact⟨a,b,by rw[tM h1,dS h2,dS h3],rfl⟩
set_option tactic.hygienic true in
theorem ou(I:Inv Z s G V):∀{xs:List PV} {vs:List Value} {ps:List (Str×Str)},aC G.ad vs xs->fz V xs=some ps->q8 s.heap vs ps:=by
 intro xs;induction xs with
 |nil=>intro vs ps rv h;cases rv;cases h;exact⟨rfl,λ_=>0,λ_=> #[.none,.none],λj h=>absurd h (not_lt_zero _),λj h=>absurd h (not_lt_zero _),λj=>⟨_,_,rfl⟩,λj p h=>by simp at h⟩
 |cons x xs ih=>
  intro vs ps rv h;cases rv with
  |cons r1 r2=>
  rename_i y ys;obtain⟨p,h1,h⟩:=bind_eq_some_iff.mp (show(pairAt V x).bind _=_ from h);obtain⟨qs,h2,rfl⟩:=map_eq_some_iff.mp h;obtain⟨e,Ts,vals,i1,i2,i3,i4⟩:=ih r2 h2;obtain⟨r',e',h3⟩:=bind_eq_some_iff.mp h1;obtain⟨o,hr,h4⟩:=bind_eq_some_iff.mp h3;obtain⟨a,b,rfl,rfl⟩:=xY h4;obtain rfl:=b8 e'
  ·
   ·
    obtain⟨T,hT,rfl⟩:=r1;obtain⟨_,ws,n,gt,rw'⟩:=iu I hT hr;cases rw' with
    |cons q1 q=>
    cases q with
    |cons q2 q=>
    cases q;obtain⟨⟨t,rfl⟩,sa⟩:=q1;obtain⟨⟨u,rfl⟩,sb⟩:=q2;refine⟨congrArg (·+1) e,λj=>match j with|0=>T|j+1=>Ts j,λj=>match j with|0=> #[.str a t,.str b u]|j+1=>vals j,λj hj=>?_,λj hj=>?_,λj=>?_,λj p hp=>?_⟩
    ·cases j with
     |zero=>rfl
     |succ j=>exact i1 j (lt_of_succ_lt_succ hj)
    ·cases j with
     |zero=>exact⟨_,gt,rfl,n,rfl⟩
     |succ j=>exact i2 j (lt_of_succ_lt_succ hj)
    ·cases j with
     |zero=>exact⟨_,_,rfl⟩
     |succ j=>exact i3 j
    ·cases j with
     |zero=>cases hp;exact⟨sa,sb,_,_,rfl⟩
     |succ j=>exact i4 j p hp
section
variable {p:Pos}
theorem wN(H:xA scope cenv)(hkind:scope.kind=.function)(hl:scope.names.lookup x=some .local)(hns:u.heap.Ns cenv.locals m₂)(hm:m₂ x=some y)(q:Q y u)(hd:(x==("__debug__":Str))=false:=by decide):wpAny M A' (eval (.Name x p) cenv) Q E' u:=
 wpAny_Name (wpAny_loadName_local (by rw[H.scope];exact hkind) (show cenv.scope.names.lookup x=_ by rw[H.scope];exact hl) hns hm q) hd
theorem II(X:eU K W n₀)(H:xA scope cenv)(hkind:scope.kind=.function)(hl:scope.names.lookup x=some .globalImplicit)(hK:K.In u.heap)(hB:iD u.heap)(hx:x∈iT)(hne:x≠"__name__")(hb:bootBuiltins x=some y)(q:Q y u)(hd:(x==("__debug__":Str))=false:=by decide):wpAny M A' (eval (.Name x p) cenv) Q E' u:=by obtain⟨mg,hmg⟩:=X.mainNs hK;obtain⟨o,mb,_,_,hn,hB⟩:=hB;refine wpAny_Name (cr (by rw[H.scope];exact hkind) (show cenv.scope.names.lookup x=_ by rw[H.scope];exact hl) (PySem.Calls.loadGlobal_builtin (by rw[H.gl];exact hmg) (mg_none_of hK hmg (by have q:=dU X.noB hx;exact eq_of_beq q)) (by rw[H.bl];exact hn) ((hB x hne).trans hb) q)) hd
theorem ID(X:eU K W n₀)(H:xA scope cenv)(hkind:scope.kind=.function)(hl:scope.names.lookup x=some .globalImplicit)(hK:K.In u.heap)(hx:io K x v=true)(q:∀y,(∀ad,az ad y v)->Q y u)(hd:(x==("__debug__":Str))=false:=by decide):wpAny M A' (eval (.Name x p) cenv) Q E' u:=by obtain⟨mg,hmg⟩:=X.mainNs hK;obtain⟨y,hy,ry⟩:=mL hx hK hmg;exact wpAny_Name (cr (by rw[H.scope];exact hkind) (show cenv.scope.names.lookup x=_ by rw[H.scope];exact hl) (PySem.Calls.loadGlobal_global (by rw[H.gl];exact hmg) hy (q y ry))) hd
theorem nA(h:strOk x=true):¬(x.length:Int)≥2^63:=by have:x.length<=1000000:=of_decide_eq_true h;lia
theorem C5(X:eU K W n₀){a b:Str}{t t':Tok}(H:xA scope cenv)(hkind:scope.kind=.function)(hlen:scope.names.lookup ("len":Str)=some .globalImplicit)(hx1:scope.names.lookup x1=some .local)(hx2:scope.names.lookup x2=some .local) (hd1:(x1==("__debug__":Str))=false)(hd2:(x2==("__debug__":Str))=false)(hK:K.In u.heap)(hB:iD u.heap)(hns:u.heap.Ns cenv.locals m₂)(h1:m₂ x1=some (.str a t))(h2:m₂ x2=some (.str b t'))(sa:strOk a=true)(sb:strOk b=true):wpAny (model prog w) A' (eval (.BinOp (.Call (.Name ("len":Str) p1) [.Name x1 p2] [] p3) .Add (.Call (.Name ("len":Str) p4) [.Name x2 p5] [] p6) p7) cenv) (λy s₃=>(∃t,y=.int ((a.length:Int)+b.length) t)/\Keeps u s₃) E' u:=by refine wpAny_BinOp (wpAny_Call_NameR (II X H hkind hlen hK hB (by decide) (by decide) boot_len ?_));refine callWith_builtin1 (wN H hkind hx1 hns h1 (P.len_str (nA sa) ?_) hd1);refine wpAny_Call_NameR (II (u:={u with toks:=u.toks+1+1}) X H hkind hlen hK hB (by decide) (by decide) boot_len ?_);refine callWith_builtin1 (wN (u:={u with toks:=u.toks+1+1}) H hkind hx2 hns h2 (P.len_str (nA sb) ?_) hd2);exact P.add_int ⟨⟨_,rfl⟩,_,_,rfl,λ_ _ e=>e⟩
end
noncomputable def fw(ps:List (Str×Str))(j:Nat):Int:=match ps[j]? with
 |some p=>(p.1.length:Int)+p.2.length
 |none=>0
theorem ij(ps:List (Str×Str)):∀j,j<=ps.length->preSum (fw ps) j=(di (ps.take j):Nat):=by
 intro j;induction j with
 |zero=>intro _;rfl
 |succ j ih=>intro h;have e:ps[j]?=some ps[j]:=List.getElem?_eq_getElem (by assumption);rw[preSum,ih (by(exact Nat.le_of_lt (by assumption))),List.take_succ_eq_append_getElem (by lia)];unfold fw di;rw[e,map_append,List.sum_append];simp
theorem gq(ps:List (Str×Str))(h:∀p∈ps,p.1.length<=10000/\p.2.length<=10000):di ps<=ps.length*20000:=by
 induction ps with
 |nil=>exact zero_le _
 |cons p ps ih=>have h1:=h p (mem_cons_self ..);have h2:=ih λq hq=>h q (mem_cons_of_mem _ hq);unfold di at h2⊢;rw[map_cons,sum_cons,length_cons,Nat.succ_mul,add_comm];exact add_le_add h2 (add_le_add h1.1 h1.2)
theorem bz.blt{p:Pos}(X:eU K W n₀)(F:bz (ai X t₀) env m G s.heap)(hl:env.kindOf x=some .globalImplicit)(hT:(ai X t₀).P s.heap)(hx:x∈iT)(hne:x≠"__name__")(hb:bootBuiltins x=some y)(q:Q y s)(hd:(x==("__debug__":Str))=false:=by decide):wpAny M A (eval (.Name x p) env) Q E s:=by obtain⟨mg,hmg⟩:=X.mainNs hT.1;obtain⟨o,mb,_,_,hn,hB⟩:=hT.2.1;refine wpAny_Name (cr F.kind hl (PySem.Calls.loadGlobal_builtin (by rw[F.gl];exact hmg) (mg_none_of hT.1 hmg (by have q:=dU X.noB hx;exact eq_of_beq q)) (by rw[F.bl];exact hn) ((hB x hne).trans hb) q)) hd
theorem bz.glob{p:Pos}(X:eU K W n₀)(F:bz (ai X t₀) env m G s.heap)(hl:env.kindOf x=some .globalImplicit)(hT:(ai X t₀).P s.heap)(hx:io K x v=true)(q:∀y,(∀ad,az ad y v)->Q y s)(hd:(x==("__debug__":Str))=false:=by decide):wpAny M A (eval (.Name x p) env) Q E s:=by obtain⟨mg,hmg⟩:=X.mainNs hT.1;obtain⟨y,hy,ry⟩:=mL hx hT.1 hmg;exact wpAny_Name (cr F.kind hl (PySem.Calls.loadGlobal_global (by rw[F.gl];exact hmg) hy (q y ry))) hd
theorem kC{k:Int}(h:lA fs V=some (k,V')):fs.lookup ("_initial_size":Str)=some (.int k)/\0<=k/\k<=lim/\V'=V:=by
 unfold lA at h;cases e:fs.lookup ("_initial_size":Str)with
 |none=>rw[e]at h;cases h
 |some u=>
  rw[e]at h;cases u<;>first|exact(aQ h).elim|(cases h;done)|skip
  refine ag h λhk h9=>?_;obtain⟨rfl,rfl⟩:=af h9;obtain⟨hk1,hk2⟩:=of_decide_eq_true hk;exact⟨rfl,hk1,hk2,rfl⟩
inductive Fj(W:bU)(r:Nat)(V V':aI)(k:Int):Prop where
 |mk (e:V'=V) (C:Addr) (fs:List (Str×PV)) (xs:List PV) (ps:List (Str×Str)) (LS:Int) (h1:V[r]?=some (.acc C fs xs)) (h2:(C,("_Accumulator":Str))∈W.clss) (h3:xs.length<=1000) (h4:fz V xs=some ps) (h5:∀p∈ps,p.1.length<=10000/\p.2.length<=10000) (h6:fs.lookup ("_initial_size":Str)=some (.int LS)) (h7:0<=LS) (h8:LS<=lim) (h9:k=di ps+LS):Fj W r V V' k
theorem fT{k:Int}(h:kl W r V=some (k,V')):Fj W r V V' k:=by obtain⟨⟨C,fs,xs⟩,V1,h1,h2⟩:=bt h;clear h;obtain⟨rfl,hr,hC⟩:=bM h1;refine ag h2 λhl h3=>?_;clear h2;refine aj h3 λps V2 h4 h5=>?_;clear h3;obtain⟨ps',hps,e⟩:=map_eq_some_iff.mp h4;cases(e);refine ag h5 λhb h6=>?_;clear h5;refine aj h6 λLS V3 h7 h8=>?_;clear h6;obtain⟨rfl,rfl⟩:=af h8;obtain⟨e,hk1,hk2,rfl⟩:=kC h7;exact⟨rfl,C,fs,xs,ps,_,hr,hC,of_decide_eq_true hl,hps,λp hp=>(by have q:=dU hb hp;exact of_decide_eq_true q),e,hk1,hk2,rfl⟩
theorem yE(F:PFn K f fd) (hb:fd.body=.stmts [.Return (some (.Call (.Name ("sum":Str) ⟨141,15,141,18⟩) [.GeneratorExp (.BinOp (.Call (.Name ("len":Str) ⟨141,20,141,23⟩) [.Name ("fws":Str) ⟨141,24,141,27⟩] [] ⟨141,20,141,28⟩) .Add (.Call (.Name ("len":Str) ⟨141,31,141,34⟩) [.Name ("part":Str) ⟨141,35,141,39⟩] [] ⟨141,31,141,40⟩) ⟨141,20,141,40⟩) [⟨.Tuple [.Name ("fws":Str) ⟨141,45,141,48⟩,.Name ("part":Str) ⟨141,50,141,54⟩] 0 ⟨141,45,141,54⟩,.Name ("self":Str) ⟨141,58,141,62⟩,[],0⟩] scope ⟨141,19,141,63⟩,.Attribute (.Name ("self":Str) ⟨141,65,141,69⟩) ("_initial_size":Str) ⟨141,65,141,83⟩] [] ⟨141,15,141,84⟩)) ⟨141,8,141,84⟩]) (hs:fd.scope.names=[(Str.ofString "self",NameKind.local),(Str.ofString "sum",NameKind.globalImplicit)]) (hsc:scope=⟨.function,[(Str.ofString ".0",NameKind.local),(Str.ofString "fws",NameKind.local),(Str.ofString "part",NameKind.local),(Str.ofString "len",NameKind.globalImplicit)],true,false,[]⟩) (hcode:fd.code=.ref cd)(hcp:(cd,P)∈t₀.codes)(hbind:∀x,bindArgs fd ⟨[x],[]⟩=pure [(Str.ofString "self",x)]):Meets X t₀ prog w f (kM W) 4:=by
 intro A G s V V' as vs v h I rv hh hd hu;obtain⟨r,x,rfl,ra,h⟩:=fj h rv
 ·
  refine aj h λk V1 h1 h2=>?_;clear h;obtain⟨rfl,rfl⟩:=af h2;obtain⟨rfl,C,fs,xs,ps,LS,hr,hC,hl,hps,hlen,Mq,k1,k2,rfl⟩:=fT h1;refine F.call (X:=X) I (by lia) hb (BindsTo.of_eq (hbind x)) (by rw[hs];decide) (by rw[hs];intro b hb';simp only[mem_cons,not_mem_nil,or_false]at hb';rw[hb'];rfl) λLK I₁ hk FF=>?_;intro Q E q;obtain⟨a,dx,vs,n,rfl,J⟩:=I₁.accAt X hr hC ra;refine wpAny_execs_cons (wpAny_Return_some (wpAny_Call_NameR (FF.blt X (a0 hs rfl) I₁.top (by decide) (by decide) boot_sum ?_)));refine Calls.callWith_builtin rfl (Calls.evalArgs_plain (Calls.spliced_cons ?_));obtain⟨hvl,Ts,vals,hT,htup,h2',hval⟩:=ou I₁ J.reps hps;refine wv (vals:=vals) (Ts:=Ts) (F:=λj y=>∃t,y=.int (fw ps j) t) I₁ FF J (a0 hs rfl) rfl hcode hcp hh (by show A.depth+1<_;lia) (by rw[hsc]) (by rw[hsc];decide) (by rw[hsc];decide) (by rw[hsc];rfl) (by rw[hsc];rfl) (by rw[hsc];rfl) (by decide) (by rw[hsc]) hT htup h2' ?_ ?_
  ·intro cenv A' E' i va vb u m₂ H hA hd' hu' hi hv hK hB hns ha hb';obtain⟨p,hp⟩:∃p,ps[i]?=some p:=⟨_,List.getElem?_eq_getElem (hvl▸hi)⟩;obtain⟨sa,sb,t,t',e⟩:=hval i p hp;rw[hv]at e;cases e;refine wpAny_mono (C5 X H (by rw[hsc]) (by rw[hsc];rfl) (by rw[hsc];rfl) (by rw[hsc];rfl) (by decide) (by decide) hK hB hns ha hb' sa sb) (λy s₃ ⟨⟨t,e⟩,k⟩=>⟨⟨t,?_⟩,k⟩) λ_ _ e=>e;rw[e];unfold fw;rw[hp]
  ·rintro ga s₅ LV LY ⟨gfp,wr,g,St,PP,hPF,WS,hst,hat,hga,hgfp,hwr⟩;have FF5:=FF.keepE LY;obtain⟨dx5,vs5,Mu,J₅⟩:=J.keep (X:=X) LV LY hr hC;refine Calls.spliced_cons ?_;rw[arm_eval_Attribute];refine wpAny_bind ?_;refine FF5.name (a0 hs rfl) rfl (wpAny_bind (wpAny_standAt (wpAny_bind (wpAny_holding (s9 LV.top.1 J₅.cls.toClsOk J₅.iat (by decide) Mq rfl λy ry=>wpAny_bind (wpAny_letTemporaryGo (wpAny_pure ?_)))))));obtain⟨tk,rfl⟩:=ry;refine Calls.spliced_nil ?_;have hst':St 0 {s₅ with toks:=s₅.toks+1}:=WS.frame 0 s₅ s₅.heap (s₅.toks+1) hst (le_succ _) λ_ _ _ e=>e;have hlt:lim=1000000:=rfl;have hplen:ps.length<=1000:=by rw[<-hvl,J.reps.length];exact hl
   refine xp (by simp only[and_eq_true,decide_eq_true_eq];lia) (WS.in4_1.self 0 _ _ _ hst' ⟨ga,gfp,wr,_,_,PP,St,fw ps,rfl,WS.in4_1,hst',hgfp,λi v hv=>hPF i v hv,λj hj=>?_,λs' t' hm=>?_⟩)
   ·have hj':j<ps.length:=hvl▸hj;have hp:=List.getElem?_eq_getElem hj';have b1:=hlen _ (getElem_mem hj');have b2:=gq (ps.take (j+1)) λp hp=>hlen p (List.mem_of_mem_take hp);have b3:(ps.take (j+1)).length<=1000:=by rw[length_take];lia
    rw[ij ps (j+1) hj'];unfold fw;rw[hp];refine⟨⟨?_,?_⟩,?_,?_⟩<;>first|lia|(dsimp only;lia)
   ·have I₆:Inv (ai X t₀) {s₅ with toks:=s₅.toks+1} G _:=LV.toks (Nat.le_trans LV.tok (le_succ _));have S6:aK [] G LK G {s₅ with toks:=s₅.toks+1}:=LY.trans aK.toks;refine q _ s' G (nh I₁ I₆ hm hwr) (nF S6 hm hwr).nil ?_;refine⟨t',?_⟩;rw[hvl,ij ps _ (le_refl _),List.take_of_length_le (le_refl _),Int.add_comm]
noncomputable def lF(ps:List (Str×Str))(j:Nat):Str:=match ps[j]? with
 |some p=>Txt.join ⟨#[]⟩ [p.1,p.2]
 |none=>⟨#[]⟩
section
variable {p:Pos}
theorem DG(X:eU K W n₀){x0:Str}{a b:Str}{t t':Tok}(H:xA scope cenv)(hp:p2.endLine=p3.line)(hkind:scope.kind=.function)(hlen:scope.names.lookup x0=some .globalImplicit)(hx1:scope.names.lookup x1=some .local)(hx2:scope.names.lookup x2=some .local) (hd0:(x0==("__debug__":Str))=false)(hd1:(x1==("__debug__":Str))=false)(hd2:(x2==("__debug__":Str))=false)(hE:io K x0 (.str ⟨#[]⟩)=true)(hK:K.In u.heap)(hns:u.heap.Ns cenv.locals m₂)(h1:m₂ x1=some (.str a t))(h2:m₂ x2=some (.str b t'))(sa:strOk a=true)(sb:strOk b=true):wpAny (model prog w) A' (eval (.Call (.Attribute (.Name x0 p1) ("join":Str) p2) [.Tuple [.Name x1 p4,.Name x2 p5] k p6] [] p3) cenv) (λy s₃=>(∃t,y=.str (Txt.join ⟨#[]⟩ [a,b]) t)/\Keeps u s₃) E' u:=by refine fb rfl hp (le_of_ble_eq_true rfl) rfl (ID X H hkind hlen hK hE (λy ry pl=>?_) hd0);obtain⟨⟨te,rfl⟩,_⟩:=ry [];refine GM.join (Calls.callWith_builtin rfl (Calls.evalArgs_plain (Calls.spliced_cons ?_)));rw[arm_eval_Tuple];refine wpAny_bind (wpAny_standAt (wpAny_bind (Calls.spliced_cons (wN H hkind hx1 hns h1 (Calls.spliced_cons (wN H hkind hx2 hns h2 (Calls.spliced_nil ?_) hd2)) hd1))));refine wpAny_newTuple ?_ (by show 2<=sizeLine;rw[sizeLine_eq];(exact le_add_left ..));refine Calls.spliced_nil ?_;have la:a.length<=1000000:=of_decide_eq_true sa;have lb:b.length<=1000000:=of_decide_eq_true sb;refine PyProof.Rows.join_tuple (items:= #[.str a t,.str b t']) (ys:=[a,b]) ⟨_,Heap.get?_push_size _ rfl,rfl,0,rfl⟩ (.cons _ _ (.cons _ _ .nil)) (by show a.length+(b.length+0)+2*0<=_;lia) λt'' k'=>?_;exact⟨⟨_,rfl⟩,_,_,rfl,λb o e=>Heap.get?_push_of_some _ e⟩
end
theorem iG(h:n7 W r V=some (z,V')):V'=V/\∃C fs xs ps,V[r]?=some (.acc C fs xs)/\(C,("_Accumulator":Str))∈W.clss/\xs.length<=1000/\fz V xs=some ps/\JoinOk ⟨#[]⟩ (ps.map λp=>Txt.join ⟨#[]⟩ [p.1,p.2])=true/\strOk z=true/\z=Txt.join ⟨#[]⟩ (ps.map λp=>Txt.join ⟨#[]⟩ [p.1,p.2]):=by obtain⟨⟨C,fs,xs⟩,V1,h1,h2⟩:=bt h;clear h;obtain⟨rfl,hr,hC⟩:=bM h1;refine ag h2 λhl h3=>?_;clear h2;refine aj h3 λps V2 h4 h5=>?_;clear h3;obtain⟨ps',hps,e⟩:=map_eq_some_iff.mp h4;cases(e);refine ag h5 λhb h6=>?_;clear h5;refine ag h6 λhj h7=>?_;clear h6;obtain⟨rfl,rfl⟩:=af h7;obtain⟨hj1,hj2⟩:=and_eq_true_iff.mp hj;exact⟨rfl,C,fs,xs,ps,hr,hC,of_decide_eq_true hl,hps,hj1,hj2,rfl⟩
theorem zN(F:PFn K f fd) (hb:fd.body=.stmts [.Return (some (.Call (.Attribute (.Name ("EMPTYSTRING":Str) ⟨144,15,144,26⟩) ("join":Str) ⟨144,15,144,31⟩) [.GeneratorExp (.Call (.Attribute (.Name ("EMPTYSTRING":Str) ⟨144,33,144,44⟩) ("join":Str) ⟨144,33,144,49⟩) [.Tuple [.Name ("fws":Str) ⟨144,51,144,54⟩,.Name ("part":Str) ⟨144,56,144,60⟩] 0 ⟨144,50,144,61⟩] [] ⟨144,33,144,62⟩) [⟨.Tuple [.Name ("fws":Str) ⟨144,67,144,70⟩,.Name ("part":Str) ⟨144,72,144,76⟩] 0 ⟨144,67,144,76⟩,.Name ("self":Str) ⟨144,80,144,84⟩,[],0⟩] scope ⟨144,32,144,85⟩] [] ⟨144,15,144,86⟩)) ⟨144,8,144,86⟩]) (hp:(⟨144,33,144,49⟩:Pos).endLine=(⟨144,33,144,62⟩:Pos).line)(hq:(⟨144,15,144,31⟩:Pos).endLine=(⟨144,15,144,86⟩:Pos).line)(hE:io K ("EMPTYSTRING":Str) (.str ⟨#[]⟩)=true) (hs:fd.scope.names=[(Str.ofString "self",NameKind.local),(Str.ofString "EMPTYSTRING",NameKind.globalImplicit)]) (hsc:scope=⟨.function,[(Str.ofString ".0",NameKind.local),(Str.ofString "fws",NameKind.local),(Str.ofString "part",NameKind.local),(Str.ofString "EMPTYSTRING",NameKind.globalImplicit)],true,false,[]⟩) (hcode:fd.code=.ref cd)(hcp:(cd,P)∈t₀.codes)(hbind:∀x,bindArgs fd ⟨[x],[]⟩=pure [(Str.ofString "self",x)]):Meets X t₀ prog w f (lI W) 4:=by
 intro A G s V V' as vs v h I rv hh hd hu;obtain⟨r,x,rfl,ra,h⟩:=fj h rv
 ·
  refine aj h λk V1 h1 h2=>?_;clear h;obtain⟨rfl,rfl⟩:=af h2;obtain⟨rfl,C,fs,xs,ps,hr,hC,hl,hps,hjok,hzok,hz⟩:=iG h1;refine F.call (X:=X) I (by lia) hb (BindsTo.of_eq (hbind x)) (by rw[hs];decide) (by rw[hs];intro b hb';simp only[mem_cons,not_mem_nil,or_false]at hb';rw[hb'];rfl) λLK I₁ hk FF=>?_;intro Q E q;obtain⟨a,dx,vs,n,rfl,J⟩:=I₁.accAt X hr hC ra;refine wpAny_execs_cons (wpAny_Return_some ?_);refine fb rfl hq (le_of_ble_eq_true rfl) rfl (FF.glob X (a0 hs rfl) I₁.top hE λy ry pl=>?_);obtain⟨⟨te,rfl⟩,_⟩:=ry [];refine GM.join (Calls.callWith_builtin rfl (Calls.evalArgs_plain (Calls.spliced_cons ?_)));obtain⟨hvl,Ts,vals,hT,htup,h2',hval⟩:=ou I₁ J.reps hps;refine wv (vals:=vals) (Ts:=Ts) (F:=λj y=>∃t,y=.str (lF ps j) t) I₁ FF J (a0 hs rfl) rfl hcode hcp hh (by show A.depth+1<_;lia) (by rw[hsc]) (by rw[hsc];decide) (by rw[hsc];decide) (by rw[hsc];rfl) (by rw[hsc];rfl) (by rw[hsc];rfl) (by decide) (by rw[hsc]) hT htup h2' ?_ ?_
  ·intro cenv A' E' i va vb u m₂ H hA hd' hu' hi hv hK hB hns ha hb';obtain⟨p,hp'⟩:∃p,ps[i]?=some p:=⟨_,List.getElem?_eq_getElem (hvl▸hi)⟩;obtain⟨sa,sb,t,t',e⟩:=hval i p hp';rw[hv]at e;cases e;refine wpAny_mono (DG X H hp (by rw[hsc]) (by rw[hsc];rfl) (by rw[hsc];rfl) (by rw[hsc];rfl) (by decide) (by decide) (by decide) hE hK hns ha hb' sa sb) (λy s₃ ⟨⟨t,e⟩,k⟩=>⟨⟨t,?_⟩,k⟩) λ_ _ e=>e;rw[e];unfold lF;rw[hp']
  ·rintro ga s₅ LV LY ⟨gfp,wr,g,St,PP,hPF,WS,hst,hat,hga,hgfp,hwr⟩;refine Calls.spliced_nil ?_;have hplen:vs.length<=1000:=by rw[J.reps.length];exact hl
   refine cy (SC.joinGen WS.in4_2 hat hst hgfp hga (λj v hv=>let⟨u,e⟩:=hPF j v hv;⟨_,u,e⟩) (λs' lt hm hacc=>?_) (by rw[sizeLine_eq];(exact Nat.le_trans (by assumption) (le_add_left ..))));have hl:lt.map (·.1)=ps.map λp=>Txt.join ⟨#[]⟩ [p.1,p.2]:=by
    apply List.ext_getElem?;intro j;have hsz:lt.length=vs.length:=by simpa [strValues]using hacc.1
    by_cases hj:j<vs.length
    ·have hj':j<lt.length:=hsz▸hj;have hj2:j<ps.length:=hvl▸hj;obtain⟨u,hv⟩:=hPF j _ (hacc.2 j (.str lt[j].1 lt[j].2) (by simp[strValues,List.getElem?_eq_getElem hj']));injection hv with h1 _
     unfold lF at h1;rw[List.getElem?_eq_getElem hj2]at h1;simp[List.getElem?_eq_getElem hj',List.getElem?_eq_getElem hj2,h1]
    ·rw[List.getElem?_eq_none (by simpa [hsz]using le_of_not_lt hj),List.getElem?_eq_none (by rw[length_map,<-hvl];exact le_of_not_lt hj)]
   rw[hl];refine⟨hjok,λt' k' l=>?_⟩;have I₆:=nh I₁ LV hm hwr;have S6:=nF LY hm hwr;rw[<-hz];exact q _ {s' with toks:=k'} G (I₆.toks (Nat.le_trans LV.tok l.1)) (S6.trans aK.toks).nil ⟨⟨_,rfl⟩,hzok⟩
namespace LF
theorem plain_str_new:plainId "str.__new__"=true:=by decide+kernel
end LF
theorem ru(hK:K.In s.heap)(J:AccAt K s.heap G r a C dx fs xs vs n)(hs:findIn K (.ref C) ("__len__":Str)=some (some (.ref fL)))(ht:typeIn K (.ref fL)=some (.type "function")) (h:wpAny (model prog w) A (call (.ref fL) [.ref a]) (λr s'=>∃k u,r=.int k u/\0<=k/\k<2^63/\Q (.int k s'.toks) {s' with toks:=s'.toks+1}) E s):wpAny (model prog w) A (Builtin.«len» ⟨[.ref a],[]⟩) (λbn s'=>∃v,bn=.done (.ret v)/\Q v s') E s:=by obtain⟨od,I⟩:=J.inst;unfold Builtin.«len»;refine wpAny_bind (m:=oneArg "len" _) (wpAny_pure ?_);refine wpAny_bind (m:=callSpecial? (.ref a) ("__len__":Str)) (special_fn hK I hs ht (wpAny_mono h (λr s' hr=>?_) λ_ _ y=>y));obtain⟨k,u,rfl,h0,h1,hq⟩:=hr;refine wpAny_bind (wpAny_holding (wpAny_pure ?_));refine wpAny_bind (wpAny_letGo ?_);show wpAny _ _ (if k<0 then _ else _) _ _ _;rw[if_neg (by simp_all)];show wpAny _ _ (if k≥2^63 then _ else _) _ _ _;rw[if_neg (by simp_all)];exact wpAny_bind (wpAny_mkInt (wpAny_pure ⟨_,rfl,hq⟩))
theorem rV{k:Int}(hN:kl W r V=some (k,V'))(HL:Meets X t₀ prog w fL (kM W) 4)(I:Inv (ai X t₀) s G V)(rv:az G.ad (.ref a) (.ref r))(hh:A.handled=none)(hd:A.depth+4<recursionLimit)(hu:A.units+80<cLine) (q:∀s' G',Inv (ai X t₀) s' G' V'->aK [] G s G' s'->Q (.int k s'.toks) {s' with toks:=s'.toks+1}):wpAny (model prog w) A (call (.ref fL) [.ref a]) (λr s'=>∃k u,r=.int k u/\0<=k/\k<2^63/\Q (.int k s'.toks) {s' with toks:=s'.toks+1}) E s:=by
 have h1:kM W [.ref r] V=some (.int k,V'):=by refine(?_:bd (kl W r) _ V=_);unfold bd;rw[hN];rfl
 obtain⟨_,C,fs,xs,ps,LS,hr,hC,hl,hps,hlen,Mq,k1,k2,hk⟩:=fT hN;have b2:=gq ps hlen;have e1:xs.length=ps.length:=by
  have:∀(xs:List PV) (ps:List (Str×Str)),fz V xs=some ps->xs.length=ps.length:=by
   intro xs;induction xs with
   |nil=>intro ps h;cases h;rfl
   |cons x xs ih=>intro ps h;obtain⟨_,_,h⟩:=bind_eq_some_iff.mp (show(pairAt V x).bind _=_ from h);obtain⟨_,e,rfl⟩:=map_eq_some_iff.mp h;exact congrArg (·+1) (ih _ e)
  exact this _ _ hps
 have hlt:lim=1000000:=rfl;refine(HL h1 I (.one rv) hh hd (by omega)).call _ E λy LL G₂ I₂ S2 ry=>?_;obtain⟨t,rfl⟩:=ry;exact⟨k,t,rfl,by lia,by lia,q _ _ I₂ S2⟩
theorem CQ(J:AccAt K s.heap G r a C dx fs xs vs n)(hs:findIn K (.ref C) ("__len__":Str)=some (some (.ref fL)))(ht:typeIn K (.ref fL)=some (.type "function")){k:Int}(hN:kl W r V=some (k,V'))(HL:Meets X t₀ prog w fL (kM W) 4)(I:Inv (ai X t₀) s G V) (hh:A.handled=none)(hd:A.depth+4<recursionLimit)(hu:A.units+81<cLine):Run (ai X t₀) prog w A [] G s (call (.builtin "len") [.ref a]) V' (bj (.int k)):=by intro Q E q;refine Calls.call_function_entry kind_len plain_len entry_len (args_len1 _) (ru I.top.1 J hs ht ?_);exact rV (A:=A.in1) hN HL I ⟨a,J.ad,rfl⟩ hh hd (by show A.units+1+80<_;omega) λLL G₂ I₂ S2=>q _ _ _ (I₂.toks (Nat.le_trans I₂.tok (le_succ _))) (S2.trans aK.toks) ⟨_,rfl⟩
theorem sR(J:AccAt K s.heap G r a C dx fs xs vs n)(hs:findIn K (.ref C) ("__len__":Str)=some (some (.ref fL)))(ht:typeIn K (.ref fL)=some (.type "function")){k:Int}(hN:kl W r V=some (k,V'))(HL:Meets X t₀ prog w fL (kM W) 4)(I:Inv (ai X t₀) s G V) (hh:A.handled=none)(hd:A.depth+4<recursionLimit)(hu:A.units+81<cLine):Run (ai X t₀) prog w A [] G s (truthy (.ref a)) V' (ub (k !=0)):=by
 intro Q E q;obtain⟨od,Ia⟩:=J.inst;unfold truthy;refine wpAny_bind (m:=callSpecial? (.ref a) ("__bool__":Str)) (wpAny_bind (wpAny_bind (Ia.type.here ((looks_findIn I.top.1 J.cls.noBool).here (wpAny_pure ?_)))));refine wpAny_bind (wpAny_bind (Ia.type.here ((looks_findIn I.top.1 hs).here ?_)));refine(?_:wpAny _ _ (runValue (.builtin "len" ⟨[.ref a],[]⟩)>>=_) _ _ _);refine wpAny_bind (wpAny_runValue (codeAny_builtin entry_len ?_));rw[Around.under_plainId plain_len _];have bn:wpAny (model prog w) A.in1 (Builtin.«len» ⟨[.ref a],[]⟩) (λbn s'=>∃v,bn=.done (.ret v)/\wpAny (model prog w) A (match v with| .int n _=>pure (n !=0)|_=>unsupported "internal:truth.len") Q E s') E s:=
  ru I.top.1 J hs ht (Q:=λv s'=>wpAny (model prog w) A (match v with| .int n _=>pure (n !=0)|_=>unsupported "internal:truth.len") Q E s') (rV (A:=A.in1) hN HL I ⟨a,J.ad,rfl⟩ hh hd (by show A.units+1+80<_;lia) (Q:=λv s'=>wpAny (model prog w) A (match v with| .int n _=>pure (n !=0)|_=>unsupported "internal:truth.len") Q E s') λLL G₂ I₂ S2=>
    wpAny_pure (q _ _ _ (I₂.toks (Nat.le_trans I₂.tok (le_succ _))) (S2.trans aK.toks) rfl))
 exact wpAny_mono bn (λbn s' ⟨v,e,hv⟩=>by rw[e];exact hv) λ_ _ e=>e
theorem uO(J:AccAt K s.heap G r a C dx fs xs vs n)(hs:findIn K (.ref C) ("__str__":Str)=some (some (.ref fS)))(ht:typeIn K (.ref fS)=some (.type "function"))(hN:n7 W r V=some (z,V'))(HS:Meets X t₀ prog w fS (lI W) 4)(I:Inv (ai X t₀) s G V) (hh:A.handled=none)(hd:A.depth+4<recursionLimit)(hu:A.units+83<cLine):Run (ai X t₀) prog w A [] G s (call (.type "str") [.ref a]) V' (bj (.str z)):=by
 intro Q E q;obtain⟨od,Ia⟩:=J.inst;have h1:lI W [.ref r] V=some (.str z,V'):=by unfold lI;refine(?_:bd (n7 W r) _ V=_);unfold bd;rw[hN];rfl
 refine callType_codes (Q₁:=λobj LK=>LK.TypeIs obj "str"/\Q obj LK) F.called_str (F.typeCall_str_1 _) F.entry_object_init ?_ λobj LK LZ=>?_
 ·refine codeAny_call_builtin LF.plain_str_new F.entry_str_new (wpAny_of_eq (F.newCall_str_1 _) ?_);rw[str_new_tree];refine wpAny_bind (wpAny_pure ?_);refine wpAny_bind (wpAny_of_eq isSubtype_str_str ?_);refine(?_:wpAny _ _ (Builtin.Str.strOf (.ref a)>>=_) _ _ _);refine wpAny_bind ?_;unfold Builtin.Str.strOf;refine(?_:wpAny _ _ (cRoomFor "str" [.ref a]>>=_) _ _ _);refine wpAny_bind (m:=cRoomFor _ _) (wpAny_cRoomFor (by show A.units+1+1<_;lia) ?_);refine wpAny_bind (m:=callSpecial? (.ref a) ("__str__":Str)) (special_fn I.top.1 Ia hs ht ?_);refine(HS (A:=A.in1.in1) h1 I (.one ⟨a,J.ad,rfl⟩) hh hd (by show A.units+1+1+20*4<_;(exact Nat.le_of_lt (by assumption)))).call _ _ λy LL G₂ I₂ S2 ry=>?_;obtain⟨t,rfl⟩:=ry.1;exact wpAny_pure (wpAny_pure ⟨typeIs_str _ _ _,q _ _ _ I₂ S2 ry⟩)
 ·exact⟨LZ.1,F.args_object_init_2 obj _,object_init_meets F.called_str.init.lookup F.called_str.made (by decide) prog w A.in1 _ LK ⟨LZ.1,rfl,LZ.2⟩⟩
theorem qp(F:PFn K f fd)(hone:∀C',(C',("_Accumulator":Str))∈W.clss->C'=C) (hb:fd.body=.stmts [.Return (some (.BoolOp .And [.Compare (.Attribute (.Name ("self":Str) ⟨153,15,153,19⟩) ("_initial_size":Str) ⟨153,15,153,33⟩) [.Eq] [.Constant (.int 0) 0 ⟨153,37,153,38⟩] ⟨153,15,153,38⟩,.BoolOp .Or [.UnaryOp .Not (.Name ("self":Str) ⟨153,48,153,52⟩) ⟨153,44,153,52⟩,.Call (.Attribute (.Call (.Name ("str":Str) ⟨153,56,153,59⟩) [.Name ("self":Str) ⟨153,60,153,64⟩] [] ⟨153,56,153,65⟩) ("isspace":Str) ⟨153,56,153,73⟩) [] [] ⟨153,56,153,75⟩] ⟨153,44,153,75⟩] ⟨153,15,153,76⟩)) ⟨153,8,153,76⟩]) (hp:(⟨153,56,153,73⟩:Pos).endLine=(⟨153,56,153,75⟩:Pos).line)(hs:fd.scope.names=[(Str.ofString "self",NameKind.local),(Str.ofString "str",NameKind.globalImplicit)])(hbind:∀x,bindArgs fd ⟨[x],[]⟩=pure [(Str.ofString "self",x)]) (hl:findIn K (.ref C) ("__len__":Str)=some (some (.ref fL)))(hlt:typeIn K (.ref fL)=some (.type "function"))(HL:Meets X t₀ prog w fL (kM W) 4) (hz:findIn K (.ref C) ("__str__":Str)=some (some (.ref fS)))(hzt:typeIn K (.ref fS)=some (.type "function"))(HS:Meets X t₀ prog w fS (lI W) 4):Meets X t₀ prog w f (jw W) 6:=by
 intro A G s V V' as vs v h I rv hh hd hu;obtain⟨r,x,rfl,ra,h⟩:=fj h rv
 ·
  obtain⟨⟨C',fs,xs⟩,V1,h1,h2⟩:=bt h;clear h;obtain⟨rfl,hr,hC⟩:=bM h1;obtain rfl:=hone _ hC;refine aj h2 λLS V2 h3 h4=>?_;clear h2;obtain⟨Mq,k1,k2,rfl⟩:=kC h3;refine F.call (X:=X) I (by(exact lt_of_le_of_lt (le_add_right ..) (by assumption))) hb (BindsTo.of_eq (hbind x)) (by rw[hs];decide) (by rw[hs];intro b hb';simp only[mem_cons,not_mem_nil,or_false]at hb';rw[hb'];rfl) λLK I₁ hk FF=>?_;intro Q E q;obtain⟨a,dx,vs,n,rfl,J⟩:=I₁.accAt X hr hC ra;refine wpAny_execs_cons (wpAny_Return_some ?_);rw[arm_eval_BoolOp];refine(?_:wpAny _ _ (eval (.Compare _ _ _ _) _>>=λv=>standAt _>>=λ_=>holding [v] (truthy v)>>=λt=>_) _ _ _);refine wpAny_bind (wpAny_Compare1 ?_);rw[arm_eval_Attribute];refine wpAny_bind (FF.name (a0 hs rfl) rfl (wpAny_bind (wpAny_standAt (wpAny_bind (wpAny_holding (s9 I₁.top.1 J.cls.toClsOk J.iat (by decide) Mq rfl λy ry=>wpAny_bind (wpAny_letTemporaryGo (wpAny_pure ?_))))))));refine wpAny_Constant_int ?_;have I₃:Inv (ai X t₀) {LK with toks:=LK.toks+1+1} G _:=I₁.toks (Nat.le_trans I₁.tok (by lia));have S3:aK [] G LK G {LK with toks:=LK.toks+1+1}:=aK.toks;refine fV (fp:=[]) (op:=.Eq) (a:=.int LS) (b:=.int 0) (v:=.bool (decide (LS=0))) rfl I₃ ry ⟨_,rfl⟩ (by show A.units+3+4<_;lia) _ E λc LX G₄ I₄ S4 rc=>?_;refine wpAny_bind (wpAny_standAt (wpAny_bind (wpAny_holding ?_)));refine bL (fp:=[]) (v:=.bool (decide (LS=0))) (b:=decide (LS=0)) rfl I₄ rc _ E λb s₅ G₅ LV LY eb=>?_;have eb:b=decide (LS=0):=eb;have S5':=S3.trans (S4.trans LY);have FF5:=FF.keepE S5';by_cases hk0:LS=0
  ·rw[if_pos hk0]at h4;rw[eb,decide_eq_true hk0];refine(?_:wpAny _ _ (eval (.BoolOp .Or _ _) _) _ _ _);refine aj h4 λN V3 h5 h6=>?_;clear h4;have e3:=(fT h5).1;subst e3;obtain⟨dx5,vs5,Mu,J₅⟩:=J.keep (X:=X) LV S5' hr hC;rw[arm_eval_BoolOp];refine(?_:wpAny _ _ (eval (.UnaryOp _ _ _) _>>=λv=>standAt _>>=λ_=>holding [v] (truthy v)>>=λt=>_) _ _ _);rw[arm_eval_UnaryOp];refine wpAny_bind (wpAny_bind (FF5.name (a0 hs rfl) rfl (wpAny_bind (wpAny_standAt (wpAny_holding (not_value ?_))))));refine sR (A:=A.deeper (callEnv fd s.heap.objs.size f)) J₅ hl hlt h5 HL LV hh (by show A.depth+1+4<_;(exact Nat.le_of_lt (by assumption))) (by show A.units+3+81<_;lia) _ E λb s₆ G₆ I₆ S6 eb=>?_;have eb:b=(N !=0):=eb;refine wpAny_bind (wpAny_standAt (wpAny_bind (wpAny_holding (bL (fp:=[]) (v:=.bool (!b)) (b:=!b) rfl I₆ rfl _ E λb' s₇ G₇ I₇ S7 eb'=>?_))));have eb':b'=!b:=eb';have S7':=S5'.trans (S6.trans S7);by_cases hN0:N=0
   ·rw[if_pos hN0]at h6;obtain⟨rfl,rfl⟩:=af h6;rw[eb',eb,hN0];exact wpAny_pure (q _ _ _ I₇ S7'.nil rfl)
   ·rw[if_neg hN0]at h6;refine aj h6 λz V4 h7 h8=>?_;clear h6;obtain⟨rfl,rfl⟩:=af h8;have e4:=(iG h7).1;subst e4;have hb1:b'=false:=by
     rw[eb',eb];have:(N !=0)=true:=by simp[hN0]
     rw[this];rfl
    rw[hb1];refine(?_:wpAny _ _ (eval (.Call _ _ _ _) _) _ _ _);have FF7:=FF.keepE S7';obtain⟨dx7,vs7,n₇,J₇⟩:=J.keep (X:=X) I₇ S7' hr hC;refine fb rfl hp (le_of_ble_eq_true rfl) rfl ?_;refine wpAny_Call_NameR (FF7.blt X (a0 hs rfl) I₇.top (by decide) (by decide) boot_str ?_);refine callWith_type1 (FF7.name (a0 hs rfl) rfl ?_);refine uO (A:=A.deeper (callEnv fd s.heap.objs.size f)) J₇ hz hzt h7 HS I₇ hh (by show A.depth+1+4<_;lia) (by show A.units+3+83<_;lia) _ E λy s₈ G₈ I₈ S8 ry pl=>?_;obtain⟨⟨t,rfl⟩,hzok⟩:=ry;refine GM.isspace (Calls.callWith_builtin rfl (PySem.evalArgs_none ?_));refine kh (fp:=[]) I₈ _ E λy s₉ G₉ I₉ S9 ry=>?_;exact q _ _ _ I₉ (S7'.trans (S8.trans S9)).nil ry
  ·rw[if_neg hk0]at h4;obtain⟨rfl,rfl⟩:=af h4;rw[eb,decide_eq_false hk0];refine wpAny_pure ?_;have rc':c=.bool false:=by have:c=.bool (decide (LS=0)):=rc;rw[this,decide_eq_false hk0]
   rw[rc'];exact q _ _ _ LV S5'.nil rfl
def lu(X:eU K W n₀)(t₀:gI n₀)(prog:Program)(w:World)(f:Addr)(p:List PV->Mo PV):Prop:=∀{A:Around} {G:Gh} {s:Shared} {V V':aI} {as:List PV} {vs:List Value} {v:PV},p as V=some (v,V')->Inv (ai X t₀) s G V->aC G.ad vs as->aL 10 A->jm (ai X t₀) prog w A G s (.call (.ref f) ⟨vs,[]⟩) V' (bj v)
theorem Meets.ok{p:List PV->Mo PV}{lo:Nat}(h:Meets X t₀ prog w f p lo)(hlo:lo<=9):lu X t₀ prog w f p:=
 λhp I r hA=>h hp I r hA.1 (by have:=hA.2.1;lia) (by have:=hA.2.2;lia)
structure AN(X:eU K W n₀)(t₀:gI n₀)(prog:Program)(w:World)(C fL fS:Addr):Prop where
 hone:∀C',(C',("_Accumulator":Str))∈W.clss->C'=C
 hl:findIn K (.ref C) ("__len__":Str)=some (some (.ref fL))
 hlt:typeIn K (.ref fL)=some (.type "function")
 len:Meets X t₀ prog w fL (kM W) 4
 hs:findIn K (.ref C) ("__str__":Str)=some (some (.ref fS))
 hst:typeIn K (.ref fS)=some (.type "function")
 str:Meets X t₀ prog w fS (lI W) 4
 prims:m1 (λf=>f.2.1=some ("_Accumulator":Str)->∀p,fF W f.2.2=some p->lu X t₀ prog w f.1 p) W.fns
set_option tactic.hygienic true in
theorem Bg(X:eU K W n₀)(H:AN X t₀ prog w C fL fS)(ht:1<=t₀.toks) (hM:W.clss.all (λc=>if decide (c.2=("_Accumulator":Str))then ll K c.1 else makesIn K c.1)=true):bC (ai X t₀) prog w (W.tab prog)where
 toNames:=qQ X t₀ prog
 tok:=ht
 getA h I r _:=B5 X h I r
 setA h I r r' _:=ve X h I r r'
 meth h hl I r _:=En X h hl I r
 bound h _ I r _:=yM X h I r
 item h hc h0 hp hx I r _:=Dk X h hc h0 hp hx I r
 itemPy h hc I r:=wU X h hc I r
 lenA:=by intro A i v C' fs xs ov V V' G s hr h I r hA;have h:kM W [.ref i] V=some (v,V'):=h;unfold kM at h;refine aj h λk V1 h1 h2=>?_;obtain⟨rfl,rfl⟩:=af h2;have h3:=fT h1;obtain⟨rfl,C₂,fs2,xs2,_,_,hr2,hC,_⟩:=h3;obtain rfl:=H.hone _ hC;obtain⟨a,dx,vs,n,rfl,J⟩:=I.accAt X hr2 hC r;exact CQ J H.hl H.hlt h1 H.len I hA.1 (by have:=hA.2.1;lia) (by have:=hA.2.2;lia)
 strA:=by intro A i v C' fs xs ov V V' G s hr h I r hA;have h:lI W [.ref i] V=some (v,V'):=h;unfold lI at h;refine aj h λk V1 h1 h2=>?_;obtain⟨rfl,rfl⟩:=af h2;have h3:=iG h1;obtain⟨rfl,C₂,fs2,xs2,_,hr2,hC,_⟩:=h3;obtain rfl:=H.hone _ hC;obtain⟨a,dx,vs,n,rfl,J⟩:=I.accAt X hr2 hC r;exact uO J H.hs H.hst h1 H.str I hA.1 (by have:=hA.2.1;lia) (by have:=hA.2.2;lia)
 isCls hc hpl h:=yN X hc hpl h
 isFn _ hf hP:=Cg X hf hP
 prim:=by
  intro A a p as vs v V V' G s h hp I r hA;have h:((W.fns.lookup a).bind λf=>if f.1=some ("_Accumulator":Str)then fF W f.2 else none)=some p:=h;obtain⟨f,hf,h⟩:=bind_eq_some_iff.mp h;split at h
  ·rename_i e;exact H.prims.mem (d9 hf) e p h hp I r hA
  ·cases h
 make hc hi I r hA hinit:=Cw X hM hc hi I r hA hinit
noncomputable def aR:bU where
 fns:=[(28,none,"_substitution_cost"),(35,none,"_levenshtein_distance"),(49,some "_ValueFormatter","__init__"),(56,some "_ValueFormatter","_str"),(70,some "_ValueFormatter","newline"),(105,some "_ValueFormatter","_append_chunk"),(129,some "_Accumulator","__init__"),(136,some "_Accumulator","push"),(144,some "_Accumulator","pop_from"),(152,some "_Accumulator","pop"),(159,some "_Accumulator","__len__"),(166,some "_Accumulator","__str__"),(174,some "_Accumulator","reset"),(181,some "_Accumulator","is_onlyws"),(189,some "_Accumulator","part_count"),(213,some "Whitespace","__init__"),(220,some "Whitespace","longest_run_of_spaces"),(227,some "Whitespace","indent_level"),(248,some "Whitespace","less"),(269,none,"_law_lead"),(274,none,"_law_rows"),(281,none,"_law_columns"),(286,none,"_law_hangs"),(293,none,"_law_ways"),(298,none,"_law_table"),(303,none,"_law_turned"),(308,none,"law")]
 clss:=[(258,"Whitespace"),(108,"_ValueFormatter"),(192,"_Accumulator")]
 consts:=[("NL",.str "\n"),("EMPTYSTRING",.str ""),("_MAX_STRING_SIZE",.int 40),("_MOVE_COST",.int 2),("_CASE_COST",.int 1)]
 vals:=[("Whitespace",[("S",.str " "),("T",.str "\t")])]
theorem jr(P:Params)(l:List (Str×Tok×Value)):StrKeys (uF P l).toArray:=λe he=>by unfold uF at he;obtain⟨x,_,rfl⟩:=mem_map.mp (List.mem_toArray.mp he);exact⟨_,_,rfl⟩
theorem Kf(P:Params)(h1:∀a o,(K2 P).lookup a=some o->a<n₀)(h2:builtinsNs<n₀):eU (K2 P) aR n₀ where
 low:=by kernel_rfl
 lowN:=h1
 pos:=h2
 main:=⟨_,_,rfl,jr _ _⟩
 stat:=⟨_,_,rfl,jr _ _⟩
 lim:=by kernel_rfl
 third:=by kernel_rfl
 noSuper:=by kernel_rfl
 bmod:=⟨4,_,by kernel_rfl,rfl,rfl,rfl,rfl,by decide⟩
 consts:=by kernel_rfl
 clsg:=by kernel_rfl
 fnsg:=by kernel_rfl
 noB:=by kernel_rfl
 cls:=by kernel_rfl
 meths:=by kernel_rfl
 accs:=by kernel_rfl
 fnsI:=by kernel_rfl
 keep:=by kernel_rfl
 vals:=by kernel_rfl
noncomputable def mF(n:Str)(clo:List (Str×Addr))(dV pm code ct:Value)(f:Fn):FuncData:=
 {name:=n,qualname:=f.qual,params:=f.params,body:=.stmts f.body,scope:=f.scope,globals:=mainGlobals,closure:=clo,defaults:=dV,kwdefaults:=.none,doc:=.none,pyModule:=pm,annotations:=none,code:=code,closureTuple:=ct,builtins:=builtinsNs}
theorem dg{c:Option Str}{n:Str}{clo:List (Str×Addr)}{f:Fn}(h:Mine.fnIn p c n=some f):(cQ p c n clo dV pm code ct).data=.func (mF n clo dV pm code ct f):=by unfold cQ;rw[h];rfl
noncomputable def lC(p:Program)(c:Option Str)(n:Str):Fn:=(Mine.fnIn p c n).getD ⟨n,⟨[],[],none,[],[],none,[]⟩,[],⟨.function,[],true,false,[]⟩⟩
theorem rn{c:Option Str}{n:Str}(h:(Mine.fnIn p c n).isSome=true):Mine.fnIn p c n=some (lC p c n):=by
 unfold lC;cases e:Mine.fnIn p c n with
 |none=>rw[e]at h;cases h
 |some f=>rfl
theorem br{c:Option Str}{n:Str}(h:(Mine.fnIn p c n).isSome=true)(ok:re (lC p c n)=true)(hk:K.lookup a=some (cQ p c n [] dV pm code ct))(hc:codeIn K code (lC p c n).qual=true) (hb:∀vals:List Value,vals.length=(lC p c n).params.args.length->bindArgs (mF n [] dV pm code ct (lC p c n)) ⟨vals,[]⟩=pure (((lC p c n).params.args.map (·.arg)).zip vals)):cE K p (a,c,n):=
 ⟨_,_,_,rn h,ok,hk,dg (rn h),rfl,rfl,rfl,rfl,rfl,hc,hb⟩
theorem rS{α:Type}{R:List α->Prop}(h:R []):∀l:List α,l.length=0->R l:=λl e=>by
 cases l with
 |nil=>exact h
 |cons _ _=>cases e
theorem iO{α:Type}{R:List α->Prop}(h:∀a,∀l:List α,l.length=k->R (a::l)):∀l:List α,l.length=k+1->R l:=λl e=>by
 cases l with
 |nil=>cases e
 |cons a l=>exact h a l (Nat.succ.inj e)
theorem vals1{R:List Value->Prop}(e:k=1)(h:∀a,R [a]):∀vals:List Value,vals.length=k->R vals:=e▸iO λa=>rS (h a)
theorem vals2{R:List Value->Prop}(e:k=2)(h:∀a b,R [a,b]):∀vals:List Value,vals.length=k->R vals:=e▸iO λa=>iO λb=>rS (h a b)
theorem vals3{R:List Value->Prop}(e:k=3)(h:∀a b c,R [a,b,c]):∀vals:List Value,vals.length=k->R vals:=e▸iO λa=>iO λb=>iO λc=>rS (h a b c)
theorem vals4{R:List Value->Prop}(e:k=4)(h:∀a b c d,R [a,b,c,d]):∀vals:List Value,vals.length=k->R vals:=e▸iO λa=>iO λb=>iO λc=>iO λd=>rS (h a b c d)
theorem Iz{R:List Value->Prop}(e:k=5)(h:∀a b c d f,R [a,b,c,d,f]):∀vals:List Value,vals.length=k->R vals:=e▸iO λa=>iO λb=>iO λc=>iO λd=>iO λf=>rS (h a b c d f)
section
variable (P:Params)
theorem IQ:cE (K2 P) cq (28,none,"_substitution_cost"):=br (by kernel_rfl) (by kernel_rfl) rfl (by kernel_rfl) (vals2 (by kernel_rfl) λ_ _=>by kernel_rfl)
theorem H2:cE (K2 P) cq (35,none,"_levenshtein_distance"):=br (by kernel_rfl) (by kernel_rfl) rfl (by kernel_rfl) (vals3 (by kernel_rfl) λ_ _ _=>by kernel_rfl)
theorem Ip:cE (K2 P) cq (49,some "_ValueFormatter","__init__"):=br (by kernel_rfl) (by kernel_rfl) rfl (by kernel_rfl) (Iz (by kernel_rfl) λ_ _ _ _ _=>by kernel_rfl)
theorem I6:cE (K2 P) cq (56,some "_ValueFormatter","_str"):=br (by kernel_rfl) (by kernel_rfl) rfl (by kernel_rfl) (vals2 (by kernel_rfl) λ_ _=>by kernel_rfl)
theorem Jg:cE (K2 P) cq (70,some "_ValueFormatter","newline"):=br (by kernel_rfl) (by kernel_rfl) rfl (by kernel_rfl) (vals1 (by kernel_rfl) λ_=>by kernel_rfl)
theorem FR:cE (K2 P) cq (105,some "_ValueFormatter","_append_chunk"):=br (by kernel_rfl) (by kernel_rfl) rfl (by kernel_rfl) (vals3 (by kernel_rfl) λ_ _ _=>by kernel_rfl)
theorem Ht:cE (K2 P) cq (213,some "Whitespace","__init__"):=br (by kernel_rfl) (by kernel_rfl) rfl (by kernel_rfl) (vals2 (by kernel_rfl) λ_ _=>by kernel_rfl)
theorem GY:cE (K2 P) cq (220,some "Whitespace","longest_run_of_spaces"):=br (by kernel_rfl) (by kernel_rfl) rfl (by kernel_rfl) (vals1 (by kernel_rfl) λ_=>by kernel_rfl)
theorem Hl:cE (K2 P) cq (227,some "Whitespace","indent_level"):=br (by kernel_rfl) (by kernel_rfl) rfl (by kernel_rfl) (vals2 (by kernel_rfl) λ_ _=>by kernel_rfl)
theorem Ft:cE (K2 P) cq (248,some "Whitespace","less"):=br (by kernel_rfl) (by kernel_rfl) rfl (by kernel_rfl) (vals2 (by kernel_rfl) λ_ _=>by kernel_rfl)
theorem F9:cE (K2 P) cq (269,none,"_law_lead"):=br (by kernel_rfl) (by kernel_rfl) rfl (by kernel_rfl) (vals1 (by kernel_rfl) λ_=>by kernel_rfl)
theorem GS:cE (K2 P) cq (274,none,"_law_rows"):=br (by kernel_rfl) (by kernel_rfl) rfl (by kernel_rfl) (vals4 (by kernel_rfl) λ_ _ _ _=>by kernel_rfl)
theorem Fv:cE (K2 P) cq (281,none,"_law_columns"):=br (by kernel_rfl) (by kernel_rfl) rfl (by kernel_rfl) (vals1 (by kernel_rfl) λ_=>by kernel_rfl)
theorem FX:cE (K2 P) cq (286,none,"_law_hangs"):=br (by kernel_rfl) (by kernel_rfl) rfl (by kernel_rfl) (vals1 (by kernel_rfl) λ_=>by kernel_rfl)
theorem G4:cE (K2 P) cq (293,none,"_law_ways"):=br (by kernel_rfl) (by kernel_rfl) rfl (by kernel_rfl) (vals1 (by kernel_rfl) λ_=>by kernel_rfl)
theorem Gf:cE (K2 P) cq (298,none,"_law_table"):=br (by kernel_rfl) (by kernel_rfl) rfl (by kernel_rfl) (vals2 (by kernel_rfl) λ_ _=>by kernel_rfl)
theorem FD:cE (K2 P) cq (303,none,"_law_turned"):=br (by kernel_rfl) (by kernel_rfl) rfl (by kernel_rfl) (vals3 (by kernel_rfl) λ_ _ _=>by kernel_rfl)
theorem Hk:cE (K2 P) cq (308,none,"law"):=br (by kernel_rfl) (by kernel_rfl) rfl (by kernel_rfl) (vals1 (by kernel_rfl) λ_=>by kernel_rfl)
theorem ET:m1 (λf=>Bn aR f.2=true∨cE (K2 P) cq f) aR.fns:=
 ⟨.inr (IQ P),.inr (H2 P),.inr (Ip P),.inr (I6 P),.inr (Jg P),.inr (FR P),.inl (by kernel_rfl),.inl (by kernel_rfl),.inl (by kernel_rfl),.inl (by kernel_rfl),.inl (by kernel_rfl),.inl (by kernel_rfl),.inl (by kernel_rfl),.inl (by kernel_rfl),.inl (by kernel_rfl),.inr (Ht P),.inr (GY P),.inr (Hl P),.inr (Ft P),.inr (F9 P),.inr (GS P),.inr (Fv P),.inr (FX P),.inr (G4 P),.inr (Gf P),.inr (FD P),.inr (Hk P),trivial⟩
theorem Gu:aR.clss.all (λc=>if decide (c.2=("_Accumulator":Str))then ll (K2 P) c.1 else makesIn (K2 P) c.1)=true:=by kernel_rfl
end
noncomputable def Gj:Fn:=⟨Str.ofString "_Accumulator.__init__",⟨[],[{arg:=Str.ofString "self",annotation:=none,pos:=⟨123,17,123,21⟩},{arg:=Str.ofString "initial_size",annotation:=none,pos:=⟨123,23,123,35⟩}],none,[],[],none,[.Constant (.int 0) 0 ⟨123,36,123,37⟩]⟩,[.Assign [.Attribute (.Name "self" ⟨124,8,124,12⟩) "_initial_size" ⟨124,8,124,26⟩] (.Name "initial_size" ⟨124,29,124,41⟩) ⟨124,8,124,41⟩,.Expr (.Call (.Attribute (.Call (.Name "super" ⟨125,8,125,13⟩) [] [] ⟨125,8,125,15⟩) "__init__" ⟨125,8,125,24⟩) [] [] ⟨125,8,125,26⟩) ⟨125,8,125,26⟩],⟨.function,[("self",.local),("initial_size",.local),("__class__",.free),("super",.globalImplicit)],false,false,[]⟩⟩
noncomputable def Gm:Fn:=⟨Str.ofString "_Accumulator.push",⟨[],[{arg:=Str.ofString "self",annotation:=none,pos:=⟨127,13,127,17⟩},{arg:=Str.ofString "fws",annotation:=none,pos:=⟨127,19,127,22⟩},{arg:=Str.ofString "string",annotation:=none,pos:=⟨127,24,127,30⟩}],none,[],[],none,[]⟩,[.Expr (.Call (.Attribute (.Name "self" ⟨128,8,128,12⟩) "append" ⟨128,8,128,19⟩) [.Tuple [.Name "fws" ⟨128,21,128,24⟩,.Name "string" ⟨128,26,128,32⟩] 0 ⟨128,20,128,33⟩] [] ⟨128,8,128,34⟩) ⟨128,8,128,34⟩],⟨.function,[("self",.local),("fws",.local),("string",.local)],false,false,[]⟩⟩
noncomputable def uB:Fn:=⟨Str.ofString "_Accumulator.pop_from",⟨[],[{arg:=Str.ofString "self",annotation:=none,pos:=⟨130,17,130,21⟩},{arg:=Str.ofString "i",annotation:=none,pos:=⟨130,23,130,24⟩}],none,[],[],none,[.Constant (.int 0) 0 ⟨130,25,130,26⟩]⟩,[.Assign [.Name "popped" ⟨131,8,131,14⟩] (.Subscript (.Name "self" ⟨131,17,131,21⟩) (.Slice (some (.Name "i" ⟨131,22,131,23⟩)) none none ⟨131,22,131,24⟩) ⟨131,17,131,25⟩) ⟨131,8,131,25⟩,.Assign [.Subscript (.Name "self" ⟨132,8,132,12⟩) (.Slice (some (.Name "i" ⟨132,13,132,14⟩)) none none ⟨132,13,132,15⟩) ⟨132,8,132,16⟩] (.List [] ⟨132,19,132,21⟩) ⟨132,8,132,21⟩,.Return (some (.Name "popped" ⟨133,15,133,21⟩)) ⟨133,8,133,21⟩],⟨.function,[("self",.local),("i",.local),("popped",.local)],false,false,[]⟩⟩
noncomputable def Jc:Fn:=⟨Str.ofString "_Accumulator.pop",⟨[],[{arg:=Str.ofString "self",annotation:=none,pos:=⟨135,12,135,16⟩}],none,[],[],none,[]⟩,[.If (.Compare (.Call (.Attribute (.Name "self" ⟨136,11,136,15⟩) "part_count" ⟨136,11,136,26⟩) [] [] ⟨136,11,136,28⟩) [.Eq] [.Constant (.int 0) 0 ⟨136,32,136,33⟩] ⟨136,11,136,33⟩) [.Return (some (.Tuple [.Constant (.str "") 0 ⟨137,20,137,22⟩,.Constant (.str "") 0 ⟨137,24,137,26⟩] 0 ⟨137,19,137,27⟩)) ⟨137,12,137,27⟩] [] ⟨136,8,137,27⟩,.Return (some (.Call (.Attribute (.Call (.Name "super" ⟨138,15,138,20⟩) [] [] ⟨138,15,138,22⟩) "pop" ⟨138,15,138,26⟩) [] [] ⟨138,15,138,28⟩)) ⟨138,8,138,28⟩],⟨.function,[("self",.local),("__class__",.free),("super",.globalImplicit)],false,false,[]⟩⟩
noncomputable def HH:Fn:=⟨Str.ofString "_Accumulator.__len__",⟨[],[{arg:=Str.ofString "self",annotation:=none,pos:=⟨140,16,140,20⟩}],none,[],[],none,[]⟩,[.Return (some (.Call (.Name "sum" ⟨141,15,141,18⟩) [.GeneratorExp (.BinOp (.Call (.Name "len" ⟨141,20,141,23⟩) [.Name "fws" ⟨141,24,141,27⟩] [] ⟨141,20,141,28⟩) .Add (.Call (.Name "len" ⟨141,31,141,34⟩) [.Name "part" ⟨141,35,141,39⟩] [] ⟨141,31,141,40⟩) ⟨141,20,141,40⟩) [{target:=.Tuple [.Name "fws" ⟨141,45,141,48⟩,.Name "part" ⟨141,50,141,54⟩] 0 ⟨141,45,141,54⟩,iter:=.Name "self" ⟨141,58,141,62⟩,ifs:=[],is_async:=0}] ⟨.function,[(".0",.local),("fws",.local),("part",.local),("len",.globalImplicit)],true,false,[]⟩ ⟨141,19,141,63⟩,.Attribute (.Name "self" ⟨141,65,141,69⟩) "_initial_size" ⟨141,65,141,83⟩] [] ⟨141,15,141,84⟩)) ⟨141,8,141,84⟩],⟨.function,[("self",.local),("sum",.globalImplicit)],false,false,[]⟩⟩
noncomputable def Ib:Fn:=⟨Str.ofString "_Accumulator.__str__",⟨[],[{arg:=Str.ofString "self",annotation:=none,pos:=⟨143,16,143,20⟩}],none,[],[],none,[]⟩,[.Return (some (.Call (.Attribute (.Name "EMPTYSTRING" ⟨144,15,144,26⟩) "join" ⟨144,15,144,31⟩) [.GeneratorExp (.Call (.Attribute (.Name "EMPTYSTRING" ⟨144,33,144,44⟩) "join" ⟨144,33,144,49⟩) [.Tuple [.Name "fws" ⟨144,51,144,54⟩,.Name "part" ⟨144,56,144,60⟩] 0 ⟨144,50,144,61⟩] [] ⟨144,33,144,62⟩) [{target:=.Tuple [.Name "fws" ⟨144,67,144,70⟩,.Name "part" ⟨144,72,144,76⟩] 0 ⟨144,67,144,76⟩,iter:=.Name "self" ⟨144,80,144,84⟩,ifs:=[],is_async:=0}] ⟨.function,[(".0",.local),("fws",.local),("part",.local),("EMPTYSTRING",.globalImplicit)],true,false,[]⟩ ⟨144,32,144,85⟩] [] ⟨144,15,144,86⟩)) ⟨144,8,144,86⟩],⟨.function,[("self",.local),("EMPTYSTRING",.globalImplicit)],false,false,[]⟩⟩
noncomputable def DW:Fn:=⟨Str.ofString "_Accumulator.reset",⟨[],[{arg:=Str.ofString "self",annotation:=none,pos:=⟨146,14,146,18⟩},{arg:=Str.ofString "startval",annotation:=none,pos:=⟨146,20,146,28⟩}],none,[],[],none,[.Constant .none 0 ⟨146,29,146,33⟩]⟩,[.If (.Compare (.Name "startval" ⟨147,11,147,19⟩) [.Is] [.Constant .none 0 ⟨147,23,147,27⟩] ⟨147,11,147,27⟩) [.Assign [.Name "startval" ⟨148,12,148,20⟩] (.List [] ⟨148,23,148,25⟩) ⟨148,12,148,25⟩] [] ⟨147,8,148,25⟩,.Assign [.Subscript (.Name "self" ⟨149,8,149,12⟩) (.Slice none none none ⟨149,13,149,14⟩) ⟨149,8,149,15⟩] (.Name "startval" ⟨149,18,149,26⟩) ⟨149,8,149,26⟩,.Assign [.Attribute (.Name "self" ⟨150,8,150,12⟩) "_initial_size" ⟨150,8,150,26⟩] (.Constant (.int 0) 0 ⟨150,29,150,30⟩) ⟨150,8,150,30⟩],⟨.function,[("self",.local),("startval",.local)],false,false,[]⟩⟩
noncomputable def qU:Fn:=⟨Str.ofString "_Accumulator.is_onlyws",⟨[],[{arg:=Str.ofString "self",annotation:=none,pos:=⟨152,18,152,22⟩}],none,[],[],none,[]⟩,[.Return (some (.BoolOp .And [.Compare (.Attribute (.Name "self" ⟨153,15,153,19⟩) "_initial_size" ⟨153,15,153,33⟩) [.Eq] [.Constant (.int 0) 0 ⟨153,37,153,38⟩] ⟨153,15,153,38⟩,.BoolOp .Or [.UnaryOp .Not (.Name "self" ⟨153,48,153,52⟩) ⟨153,44,153,52⟩,.Call (.Attribute (.Call (.Name "str" ⟨153,56,153,59⟩) [.Name "self" ⟨153,60,153,64⟩] [] ⟨153,56,153,65⟩) "isspace" ⟨153,56,153,73⟩) [] [] ⟨153,56,153,75⟩] ⟨153,44,153,75⟩] ⟨153,15,153,76⟩)) ⟨153,8,153,76⟩],⟨.function,[("self",.local),("str",.globalImplicit)],false,false,[]⟩⟩
noncomputable def pe:Fn:=⟨Str.ofString "_Accumulator.part_count",⟨[],[{arg:=Str.ofString "self",annotation:=none,pos:=⟨155,19,155,23⟩}],none,[],[],none,[]⟩,[.Return (some (.Call (.Attribute (.Call (.Name "super" ⟨156,15,156,20⟩) [] [] ⟨156,15,156,22⟩) "__len__" ⟨156,15,156,30⟩) [] [] ⟨156,15,156,32⟩)) ⟨156,8,156,32⟩],⟨.function,[("self",.local),("__class__",.free),("super",.globalImplicit)],false,false,[]⟩⟩
section
variable (P:Params) (X:eU (K2 P) aR n₀) (t₀:gI n₀) (w:World)
noncomputable def CI:Value:=.str "cpy313.email.header" 230
noncomputable def E7:FuncData:=mF "__init__" [("__class__",116)] (.ref 121) CI (.ref 128) (.ref 122) Gj
noncomputable def HI:FuncData:=mF "push" [] .none CI (.ref 135) .none Gm
noncomputable def Jd:FuncData:=mF "pop_from" [] (.ref 137) CI (.ref 143) .none uB
noncomputable def EO:FuncData:=mF "pop" [("__class__",116)] .none CI (.ref 151) (.ref 145) Jc
noncomputable def IK:FuncData:=mF "__len__" [] .none CI (.ref 158) .none HH
noncomputable def Iv:FuncData:=mF "__str__" [] .none CI (.ref 165) .none Ib
noncomputable def HQ:FuncData:=mF "reset" [] (.ref 167) CI (.ref 173) .none DW
noncomputable def HZ:FuncData:=mF "is_onlyws" [] .none CI (.ref 180) .none qU
noncomputable def EU:FuncData:=mF "part_count" [("__class__",116)] .none CI (.ref 188) (.ref 182) pe
theorem Gy:PFn (K2 P) 129 E7:=⟨⟨_,rfl,dg (by kernel_rfl)⟩,by kernel_rfl,rfl,rfl,rfl,rfl,rfl⟩
theorem Gl:PFn (K2 P) 136 HI:=⟨⟨_,rfl,dg (by kernel_rfl)⟩,by kernel_rfl,rfl,rfl,rfl,rfl,rfl⟩
theorem GW:PFn (K2 P) 144 Jd:=⟨⟨_,rfl,dg (by kernel_rfl)⟩,by kernel_rfl,rfl,rfl,rfl,rfl,rfl⟩
theorem GP:PFn (K2 P) 152 EO:=⟨⟨_,rfl,dg (by kernel_rfl)⟩,by kernel_rfl,rfl,rfl,rfl,rfl,rfl⟩
theorem G0:PFn (K2 P) 159 IK:=⟨⟨_,rfl,dg (by kernel_rfl)⟩,by kernel_rfl,rfl,rfl,rfl,rfl,rfl⟩
theorem G9:PFn (K2 P) 166 Iv:=⟨⟨_,rfl,dg (by kernel_rfl)⟩,by kernel_rfl,rfl,rfl,rfl,rfl,rfl⟩
theorem G5:PFn (K2 P) 174 HQ:=⟨⟨_,rfl,dg (by kernel_rfl)⟩,by kernel_rfl,rfl,rfl,rfl,rfl,rfl⟩
theorem Hh:PFn (K2 P) 181 HZ:=⟨⟨_,rfl,dg (by kernel_rfl)⟩,by kernel_rfl,rfl,rfl,rfl,rfl,rfl⟩
theorem Hm:PFn (K2 P) 189 EU:=⟨⟨_,rfl,dg (by kernel_rfl)⟩,by kernel_rfl,rfl,rfl,rfl,rfl,rfl⟩
theorem G1:kq (K2 P) cq 129 192 E7:=⟨Gy P,⟨116,rfl,rfl⟩,⟨128,_,_,_,_,rfl,rfl,rfl,rfl,by kernel_rfl⟩,by kernel_rfl,⟨_,rfl,rfl⟩,rfl,rfl,rfl⟩
theorem GL:kq (K2 P) cq 152 192 EO:=⟨GP P,⟨116,rfl,rfl⟩,⟨151,_,_,_,_,rfl,rfl,rfl,rfl,by kernel_rfl⟩,by kernel_rfl,⟨_,rfl,rfl⟩,rfl,rfl,rfl⟩
theorem GD:kq (K2 P) cq 189 192 EU:=⟨Hm P,⟨116,rfl,rfl⟩,⟨188,_,_,_,_,rfl,rfl,rfl,rfl,by kernel_rfl⟩,by kernel_rfl,⟨_,rfl,rfl⟩,rfl,rfl,rfl⟩
theorem sd:∀C',(C',("_Accumulator":Str))∈aR.clss->C'=192:=λC' h=>by
 have:∀l:List (Addr×Str),l.all (λc=>!decide (c.2=("_Accumulator":Str))||decide (c.1=192))=true->(C',("_Accumulator":Str))∈l->C'=192:=λl hl hm=>by have q:=dU hl hm;dsimp only at q;rw[decide_eq_true rfl]at q;simpa using q
 exact this _ (by kernel_rfl) h
variable {P X t₀ w}
theorem Ku:Meets X t₀ cq w 129 (sj aR) 4:=xW (G1 P) sd rfl rfl (by decide) rfl (λs x y hK=>BindsTo.of_defaults rfl (hK 121 _ rfl) rfl rfl rfl) (t0:=356) λs x hK=>BindsTo.of_defaults rfl (hK 121 _ rfl) rfl rfl rfl
theorem JX:lu X t₀ cq w 136 (nr aR):=λh I r hA=>xh (X:=X) (Gl P) rfl rfl rfl (λx y z=>by kernel_rfl) h I r hA
theorem Kp:Meets X t₀ cq w 144 (gJ aR) 4:=pQ (GW P) rfl rfl λs x y hK=>BindsTo.of_defaults rfl (hK 137 _ rfl) rfl rfl rfl
theorem H4:Meets X t₀ cq w 189 (gv aR) 1:=λh I r hh hd hu=>tm (GD P) sd rfl rfl (by decide) (λx=>by kernel_rfl) h I r (by(exact Nat.le_of_lt (by assumption)))
theorem JY:Meets X t₀ cq w 152 (zB aR) 4:=z5 (f₂:=189) (GL P) sd rfl rfl rfl (by decide) (λx=>by kernel_rfl) (by kernel_rfl) (by kernel_rfl) (by kernel_rfl) H4
theorem Kk:Meets X t₀ cq w 174 (iI aR) 4:=tz (G5 P) rfl rfl (λs x y hK=>BindsTo.of_defaults rfl (hK 167 _ rfl) rfl rfl rfl) λs x hK=>BindsTo.of_defaults rfl (hK 167 _ rfl) rfl rfl rfl
theorem FP(hc:(158,154)∈t₀.codes):Meets X t₀ cq w 159 (kM aR) 4:=yE (G0 P) rfl rfl rfl rfl hc λx=>by kernel_rfl
theorem GZ(hc:(165,161)∈t₀.codes):Meets X t₀ cq w 166 (lI aR) 4:=zN (G9 P) rfl rfl rfl (by kernel_rfl) rfl rfl rfl hc λx=>by kernel_rfl
theorem J9(h1:(158,154)∈t₀.codes)(h2:(165,161)∈t₀.codes):Meets X t₀ cq w 181 (jw aR) 6:=
 qp (C:=192) (fL:=159) (fS:=166) (Hh P) sd rfl rfl rfl (λx=>by kernel_rfl) (by kernel_rfl) (by kernel_rfl) (FP h1) (by kernel_rfl) (by kernel_rfl) (GZ h2)
theorem dE{X:eU K W n₀}{n:Str}{q:List PV->Mo PV}(e:fF W n=some q)(h:lu X t₀ prog w f q):∀p,fF W n=some p->lu X t₀ prog w f p:=λp ep=>by rw[e]at ep;cases ep;exact h
theorem bF{c:Option Str}{R:Prop}(h:decide (c=some ("_Accumulator":Str))=false):c=some ("_Accumulator":Str)->R:=λe=>absurd e (of_decide_eq_false h)
theorem JU(h1:(158,154)∈t₀.codes)(h2:(165,161)∈t₀.codes):AN X t₀ cq w 192 159 166 where
 hone:=sd
 hl:=by kernel_rfl
 hlt:=by kernel_rfl
 len:=FP h1
 hs:=by kernel_rfl
 hst:=by kernel_rfl
 str:=GZ h2
 prims:=⟨bF (by kernel_rfl),bF (by kernel_rfl),bF (by kernel_rfl),bF (by kernel_rfl),bF (by kernel_rfl),bF (by kernel_rfl),λ_=>dE (by kernel_rfl) (Meets.ok Ku (by(exact le_add_left ..))),λ_=>dE (by kernel_rfl) JX,λ_=>dE (by kernel_rfl) (Meets.ok Kp (by lia)),λ_=>dE (by kernel_rfl) (Meets.ok JY (by lia)),λ_=>dE (by kernel_rfl) (Meets.ok (FP h1) (by lia)),λ_=>dE (by kernel_rfl) (Meets.ok (GZ h2) (by lia)),λ_=>dE (by kernel_rfl) (Meets.ok Kk (by lia)),λ_=>dE (by kernel_rfl) (Meets.ok (J9 h1 h2) (by(exact le_add_left ..))),λ_=>dE (by kernel_rfl) (Meets.ok H4 (by(exact le_add_left ..))),bF (by kernel_rfl),bF (by kernel_rfl),bF (by kernel_rfl),bF (by kernel_rfl),bF (by kernel_rfl),bF (by kernel_rfl),bF (by kernel_rfl),bF (by kernel_rfl),bF (by kernel_rfl),bF (by kernel_rfl),bF (by kernel_rfl),bF (by kernel_rfl),trivial⟩
noncomputable abbrev T2:kp:=aR.tab cq
theorem zE(h1:(158,154)∈t₀.codes)(h2:(165,161)∈t₀.codes)(ht:1<=t₀.toks):bC (ai X t₀) cq w T2:=Bg X (JU h1 h2) ht (Gu P)
theorem y0(h1:(158,154)∈t₀.codes)(h2:(165,161)∈t₀.codes)(ht:1<=t₀.toks)(n:Nat):aP (ai X t₀) cq w (al T2 n) n:=
 nZ (zE h1 h2 ht) (λa f h hp=>yw X (ET P) a f h hp) n
end
section
variable {m:Loc}
theorem nq{xs:List Int}(h:IntsAre vs xs):aC ad vs (xs.map PV.int):=by
 induction h with
 |nil=>exact .nil
 |cons n t _ ih=>exact .cons ⟨t,rfl⟩ ih
theorem oS(X:eU K W n₀)(p:Program)(h:bQ (W.tab p) sc m x V=some (v,V))(I:Inv (ai X t₀) s G V)(F:aF (ai X t₀) env sc m G s.heap):Run (ai X t₀) prog w A [] G s (eval (.Name x pos) env) V (bj v):=by obtain⟨h1,h2⟩:=fQ (prog:=prog) (w:=w) (A:=A) (fp:=[]) (qQ X t₀ p) h I F;exact λQ E q=>wpAny_Name (h1 Q E q) h2
theorem Ek{l:Addr}(hl:s.heap.IsList l vs.toArray)(hb:s.heap.IsList b ws.toArray)(h:Q (.ref s.heap.objs.size) {s with heap:=s.heap.push (aT (vs++ws) 0)}) (hsz:vs.length+ws.length<=sizeLine):wpAny (model prog w) A (binaryOp .Add (.ref l) (.ref b)) Q E s:=by
 obtain⟨⟨cls,dd,data,sl⟩,ho,hc,n,hd⟩:=id hl;obtain⟨⟨cls2,dd2,data2,sl2⟩,ho2,hc2,n2,hd2⟩:=id hb;simp only at hc hd hc2 hd2;subst hc hd hc2 hd2;have e:vs.toArray++ws.toArray=(vs++ws).toArray:=by simp
 refine concat_meets ⟨_,ho,rfl⟩ ⟨_,ho2,rfl⟩ noFill_list_add seq_list_add PySem.F.slot_list_add PySem.F.entry_list_add (PySem.F.args_list_add_2 _ _) (list_addW l b vs.toArray ws.toArray n n2 dd dd2 sl sl2 (by simpa using hsz)) ⟨ho,ho2,?_⟩;rw[e];exact h
theorem mz{value i:Expr}{lo hi:Option Int}{u:Value}(I:Inv Z s G V)(g:s.heap.get? a=some (aT vs n))(r:aC G.ad vs xs)(hl:xs.length<=lim) (gs:s.heap.get? sl=some (bw l u))(pl:gm l lo)(pu:gm u hi):Run Z prog w A [] G s (do let r<-subscripted i (<-getitemInPython (.ref a)) (.ref a) (.ref sl);letTemporaryGo value (.ref a) r;pure r) (V++[.list (c9 xs lo hi)]) (bj (.ref V.length)):=by intro Q E q;have hT:s.TypeIs (.ref a) "list":=⟨_,g,rfl⟩;rw[getitemInPython_of_ne hT.not_modules];refine wpAny_bind (wpAny_bind (wpAny_specialOf hT slot_list_getitem.lookup (wpAny_pure ?_)));obtain⟨l',e⟩:=gB i (.ref a) (.ref sl);refine(?_:wpAny _ _ (subscripted i false (.ref a) (.ref sl)>>=_) _ _ _);rw[e];refine wpAny_bind (wpAny_operating (gO (fp:=[]) I g r hl gs pl pu _ E λy LK G₁ I₁ S1 ry=>?_));exact wpAny_bind (wpAny_letTemporaryGo (wpAny_pure (q y LK G₁ I₁ S1 ry)))
theorem ug{xs:List Int}(p:Program)(I:Inv (ai X t₀) s G [])(F:aF (ai X t₀) env sc m G s.heap) (hm:m ("script":Str)=some (.obj L))(hk:sc.names.lookup ("script":Str)=some .local)(hg:sc.names.lookup ("len":Str)=some .globalImplicit) (hgl:(W.tab p).glob ("len":Str)=none)(hL:s.heap.IsList L vs.toArray)(hLo:G.own L=none)(hI:IntsAre vs xs)(hlen:xs.length<=63) (q:∀y s' G',Inv (ai X t₀) s' G' [.list (c9 [.int 91,.int 12,.int 41,.int 62] (some xs.length) none),.list ((c9 (xs++c9 [91,12,41,62] (some xs.length) none) none (some 4)).map PV.int)]->aK [] G s G' s'->az G'.ad y (.ref 1)->1<=s'.toks->Q y s'):wpAny (model prog w) A (eval (.Subscript (.BinOp (.Name ("script":Str) ⟨282,33,282,39⟩) .Add (.Subscript (.List [.Constant (.int 91) 0 ⟨282,43,282,45⟩,.Constant (.int 12) 0 ⟨282,47,282,49⟩,.Constant (.int 41) 0 ⟨282,51,282,53⟩,.Constant (.int 62) 0 ⟨282,55,282,57⟩] ⟨282,42,282,58⟩) (.Slice (some (.Call (.Name ("len":Str) ⟨282,59,282,62⟩) [.Name ("script":Str) ⟨282,63,282,69⟩] [] ⟨282,59,282,70⟩)) none none ⟨282,59,282,71⟩) ⟨282,42,282,72⟩) ⟨282,33,282,72⟩) (.Slice none (some (.Constant (.int 4) 0 ⟨282,75,282,76⟩)) none ⟨282,74,282,76⟩) ⟨282,32,282,77⟩) env) Q E s:=by
 have vl:vs.length=xs.length:=(nq (ad:=[]) hI).length.trans (length_map ..);rw[arm_eval_Subscript];refine wpAny_bind (wpAny_BinOp ?_);have nS:∀{V:aI},bQ (W.tab p) sc m ("script":Str) V=some (.obj L,V):=by intro V;unfold bQ;rw[if_neg (by decide),hk];dsimp only;rw[hm];rfl
 have nL:∀{V:aI},bQ (W.tab p) sc m ("len":Str) V=some (.blt "len",V):=by intro V;unfold bQ;rw[if_neg (by decide),hg];dsimp only;rw[hgl];rfl
 refine oS X p nS I F _ E λy LK G₁ I₁ S1 ry=>?_;have ry:y=.ref L:=ry;subst ry;have F₁:=F.keepE S1;rw[arm_eval_Subscript];refine wpAny_bind ?_;rw[arm_eval_List];refine wpAny_bind (wpAny_standAt (wpAny_bind (Calls.spliced_cons (wpAny_Constant_int (k:=0) (pos:=⟨282,43,282,45⟩) (Calls.spliced_cons (wpAny_Constant_int (k:=0) (pos:=⟨282,47,282,49⟩) (Calls.spliced_cons (wpAny_Constant_int (k:=0) (pos:=⟨282,51,282,53⟩) (Calls.spliced_cons (wpAny_Constant_int (k:=0) (pos:=⟨282,55,282,57⟩) (Calls.spliced_nil ?_)))))))))));have I₂:Inv (ai X t₀) {LK with toks:=LK.toks+1+1+1+1} G₁ []:=I₁.toks (Nat.le_trans I₁.tok (by lia));have S2:aK [] G s G₁ {LK with toks:=LK.toks+1+1+1+1}:=S1.trans aK.toks;refine wpAny_newObj_type ?_ (by show 4<=sizeLine;rw[sizeLine_eq];(exact le_add_left ..));have g3:({LK with toks:=LK.toks+1+1+1+1}:Shared).heap.get? LK.heap.objs.size=none:=bb (le_refl _);have ows:G₁.own LK.heap.objs.size=none:=I₂.fresh _ g3;have I₃:=I₂.junk (aT [.int 91 LK.toks,.int 12 (LK.toks+1),.int 41 (LK.toks+1+1),.int 62 (LK.toks+1+1+1)] 0) I₂.tok;have S3:aK [] G s G₁ _:=S2.trans (aK.junk (aT [.int 91 LK.toks,.int 12 (LK.toks+1),.int 41 (LK.toks+1+1),.int 62 (LK.toks+1+1+1)] 0) (t:=LK.toks+1+1+1+1));have gc:(LK.heap.push (aT [.int 91 LK.toks,.int 12 (LK.toks+1),.int 41 (LK.toks+1+1),.int 62 (LK.toks+1+1+1)] 0)).get? LK.heap.objs.size=some (aT [.int 91 LK.toks,.int 12 (LK.toks+1),.int 41 (LK.toks+1+1),.int 62 (LK.toks+1+1+1)] 0):=Heap.get?_push_size _ rfl;have F₃:=F.keepE S3;refine wpAny_bind (wpAny_holding ?_);rw[arm_eval_Slice];refine wpAny_bind ?_;refine wpAny_Call_NameR ?_;refine oS X p nL I₃ F₃ _ E λy LX G₄ I₄ S4 ry=>?_;have ry:y=.builtin "len":=ry;subst ry;refine PySem.callWith_builtin1 ?_;refine oS X p nS I₄ (F₃.keepE S4) _ E λy s₅ G₅ LV LY ry=>?_;have ry:y=.ref L:=ry;subst ry;have S5':=S3.trans (S4.trans LY);have lk:∀{s':Shared} {G':Gh},aK [] G s G' s'->s'.heap.IsList L vs.toArray:=λS=>by obtain⟨o,e,hc,r⟩:=hL;exact⟨o,(S.keep L o e hLo (λh=>nomatch h) (.inl (by rw[hc];exact λh=>nomatch h))).1,hc,r⟩
 refine Calls.call_len_list (lk S5') (by rw[size_toArray];lia) ?_;have I₆:Inv (ai X t₀) {s₅ with toks:=s₅.toks+1+1} G₅ []:=LV.toks (Nat.le_trans LV.tok (by lia));have S6:aK [] G s G₅ {s₅ with toks:=s₅.toks+1+1}:=S5'.trans aK.toks;refine wpAny_bind (wpAny_holding (wpAny_pure (wpAny_bind (wpAny_holding (wpAny_pure ?_)))));have ge6:({s₅ with toks:=s₅.toks+1+1}:Shared).heap.get? s₅.heap.objs.size=none:=bb (le_refl _);refine wpAny_newObj_type ?_;have I₇:=I₆.junk (bw (.int vs.toArray.size (s₅.toks+1)) .none) I₆.tok;have T7:aK [] G₅ {s₅ with toks:=s₅.toks+1+1} G₅ _:=aK.junk (bw (.int vs.toArray.size (s₅.toks+1)) .none) (t:=s₅.toks+1+1);have S7:=S6.trans T7;have gc7:=((((S4.trans LY).trans (aK.toks (t:=s₅.toks+1+1))).trans T7).keep _ _ gc ows (λh=>nomatch h) (.inl λh=>nomatch h)).1;refine wpAny_bind (wpAny_standAt ?_);refine mz (vs:=[.int 91 LK.toks,.int 12 (LK.toks+1),.int 41 (LK.toks+1+1),.int 62 (LK.toks+1+1+1)]) (xs:=[.int 91,.int 12,.int 41,.int 62]) (lo:=some xs.length) (hi:=none) I₇ gc7 (.cons ⟨_,rfl⟩ (.cons ⟨_,rfl⟩ (.cons ⟨_,rfl⟩ (.cons ⟨_,rfl⟩ .nil)))) (le_of_ble_eq_true rfl) (Heap.get?_push_size _ rfl) ⟨s₅.toks+1,by rw[size_toArray,vl]⟩ rfl _ E λy s₈ G₈ I₈ S8 ry=>?_;obtain⟨b,hb,rfl⟩:=cu ry;have S8':=S7.trans S8;obtain⟨_,ws,n₈,g₈,r₈⟩:=bp I₈ hb (xs:=c9 [.int 91,.int 12,.int 41,.int 62] (some xs.length) none) rfl;have hw:ws.length<=4:=by rw[r₈.length];exact kU _ _ _
 refine Ek (lk S8') ⟨_,g₈,rfl,n₈,rfl⟩ ?_ (by rw[sizeLine_eq];lia);have I₉:=I₈.junk (aT (vs++ws) 0) I₈.tok;have S9:aK [] G s G₈ _:=S8'.trans (aK.junk (aT (vs++ws) 0) (t:=s₈.toks));have g9:(s₈.heap.push (aT (vs++ws) 0)).get? s₈.heap.objs.size=some (aT (vs++ws) 0):=Heap.get?_push_size _ rfl;have ow9:G₈.own s₈.heap.objs.size=none:=I₈.fresh _ (bb (le_refl _));refine wpAny_bind (wpAny_holding ?_);rw[arm_eval_Slice];refine wpAny_bind (wpAny_pure (wpAny_bind (wpAny_holding (wpAny_Constant_int (k:=0) (pos:=⟨282,75,282,76⟩) (wpAny_bind (wpAny_holding (wpAny_pure ?_)))))));refine wpAny_newObj_type ?_;have I10:=(I₉.toks (Nat.le_trans I₉.tok (le_succ _))).junk (bw .none (.int 4 s₈.toks)) (Nat.le_trans I₉.tok (le_succ _));have T10:aK [] G₈ {s₈ with heap:=s₈.heap.push (aT (vs++ws) 0)} G₈ _:=aK.junk (bw .none (.int 4 s₈.toks)) (t:=s₈.toks+1);have S10:=S9.trans T10;refine wpAny_bind (wpAny_standAt ?_);have rr:=(nq (ad:=G₈.ad) hI).append r₈;refine cy (mz (vs:=vs++ws) (lo:=none) (hi:=some 4) I10 (T10.keep _ _ g9 ow9 (λh=>nomatch h) (.inl λh=>nomatch h)).1 rr (by rw[<-rr.length,List.length_append];have:lim=1000000:=rfl;lia) (Heap.get?_push_size _ rfl) rfl ⟨_,rfl⟩ _ E λy s11 G11 I11 S11 ry lt=>?_);have htk:1<=s11.toks:=Nat.le_trans (succ_le_succ (zero_le _)) (show s₈.toks+1<=s11.toks from lt.1);have e:c9 (xs.map PV.int++c9 [PV.int 91,PV.int 12,PV.int 41,PV.int 62] (some xs.length) none) none (some 4)=(c9 (xs++c9 [91,12,41,62] (some xs.length) none) none (some 4)).map PV.int:=by
  have hmap:∀(l:List Int) (lo hi:Option Int),c9 (l.map PV.int) lo hi=(c9 l lo hi).map PV.int:=λl lo hi=>by unfold c9;rw[length_map,List.map_take,map_drop]
  rw[show [PV.int 91,PV.int 12,PV.int 41,PV.int 62]=[91,12,41,62].map PV.int from rfl,hmap,<-map_append,hmap]
 rw[e]at I11;exact q y _ _ I11 (S10.trans S11) ry htk
end
noncomputable def pP(l a b:Nat):PySem.Pos:=⟨l,a,l,b⟩
end R2
section Pl1x
open PySem
def Wp{α:Type}(x:Mo α)(V:aI)(Q:α->aI->Prop):Prop:=∃a V',x V=some (a,V')/\Q a V'
section
variable {α β:Type} {V:aI} {x:Mo α} {f:α->Mo β} {Q:β->aI->Prop} {R R':α->aI->Prop}
theorem Wp.bd(h:Wp x V λa V'=>Wp (f a) V' Q):Wp (bd x f) V Q:=by obtain⟨a,V',e,b,V'',e',q⟩:=h;exact⟨b,V'',by unfold Mine.bd;rw[e];exact e',q⟩
theorem Wp.ok{a:α}(h:R a V):Wp (Mine.ok a) V R:=⟨a,V,rfl,h⟩
theorem Wp.mono(h:Wp x V R)(k:∀a V',R a V'->R' a V'):Wp x V R':=let⟨a,V',e,q⟩:=h;⟨a,V',e,k _ _ q⟩
theorem Wp.eq{a:α}{V':aI}(e:x V=some (a,V'))(h:R a V'):Wp x V R:=⟨a,V',e,h⟩
theorem Wp.must{b:Bool}{g:Unit->Mo β}(hb:b=true)(h:Wp (g ()) V Q):Wp (Mine.bd (Mine.must b) g) V Q:=.bd (.eq (show Mine.must b V=some ((),V) by unfold Mine.must;rw[hb];rfl) h)
theorem Wp.lift{o:Option α}{a:α}(e:o=some a)(h:Wp (f a) V Q):Wp (Mine.bd (Mine.lift o) f) V Q:=by subst e;exact .bd (.eq rfl h)
theorem Wp.getO{i:Nat}{o:PO}{g:PO->Mo β}(e:V[i]?=some o)(h:Wp (g o) V Q):Wp (Mine.bd (Mine.getO i) g) V Q:=.bd (.eq (show Mine.getO i V=some (o,V) by unfold Mine.getO;rw[e]) h)
end
def DJ(m:Loc)(l:List (Str×PV)):Prop:=∀x v,l.lookup x=some v->m x=some v
theorem DJ.get{m:Loc}{l:List (Str×PV)}{x:Str}{v:PV}(h:DJ m l)(e:l.lookup x=some v):m x=some v:=h x v e
theorem DJ.of{m:Loc}{l:List (Str×PV)}(h:m1 (λp=>m p.1=some p.2) l):DJ m l:=by
 induction l with
 |nil=>exact λ_ _ e=>nomatch e
 |cons p r ih=>
  intro x v e;rw[lookup_cons]at e;by_cases hy:x=p.1
  ·rw[beq_iff_eq.mpr hy]at e;cases e;rw[hy];exact h.1
  ·rw[beq_eq_false_iff_ne.mpr hy]at e;exact ih h.2 x v e
noncomputable def bq(sc:Scope)(x:Str):Bool:=if x=("__debug__":Str)∨x=("__classdict__":Str)then false else match sc.names.lookup x with|some .local|some .cell|some .free=>true|_=>false
noncomputable def mE(T:kp)(n:Nat)(sc:Scope)(r:List Stmt)(S:a9×Loc->aI->Prop)(fm:a9×Loc)(V:aI):Prop:=match fm.1 with
 | .next=>Wp ((al T (n+1)).ss sc fm.2 r) V S
 |_=>S fm V
section rules
variable {T:kp} {n k:Nat} {sc:Scope} {m:Loc} {V:aI} {p p':Pos} {Q:PV->aI->Prop} {B:Bool->aI->Prop} {S:a9×Loc->aI->Prop}
theorem uQ{l r:Expr}{op:Operator}(h:Wp ((al T n).e sc m l) V λa V'=>Wp ((al T n).e sc m r) V' λb V''=>Wp (hY op a b) V'' Q):Wp ((al T (n+1)).e sc m (.BinOp l op r p)) V Q:=
 Wp.bd (h.mono λ_ _ h=>Wp.bd h)
theorem Ir{l r:Expr}{op:CmpOp}(hb:behindInMarks op r=false)(h:Wp ((al T n).e sc m l) V λa V'=>Wp ((al T n).e sc m r) V' λb V''=>Wp (kN op a b) V'' Q):Wp ((al T (n+1)).e sc m (.Compare l [op] [r] p)) V Q:=by refine(?_:Wp (bd (lift (some op)) λop=>bd (lift (some r)) λr=>bd (must (!behindInMarks op r)) λ_=>bd ((al T n).e sc m l) λa=>bd ((al T n).e sc m r) λb=>kN op a b) V Q);refine Wp.lift rfl (Wp.lift rfl (Wp.must (by rw[hb];rfl) (Wp.bd (h.mono λ_ _ h=>Wp.bd h))))
theorem oq{o i:Expr}(hs:sliceOf i=none)(h:Wp ((al T n).e sc m o) V λa V'=>Wp ((al T n).e sc m i) V' λb V''=>Wp (cx T a b) V'' Q):Wp ((al T (n+1)).e sc m (.Subscript o i p)) V Q:=by refine(?_:Wp (sW T (al T n) sc m o i) V Q);unfold sW;rw[hs];exact Wp.bd (h.mono λ_ _ h=>Wp.bd h)
theorem DZ{o:Expr}{lo hi:Option Expr}(h:Wp ((al T n).e sc m o) V λa V'=>Wp (jE (al T n) sc m lo) V' λb V''=>Wp (jE (al T n) sc m hi) V'' λc V3=>Wp (dO a b c) V3 Q):Wp ((al T (n+1)).e sc m (.Subscript o (.Slice lo hi none p) p')) V Q:=
 Wp.bd (h.mono λ_ _ h=>Wp.bd (h.mono λ_ _ h=>Wp.bd h))
theorem dc{x:Str}{v:PV}(e:bQ T sc m x V=some (v,V))(h:Q v V):Wp ((al T (n+1)).e sc m (.Name x p)) V Q:=.eq e h
set_option tactic.hygienic true in
theorem yu{l:List (Str×PV)}{x:Str}{v:PV}(hm:DJ m l)(hl:l.lookup x=some v)(hk:bq sc x=true)(h:Q v V):Wp ((al T (n+1)).e sc m (.Name x p)) V Q:=by
 refine .eq (a:=v) (V':=V) ?_ h;refine(?_:bQ T sc m x V=_);unfold bQ;unfold bq at hk;split at hk
 ·cases hk
 ·rename_i hx;rw[if_neg hx];split at hk<;>rename_i e<;>first|(rw[e];dsimp only;rw[hm.get hl];rfl)|cases hk
theorem sL{l:List (Str×PV)}{x:Str}{v:PV}(hm:DJ m l)(hl:l.lookup x=some v)(hk:bq sc x=true):bQ T sc m x V=some (v,V):=by obtain⟨_,_,e,rfl,rfl⟩:=yu (T:=T) (n:=0) (p:=default) (Q:=λv' V'=>v'=v/\V'=V) (V:=V) hm hl hk ⟨rfl,rfl⟩;exact e
theorem iF{o:Expr}{x:Str}(hs:aH o=true)(h:Wp ((al T n).e sc m o) V λa V'=>Wp (dW T a x) V' Q):Wp ((al T (n+1)).e sc m (.Attribute o x p)) V Q:=Wp.must hs (Wp.bd h)
theorem lE{es:List Expr}(h:Wp (sr (al T n) sc m es) V λvs V'=>Wp (newList vs) V' Q):Wp ((al T (n+1)).e sc m (.List es p)) V Q:=Wp.bd h
theorem vP{es:List Expr}{j:Nat}(h:Wp (sr (al T n) sc m es) V λvs V'=>vs.length<=lim/\Q (.ref V'.length) (V'++[.tup vs])):Wp ((al T (n+1)).e sc m (.Tuple es j p)) V Q:=
 Wp.bd (h.mono λ_ _ h=>Wp.must (decide_eq_true h.1) (.eq rfl h.2))
theorem aO{R:List PV->aI->Prop}(h:R [] V):Wp (sr (al T n) sc m []) V R:=.ok h
theorem aw{e:Expr}{r:List Expr}{R:List PV->aI->Prop}(hp:aE e=true)(h:Wp ((al T n).e sc m e) V λv V'=>Wp (sr (al T n) sc m r) V' λvs V''=>R (v::vs) V''):Wp (sr (al T n) sc m (e::r)) V R:=
 Wp.must hp (Wp.bd (h.mono λ_ _ h=>Wp.bd (h.mono λ_ _ h=>Wp.ok h)))
theorem dA{x:Str}{args:List Expr}(hl:decide (args.length<20)=true)(h:Wp ((al T n).e sc m (.Name x p)) V λf V'=>Wp (sr (al T n) sc m args) V' λas V''=>Wp (bk (al T n) T f as) V'' Q):Wp ((al T (n+1)).e sc m (.Call (.Name x p) args [] p')) V Q:=
 Wp.must hl (Wp.bd (h.mono λ_ _ h=>Wp.bd h))
theorem dy{o:Expr}{x:Str}{ap:Pos}{args:List Expr}(hs:eT args=none)(_:0=0)(ho:(aH o&&decide (ap.endLine=p.line)&&decide (args.length<20))=true) (h:Wp ((al T n).e sc m o) V λov V'=>Wp (bx T ov x) V' λf V''=>Wp (sr (al T n) sc m args) V'' λas V3=>Wp (bk (al T n) T f (ov::as)) V3 Q):Wp ((al T (n+1)).e sc m (.Call (.Attribute o x ap) args [] p)) V Q:=by refine(?_:Wp (qY T (al T n) sc m o x ap args p) V Q);unfold qY;rw[hs];exact Wp.must ho (Wp.bd (h.mono λ_ _ h=>Wp.bd (h.mono λ_ _ h=>Wp.bd h)))
theorem eG{a:Addr}{as:List PV}{ih:Ev}(hc:T.cls a=none)(hf:(T.fn a).isSome=true)(h:Wp (ih.call a as) V Q):Wp (bk ih T (.obj a) as) V Q:=by refine(?_:Wp (match T.cls a with|some c=>jA ih a c as|none=>_) V Q);rw[hc];exact Wp.must hf h
theorem wu{l r:Expr}{op:CmpOp}(hb:behindInMarks op r=false)(h:Wp ((al T n).e sc m l) V λa V'=>Wp ((al T n).e sc m r) V' λb V''=>Wp (kN op a b) V'' λv V3=>Wp (fR v) V3 B):Wp ((al T (n+1)).b sc m (.Compare l [op] [r] p)) V B:=by refine(?_:Wp (bd (lift (some op)) λop=>bd (lift (some r)) λr=>bd (must (!behindInMarks op r)) λ_=>bd ((al T n).e sc m l) λa=>bd ((al T n).e sc m r) λb=>bd (kN op a b) fR) V B);refine Wp.lift rfl (Wp.lift rfl (Wp.must (by rw[hb];rfl) (Wp.bd (h.mono λ_ _ h=>Wp.bd (h.mono λ_ _ h=>Wp.bd h)))))
theorem Ho{op:BoolOp}{es:List Expr}(h:Wp (jp (al T n) sc m op es) V B):Wp ((al T (n+1)).b sc m (.BoolOp op es p)) V B:=h
theorem tq{op:BoolOp}(h:B (op== .And) V):Wp (jp (al T n) sc m op []) V B:=.ok h
theorem bb_and{e:Expr}{r:List Expr}(h:Wp ((al T n).b sc m e) V λb V'=>if b=true then Wp (jp (al T n) sc m .And r) V' B else B false V'):Wp (jp (al T n) sc m .And (e::r)) V B:=
 Wp.bd (h.mono λb _ h=>by cases b<;>first|exact h|exact .ok h)
theorem bb_or{e:Expr}{r:List Expr}(h:Wp ((al T n).b sc m e) V λb V'=>if b=true then B true V' else Wp (jp (al T n) sc m .Or r) V' B):Wp (jp (al T n) sc m .Or (e::r)) V B:=
 Wp.bd (h.mono λb _ h=>by cases b<;>first|exact h|exact .ok h)
theorem ak(h:S (.next,m) V):Wp ((al T (n+1)).ss sc m []) V S:=.ok h
theorem ao{s:Stmt}{r:List Stmt}(h:Wp (mW T (al T n) sc m s) V (mE T n sc r S)):Wp ((al T (n+1)).ss sc m (s::r)) V S:=
 Wp.bd (h.mono λfm _ h=>by obtain⟨f,m'⟩:=fm;cases f<;>first|exact h|exact .ok h)
theorem ae{r:List Stmt}(h:Wp ((al T (n+1)).ss sc m r) V S):mE T n sc r S (.next,m) V:=h
theorem cA{r:List Stmt}{v:PV}(h:S (.ret v,m) V):mE T n sc r S (.ret v,m) V:=h
theorem fq{r:List Stmt}(h:S (.brk,m) V):mE T n sc r S (.brk,m) V:=h
theorem ny{r:List Stmt}(h:S (.cont,m) V):mE T n sc r S (.cont,m) V:=h
theorem yW{value:Expr}(h:ce value=false):vj value=none:=by cases value<;>first|exact Eq.refl none|cases h
theorem g0{ts:List Expr}{value:Expr}(hs:pz ts value=none)(hl:(!(one ts).any vq)=true)(hc:ce value=false)(h:Wp ((al T n).e sc m value) V λv V'=>Wp (fh T (al T n) sc m ts v) V' λm' V''=>S (.next,m') V''):Wp (mW T (al T n) sc m (.Assign ts value p')) V S:=by refine(?_:Wp (jD T (al T n) sc m ts value) V S);unfold jD;rw[hs];refine Wp.must hl (Wp.bd (x:=mr (al T n) sc m value) ?_);unfold mr;rw[yW hc];exact Wp.must (by rw[hc];rfl) (h.mono λ_ _ h=>Wp.bd (h.mono λ_ _ h=>.ok h))
theorem cH{x:Str}{value:Expr}(hl:aV sc m x=λv=>some (m.set x v))(hc:ce value=false)(h:Wp ((al T n).e sc m value) V λv V'=>S (.next,m.set x v) V'):Wp (mW T (al T n) sc m (.Assign [.Name x p] value p')) V S:=by refine g0 rfl rfl hc (h.mono λv V' h=>.eq (a:=m.set x v) (V':=V') ?_ h);refine(?_:bd (lift (aV sc m x v)) _ V'=_);rw[hl];rfl
theorem iU{o i value:Expr}{q:Pos}(hi:dj i=false)(hc:ce value=false)(h:Wp ((al T n).e sc m value) V λv V'=>Wp ((al T n).e sc m o) V' λov V''=>Wp ((al T n).e sc m i) V'' λiv V3=>Wp (eV ov iv v) V3 λ_ V4=>S (.next,m) V4):Wp (mW T (al T n) sc m (.Assign [.Subscript o i q] value p')) V S:=
 g0 rfl rfl hc (h.mono λv V' h=>Wp.bd (Wp.must (by rw[hi];rfl) (Wp.bd (h.mono λ_ _ h=>Wp.bd (h.mono λ_ _ h=>Wp.bd (h.mono λ_ _ h=>.ok (.ok h)))))))
theorem xt{x y:Str}{value:Expr}{q:Pos}(hx:aV sc m x=λv=>some (m.set x v))(hy:∀v,aV sc (m.set x v) y v=some ((m.set x v).set y v))(hc:ce value=false)(h:Wp ((al T n).e sc m value) V λv V'=>S (.next,(m.set x v).set y v) V'):Wp (mW T (al T n) sc m (.Assign [.Name x p,.Name y q] value p')) V S:=by refine g0 rfl rfl hc (h.mono λv V' h=>.eq (a:=(m.set x v).set y v) (V':=V') ?_ h);refine(?_:bd (lift (aV sc m x v)) _ V'=_);rw[hx];refine(?_:bd (lift (aV sc (m.set x v) y v)) _ V'=_);rw[hy];rfl
theorem Ji{x:Str}{op:Operator}{value:Expr}{old:PV}(ho:bQ T sc m x V=some (old,V))(hl:aV sc m x=λv=>some (m.set x v))(h:Wp ((al T n).e sc m value) V λv V'=>Wp (Ap op old v) V' λr V''=>S (.next,m.set x r) V''):Wp (mW T (al T n) sc m (.AugAssign (.Name x p) op value p')) V S:=by refine(?_:Wp (BK T (al T n) sc m (.Name x p) op value) V S);unfold BK;refine Wp.lift (o:=nameOf (.Name x p)) (a:=x) rfl ?_;refine Wp.bd (x:=bQ T sc m x) (.eq ho (Wp.bd (h.mono λv V' h=>Wp.bd (h.mono λr V'' h=>?_))));rw[hl];exact Wp.bd (.eq rfl (.ok h))
theorem EZ{e:Expr}(h:Wp ((al T n).e sc m e) V λv V'=>S (.ret v,m) V'):Wp (mW T (al T n) sc m (.Return (some e) p)) V S:=Wp.bd (h.mono λ_ _ h=>.ok h)
theorem dY{e:Expr}(hc:o5 e=true)(h:Wp ((al T n).e sc m e) V λ_ V'=>S (.next,m) V'):Wp (mW T (al T n) sc m (.Expr e p)) V S:=Wp.must hc (Wp.bd (h.mono λ_ _ h=>.ok h))
theorem KL{t:Expr}{b o:List Stmt}(h:Wp ((al T n).b sc m t) V λc V'=>if c=true then Wp ((al T n).ss sc m b) V' S else Wp ((al T n).ss sc m o) V' S):Wp (mW T (al T n) sc m (.If t b o p)) V S:=
 Wp.bd (h.mono λc _ h=>by cases c<;>exact h)
theorem nJ{t i:Expr}{b o:List Stmt}(hp:aY i=true)(h:Wp ((al T n).e sc m i) V λv V'=>Wp (jk v) V' λit V''=>Wp (jM T (al T n) sc t b o c7 it m) V'' S):Wp (mW T (al T n) sc m (.For t i b o p)) V S:=
 Wp.must hp (Wp.bd (h.mono λ_ _ h=>Wp.bd h))
theorem xD{R:Option Int->aI->Prop}(h:R none V):Wp (jE (al T n) sc m none) V R:=.ok h
noncomputable def Ks:PV->Option (Option Int)
 | .int i=>some (some i)
 | .none=>some none
 |_=>none
theorem xr{e:Expr}{R:Option Int->aI->Prop}(h:Wp ((al T n).e sc m e) V λv V'=>∃o,Ks v=some o/\R o V'):Wp (jE (al T n) sc m (some e)) V R:=
 Wp.bd (h.mono λv V' h=>by obtain⟨o,e,h⟩:=h;cases v<;>cases e<;>exact .ok h)
theorem zM{op:BoolOp}{es:List Expr}(h:Wp (lw (al T n) sc m op es) V Q):Wp ((al T (n+1)).e sc m (.BoolOp op es p)) V Q:=h
theorem GX{op:BoolOp}{e:Expr}(h:Wp ((al T n).e sc m e) V Q):Wp (lw (al T n) sc m op [e]) V Q:=h
theorem Il{e e':Expr}{r:List Expr}(h:Wp ((al T n).e sc m e) V λv V'=>Wp (fR v) V' λt V''=>if t=true then Q v V'' else Wp (lw (al T n) sc m .Or (e'::r)) V'' Q):Wp (lw (al T n) sc m .Or (e::e'::r)) V Q:=
 Wp.bd (h.mono λv _ h=>Wp.bd (h.mono λt _ h=>by cases t<;>first|exact h|exact .ok h))
theorem FE{x y:Str}{e1 e2:Expr}{p1 p2 p3 p4:Pos}{j1 j2:Nat}(hs:pJ sc [.Name x p1,.Name y p2] [e1,e2]=true)(hy:∀v,aV sc m y v=some (m.set y v))(hx:∀u v,aV sc (m.set y u) x v=some ((m.set y u).set x v)) (h:Wp ((al T n).e sc m e1) V λu1 V'=>Wp ((al T n).e sc m e2) V' λu2 V''=>S (.next,(m.set y u2).set x u1) (V''++[.tup [u1,u2]]))(h1:aE e1=true)(h2:aE e2=true):Wp (mW T (al T (n+1)) sc m (.Assign [.Tuple [.Name x p1,.Name y p2] j1 p3] (.Tuple [e1,e2] j2 p4) p')) V S:=by
 refine Wp.must hs (Wp.bd (vP (aw h1 (h.mono λu1 _ h=>aw h2 (h.mono λu2 V'' h=>aO ⟨(by decide:2<=lim),?_⟩)))));refine Wp.bd (.eq (a:=[u1,u2]) (V':=V''++[.tup [u1,u2]]) ?_ ?_)
 ·refine(?_:bd (getO V''.length) _ (V''++[.tup [u1,u2]])=_);unfold bd getO;rw[List.getElem?_append_right (le_refl _),sub_self];rfl
 ·refine Wp.lift (a:=(m.set y u2).set x u1) ?_ (.ok h);refine(?_:(aV sc m y u2).bind (λm'=>(aV sc m' x u1).bind λm'=>some m')=_);rw[hy];refine(?_:(aV sc (m.set y u2) x u1).bind _=_);rw[hx];rfl
theorem vp{t:Expr}{b o:List Stmt}(h:Wp (j6 (al T n) sc t b o c7 m) V S):Wp (mW T (al T n) sc m (.While t b o p)) V S:=h
theorem Ga{p:Prop}[Decidable p]{A B:Prop}(h1:p->A)(h2:¬p->B):if decide p=true then A else B:=by
 by_cases h:p
 ·rw[decide_eq_true h];exact h1 h
 ·rw[decide_eq_false h];exact h2 h
theorem cD(V:aI)(o:PO):(V++[o])[V.length]?=some o:=by simp
theorem nV{ih:Ev}{t:Expr}{b o:List Stmt}(I:Nat->Loc->aI->Prop)(step:∀j m V,I j m V->Wp (ih.b sc m t) V λc V'=>if c=true then∃j',j=j'+1/\Wp (ih.ss sc m b) V' λfm V''=>fm.1=.next/\I j' fm.2 V'' else Wp (ih.ss sc m o) V' S):∀(j k:Nat) (m:Loc) (V:aI),j<k->I j m V->Wp (j6 ih sc t b o k m) V S:=by
 intro j;induction j with
 |zero=>
  intro k m V hk h;cases k with
  |zero=>exact absurd hk (not_lt_zero _)
  |succ k=>
   refine(?_:Wp (ih.b sc m t>>=_) V S);refine Wp.bd (x:=ih.b sc m t) ((step 0 m V h).mono λc V' h=>?_);cases c with
   |true=>obtain⟨j',e,_⟩:=h;cases e
   |false=>exact h
 |succ j ih'=>
  intro k m V hk h;cases k with
  |zero=>exact absurd hk (not_lt_zero _)
  |succ k=>
   refine(?_:Wp (ih.b sc m t>>=_) V S);refine Wp.bd (x:=ih.b sc m t) ((step (j+1) m V h).mono λc V' h=>?_);cases c with
   |true=>
    obtain⟨j',e,h⟩:=h;cases e;refine Wp.bd (x:=ih.ss sc m b) (h.mono λfm V'' h=>?_);obtain⟨f,m''⟩:=fm;have e:f=.next:=h.1
    subst e;exact ih' k m'' V'' (lt_of_succ_lt_succ hk) h.2
   |false=>exact h
end rules
end Pl1x
section Pl2x
open PySem
noncomputable def lU:a9->Option PV
 | .ret v=>some v
 | .next=>some .none
 |_=>none
theorem dF{T:kp}{n:Nat}{a:Addr}{f:Fn}{as:List PV}{m:Loc}{V:aI}{Q:PV->aI->Prop}(hp:T.prim a=none)(hf:T.fn a=some f)(hb:nQ (λ_=>none) (f.params.args.map (·.arg)) as=some m) (h:Wp ((al T n).ss f.scope m f.body) V λfm V'=>∃v,lU fm.1=some v/\Q v V'):Wp ((al T (n+1)).call a as) V Q:=by refine(?_:Wp (dX T (al T n) a as) V Q);unfold dX;rw[hp];dsimp only;rw[hf];refine Wp.lift hb (Wp.bd (h.mono λfm V' h=>?_));obtain⟨v,e,q⟩:=h;obtain⟨f,m'⟩:=fm;cases f<;>first|(cases e;exact .ok q)|cases e
theorem g8{i n:Nat}(h:i<n):place (i:Int) n=some i:=by
 unfold place;have:¬((i:Int)<0):=by simp_all
 simp only[this,if_false];rw[if_pos ⟨by simp_all,by(exact ofNat_lt.mpr (by assumption))⟩];simp
theorem o7{xs:List PV}{k:Int}{j:Nat}{v:PV}{V:aI}{Q:PV->aI->Prop}(hp:place k xs.length=some j)(h:xs[j]?=some v)(q:Q v V):Wp (HV xs k) V Q:=Wp.lift hp (.eq (a:=v) (V':=V) (show lift xs[j]? V=_ by rw[h];rfl) q)
theorem item_list{T:kp}{ρ i:Nat}{xs:List PV}{v:PV}{V:aI}{Q:PV->aI->Prop}(e:V[ρ]?=some (.list xs))(h:xs[i]?=some v)(q:Q v V):Wp (cx T (.ref ρ) (.int i)) V Q:=by unfold cx;exact Wp.lift (a:=(i:Int)) rfl (Wp.getO e (o7 (g8 (List.getElem?_eq_some_iff.mp h).1) h q))
theorem fP{ρ i:Nat}{xs:List PV}{v:PV}{V:aI}{Q:Unit->aI->Prop}(e:V[ρ]?=some (.list xs))(h:i<xs.length)(q:Q () (V.set ρ (.list (xs.set i v)))):Wp (eV (.ref ρ) (.int i) v) V Q:=by unfold eV;refine Wp.lift (a:=(i:Int)) rfl (Wp.lift (a:=ρ) rfl (Wp.getO e (Wp.lift (a:=xs) rfl (Wp.must (decide_eq_true ⟨natCast_nonneg i,ofNat_lt.mpr h⟩) (.eq (a:=()) ?_ q)))));unfold ek;rw[if_pos (List.getElem?_eq_some_iff.mp e).1];rfl
theorem qd{α:Type}(l:List α)(j:Nat):c9 l (some (j:Int)) none=l.drop j:=by
 refine(?_:(l.drop (eg (some (j:Int)) 0 l.length)).take (l.length-eg (some (j:Int)) 0 l.length)=_);rw[ft,List.take_of_length_le (by rw[length_drop];exact le_refl _)];rcases le_total j l.length with h|h
 ·rw[min_eq_left h]
 ·rw[Nat.min_eq_right h,List.drop_length,List.drop_eq_nil_of_le h]
theorem yX{α:Type}(l:List α)(k:Nat):c9 l none (some (-((k:Int)+1)))=l.take (l.length-(k+1)):=by refine(?_:(l.drop 0).take (eg (some (-((k:Int)+1))) l.length l.length-0)=_);rw[rJ];rfl
theorem Gk{α:Type}{l:List α}{k:Nat}:c9 l none (some (k:Int))=l.take k:=by refine(?_:(l.drop 0).take (eg (some (k:Int)) l.length l.length-0)=_);rw[ft,List.drop_zero,Nat.sub_zero,List.take_eq_take_iff,Nat.min_assoc,Nat.min_self]
theorem jX{n k:Nat}(h:k<n):place (-((k:Int)+1)) n=some (n-(k+1)):=by show(if 0<=(if Int.negSucc k<0 then Int.negSucc k+(n:Int)else Int.negSucc k)/\(if Int.negSucc k<0 then Int.negSucc k+(n:Int)else Int.negSucc k)<n then some (if Int.negSucc k<0 then Int.negSucc k+(n:Int)else Int.negSucc k).toNat else none)=_;rw[if_pos (Int.negSucc_lt_zero k),Int.negSucc_add_ofNat,Int.subNatNat_of_le h,if_pos ⟨natCast_nonneg _,ofNat_lt.mpr (sub_lt (lt_of_le_of_lt (zero_le _) h) (succ_pos _))⟩];rfl
def aX(ρ:Nat)(V V':aI):Prop:=V.length<=V'.length/\∀j o,j≠ρ->V[j]?=some o->V'[j]?=some o
theorem aX.trans{ρ:Nat}{V V' V'':aI}(x:aX ρ V V')(y:aX ρ V' V''):aX ρ V V'':=⟨Nat.le_trans x.1 y.1,λj o h e=>y.2 j o h (x.2 j o h e)⟩
theorem aX.set(ρ:Nat)(V:aI)(o:PO):aX ρ V (V.set ρ o):=⟨by rw[length_set];exact le_refl _,λj o' h e=>by rw[List.getElem?_set_ne (Ne.symm h)];exact e⟩
noncomputable def Ag(i k:Nat):List PV:=(List.range' i k).map λ(j:Nat)=>PV.int j
noncomputable def SL(l:List Nat):Str:=⟨l.toArray⟩
theorem pj(l:List Nat):(SL l).length=l.length:=rfl
theorem Fy(l:List Nat)(i:Nat):(SL l).cps[i]?=l[i]?:=by unfold SL;exact List.getElem?_toArray ..
theorem mj{l l':List Nat}(h:SL l=SL l'):l=l':=congrArg (λs=>s.cps.toList) h
def aB(V V':aI):Prop:=V.length<=V'.length/\∀(j:Nat) (o:PO),V[j]?=some o->V'[j]?=some o
theorem aB.refl(V:aI):aB V V:=⟨le_refl _,λ_ _ e=>e⟩
theorem aB.trans{V V' V'':aI}(x:aB V V')(y:aB V' V''):aB V V'':=⟨Nat.le_trans x.1 y.1,λj o e=>y.2 j o (x.2 j o e)⟩
theorem aB.new(V:aI)(o:PO):aB V (V++[o]):=⟨by simp,λj o' e=>by rw[List.getElem?_append_left (List.getElem?_eq_some_iff.mp e).1];exact e⟩
theorem aX.keep{ρ:Nat}{V V' V'':aI}(y:aX ρ V' V'')(x:aB V V')(h:V.length<=ρ):aB V V'':=⟨Nat.le_trans x.1 y.1,λj o e=>y.2 j o (λq=>by have:=(List.getElem?_eq_some_iff.mp e).1;simp_all) (x.2 j o e)⟩
end Pl2x
section Pl9x
open PySem
section
variable {k:Nat} {V V' V'':aI}
theorem bZ{r:Nat}{o o':PO}(e:V[r]?=some o):(V++[o'])[r]?=some o:=by rw[List.getElem?_append_left (List.getElem?_eq_some_iff.mp e).1];exact e
theorem cg{r:Nat}{o o':PO}(e:V[r]?=some o):(V.set r o')[r]?=some o':=List.getElem?_set_self (List.getElem?_eq_some_iff.mp e).1
theorem eQ{r j:Nat}{o o':PO}(e:V[j]?=some o)(h:r≠j):(V.set r o')[j]?=some o:=by rw[List.getElem?_set_ne h];exact e
theorem bN{r:Nat}{o:PO}(e:V[r]?=some o):r<V.length:=(List.getElem?_eq_some_iff.mp e).1
end
section rules
variable {T:kp} {n:Nat} {sc:Scope} {m:Loc} {V:aI} {p p':Pos} {Q:PV->aI->Prop} {S:a9×Loc->aI->Prop}
theorem ik{o value:Expr}{x:Str}{q:Pos}(hs:aH o=true)(hc:ce value=false)(h:Wp ((al T n).e sc m value) V λv V'=>Wp ((al T n).e sc m o) V' λov V''=>Wp (ez T ov x v) V'' λ_ V3=>S (.next,m) V3):Wp (mW T (al T n) sc m (.Assign [.Attribute o x q] value p')) V S:=
 g0 rfl rfl hc (h.mono λv V' h=>Wp.bd (Wp.must hs (Wp.bd (h.mono λ_ _ h=>Wp.bd (h.mono λ_ _ h=>.ok (.ok h))))))
theorem i7{r:Nat}{C:Addr}{fs:List (Str×PV)}{x:Str}{v:PV}{R:Unit->aI->Prop}(e:V[r]?=some (.inst C fs))(hx:(attrOk x&&(T.cls C).isSome&&decide (fs.length<=100))=true)(h:R () (V.set r (.inst C (gM fs x v)))):Wp (ez T (.ref r) x v) V R:=by refine Wp.getO e (Wp.must hx (.eq (a:=()) ?_ h));unfold ek;rw[if_pos (bN e)]
theorem cC{r:Nat}{C:Addr}{fs:List (Str×PV)}{x:Str}{v:PV}(e:V[r]?=some (.inst C fs))(hx:(attrOk x&&(T.cls C).isSome)=true)(hv:(fs.lookup x).bind eO=some v)(h:Q v V):Wp (dW T (.ref r) x) V Q:=by refine Wp.getO e (Wp.must hx ?_);refine(?_:Wp (lift ((fs.lookup x).bind eO)) V Q);rw[hv];exact .ok h
theorem dG{r:Nat}{C:Addr}{fs:List (Str×PV)}{x:Str}{c:x7}{a:Addr}(e:V[r]?=some (.inst C fs))(hx:(fs.lookup x).isNone=true)(hc:T.cls C=some c)(ha:c.meth x=some a)(h:Q (.obj a) V):Wp (bx T (.ref r) x) V Q:=by refine Wp.getO e (Wp.must hx ?_);refine(?_:Wp (lift ((T.cls C).bind λc=>(c.meth x).map PV.obj)) V Q);rw[hc];refine(?_:Wp (lift ((c.meth x).map PV.obj)) V Q);rw[ha];exact .ok h
theorem np{x y:Str}{value:Expr}{p1 p2 p3:Pos}{j:Nat}(hv:r6 value=none)(hx:∀v,aV sc m x v=some (m.set x v))(hy:∀u v,aV sc (m.set x u) y v=some ((m.set x u).set y v))(hc:ce value=false) (h:Wp ((al T n).e sc m value) V λv V'=>∃r u1 u2,v=.ref r/\V'[r]?=some (.tup [u1,u2])/\S (.next,(m.set x u1).set y u2) V'):Wp (mW T (al T n) sc m (.Assign [.Tuple [.Name x p1,.Name y p2] j p3] value p')) V S:=by
 refine g0 (show(r6 value).map _=none by rw[hv];rfl) rfl hc (h.mono λv V' h=>?_);obtain⟨r,u1,u2,rfl,e,h⟩:=h;refine Wp.bd (Wp.bd (.eq (a:=[u1,u2]) (V':=V') ?_ (Wp.eq (a:=(m.set x u1).set y u2) ?_ (.ok h))))
 ·refine(?_:bd (getO r) _ V'=_);unfold bd getO;rw[e];rfl
 ·refine(?_:lift ((aV sc m x u1).bind λm'=>(aV sc m' y u2).bind λm'=>some m') V'=_);rw[hx];refine(?_:lift ((aV sc (m.set x u1) y u2).bind λm'=>some m') V'=_);rw[hy];rfl
theorem Ab{ih:Nat}{xs:List PV}{y:Int}(e:V[ih]?=some (.list xs))(h1:xs.length*y.toNat<=1000)(h2:y.natAbs<2^60)(h:Q (.ref V.length) (V++[.list (List.replicate y.toNat xs).flatten])):Wp (hY .Mult (.ref ih) (.int y)) V Q:=by refine(?_:Wp (Dh (.ref ih) y) V Q);unfold Dh;refine Wp.getO e (Wp.lift (a:=xs) rfl (Wp.must (decide_eq_true ⟨Nat.le_trans h1 (by decide),h2⟩) (Wp.must (decide_eq_true ?_) (.eq rfl h))));rw[length_flatten,map_replicate,List.sum_replicate_nat,Nat.mul_comm];exact Nat.le_trans h1 (by decide)
theorem lL{i j:Nat}{xs ys:List PV}(e:V[i]?=some (.list xs))(e':V[j]?=some (.list ys))(h1:xs.length+ys.length<=1000)(h:Q (.ref V.length) (V++[.list (xs++ys)])):Wp (hY .Add (.ref i) (.ref j)) V Q:=by refine(?_:Wp (Ei (.ref i) (.ref j)) V Q);unfold Ei;refine Wp.getO e (Wp.lift (a:=xs) rfl (Wp.getO e' (Wp.lift (a:=ys) rfl (Wp.must (decide_eq_true ?_) (.eq rfl h)))));rw[List.length_append];exact Nat.le_trans h1 (by decide)
theorem len_list{ih:Ev}{r:Nat}{xs:List PV}(e:V[r]?=some (.list xs))(h:Q (.int xs.length) V):Wp (bk ih T (.blt "len") [.ref r]) V Q:=show Wp (y4 T (.ref r)) V Q from Wp.getO e (.ok h)
theorem DH{ih:Ev}{r:Nat}{xs:List PV}(e:V[r]?=some (.tup xs))(h:Q (.int xs.length) V):Wp (bk ih T (.blt "len") [.ref r]) V Q:=show Wp (y4 T (.ref r)) V Q from Wp.getO e (.ok h)
theorem nM{r:Nat}{xs:List PV}{R:List PV->aI->Prop}(e:V[r]?=some (.list xs))(h:R xs V):Wp (listAt (.ref r)) V R:=by unfold listAt;exact Wp.lift (a:=r) rfl (Wp.getO e (.eq (a:=xs) rfl h))
theorem uu{ih:Ev}{r:Nat}{xs:List PV}(e:V[r]?=some (.list xs))(h:Q (.ref V.length) (V++[.tup xs])):Wp (bk ih T (.typ "tuple") [.ref r]) V Q:=by refine(?_:Wp (tV (.ref r)) V Q);unfold tV;exact Wp.bd (x:=listAt (.ref r)) (nM e (.eq rfl h))
theorem Bk{l:List Nat}{R:It->aI->Prop}(h:R (.vals (l.map λc=>.str (ca c))) V):Wp (jk (.str (SL l))) V R:=.ok h
theorem jC{e1 e2:Expr}{j:Nat}(h1:aE e1=true)(h2:aE e2=true)(h:Wp ((al T n).e sc m e1) V λu1 V'=>Wp ((al T n).e sc m e2) V' λu2 V''=>Q (.ref V''.length) (V''++[.tup [u1,u2]])):Wp ((al T (n+1)).e sc m (.Tuple [e1,e2] j p)) V Q:=
 vP (aw h1 (h.mono λ_ _ h=>aw h2 (h.mono λ_ _ h=>aO ⟨(by decide:2<=lim),h⟩)))
theorem vw{C f:Addr}{c:x7}{as:List PV}(hc:T.cls C=some c)(hi:c.init=some f)(ha:c.isAcc=false)(h:Wp ((al T n).call f (.ref V.length::as)) (V++[.inst C []]) λv V'=>v=.none/\Q (.ref V.length) V'):Wp (bk (al T n) T (.obj C) as) V Q:=by refine(?_:Wp (match T.cls C with|some c=>jA (al T n) C c as|none=>_) V Q);rw[hc];refine(?_:Wp (jA (al T n) C c as) V Q);unfold jA;rw[ha,hi];refine Wp.bd (.eq (a:=.ref V.length) (V':=V++[.inst C []]) rfl (Wp.bd (h.mono λv V' h=>?_)));obtain⟨rfl,h⟩:=h;exact .ok h
end rules
end Pl9x
section Pl10x
open PySem
noncomputable def zZ:List Stmt:=[.Assign [.Name "il" (pP 192 12 14)] (.BinOp (.Name "il" (pP 192 17 19)) .Add (.BinOp (.BinOp (.Name "i" (pP 192 22 23)) .FloorDiv (.Name "tabsize" (pP 192 27 34)) (pP 192 22 34)) .Mult (.Subscript (.Name "count" (pP 192 37 42)) (.Name "i" (pP 192 43 44)) (pP 192 37 45)) (pP 192 22 45)) (pP 192 17 45)) (pP 192 12 45)]
noncomputable def Go:List Stmt:=[.Assign [.Tuple [.Name "count" (pP 189 8 13),.Name "trailing" (pP 189 15 23)] 0 (pP 189 8 23)] (.Attribute (.Name "self" (pP 189 26 30)) "norm" (pP 189 26 35)) (pP 189 8 35),.Assign [.Name "il" (pP 190 8 10)] (.Constant (.int 0) 0 (pP 190 13 14)) (pP 190 8 14),.For (.Name "i" (pP 191 12 13)) (.Call (.Name "range" (pP 191 17 22)) [.Name "tabsize" (pP 191 23 30),.Call (.Name "len" (pP 191 32 35)) [.Name "count" (pP 191 36 41)] [] (pP 191 32 42)] [] (pP 191 17 43)) zZ [] ⟨191,8,192,45⟩,.Return (some (.BinOp (.Name "trailing" (pP 193 15 23)) .Add (.BinOp (.Name "tabsize" (pP 193 26 33)) .Mult (.BinOp (.Name "il" (pP 193 37 39)) .Add (.Attribute (.Name "self" (pP 193 42 46)) "nt" (pP 193 42 49)) (pP 193 37 49)) (pP 193 26 50)) (pP 193 15 50))) (pP 193 8 50)]
noncomputable def IF:Scope:=⟨.function,[("self",.local),("tabsize",.local),("count",.local),("trailing",.local),("il",.local),("i",.local),("range",.globalImplicit),("len",.globalImplicit)],false,false,[]⟩
noncomputable def Kb:Fn:=⟨"Whitespace.indent_level",⟨[],[⟨"self",none,(pP 188 21 25)⟩,⟨"tabsize",none,(pP 188 27 34)⟩],none,[],[],none,[]⟩,Go,IF⟩
theorem I8:T2.fn 227=some Kb:=by kernel_rfl
theorem CJ:T2.prim 227=none:=by kernel_rfl
noncomputable def iJ:x7:=(T2.cls 258).getD ⟨none,λ_=>none,λ_=>none,false⟩
theorem nv:T2.cls 258=some iJ:=by kernel_rfl
theorem rE:iJ.init=some 213:=by kernel_rfl
theorem su:iJ.isAcc=false:=by kernel_rfl
theorem ul:iJ.meth "indent_level"=some 227:=by kernel_rfl
noncomputable def aq(l:List Nat):List PV:=l.map λ(c:Nat)=>.int c
theorem cS(l:List Nat):(aq l).length=l.length:=length_map ..
theorem de{l:List Nat}{i:Nat}(h:i<l.length):(aq l)[i]?=some (.int (l.getD i 0:Nat)):=by unfold aq;rw[List.getElem?_map,List.getElem?_eq_getElem h,List.getD_eq_getElem?_getD,List.getElem?_eq_getElem h];rfl
theorem xE(l:List Nat)(i x:Nat):(aq l).set i (.int (x:Nat))=aq (l.set i x):=by unfold aq;rw[map_set]
theorem xo(j:Nat):List.replicate j (PV.int 0)=aq (List.replicate j 0):=by unfold aq;rw[map_replicate];rfl
theorem nI(l l':List Nat):aq l++aq l'=aq (l++l'):=(map_append ..).symm
noncomputable def yj(cnt:List Nat)(b:Nat):List Nat:=if cnt.length<=b then cnt++List.replicate (b-cnt.length+1) 0 else cnt
theorem u3(cnt:List Nat)(b:Nat):b<(yj cnt b).length/\((yj cnt b).length<=b+1∨(yj cnt b).length=cnt.length):=by
 unfold yj;split
 ·rw[List.length_append,List.length_replicate];lia
 ·simp_all
noncomputable def jK:List Nat->List Nat->Nat->Nat->List Nat×Nat×Nat
 |[],cnt,b,nt=>(cnt,b,nt)
 |c::r,cnt,b,nt=>
  if c=32 then jK r cnt (b+1) nt
  else if c=9 then jK r ((yj cnt b).set b ((yj cnt b).getD b 0+1)) 0 (nt+1)
  else(cnt,b,nt)
noncomputable def gp:List Nat->Nat
 |[]=>0
 |c::r=>if c=32 then gp r+1 else if c=9 then gp r+1 else 0
inductive qv(A:Nat->Prop)(r:Nat)(l:List Nat)(V:aI):Prop where
 |mk (fs:List (Str×PV)) (t u:Nat) (ar:A r) (a1:A t) (a2:A u) (e:V[r]?=some (.inst 258 fs)) (hn:fs.lookup ("norm":Str)=some (.ref t)) (ht:V[t]?=some (.tup [.ref u,.int (jK l [] 0 0).2.1])) (hu:V[u]?=some (.tup (aq (jK l [] 0 0).1))) (hnt:fs.lookup ("nt":Str)=some (.int (jK l [] 0 0).2.2)) (hN:fs.lookup ("n":Str)=some (.int (gp l:Nat))) (hs:fs.lookup ("is_simple":Str)=some (.bool (decide (((aq (jK l [] 0 0).1).length:Int)<=1)))) (hi:m1 (λx=>fs.lookup x=none) [Str.ofString "indent_level",Str.ofString "longest_run_of_spaces",Str.ofString "less"]):qv A r l V
theorem qv.mono{A A':Nat->Prop}{r:Nat}{l:List Nat}{V V':aI}(h:qv A r l V)(g:∀i o,A i->V[i]?=some o->A' i/\V'[i]?=some o):qv A' r l V':=by
 cases h with
 |mk fs t u ar a1 a2 e hn ht hu hnt hN hs hi=>obtain⟨ar,e⟩:=g _ _ ar e;obtain⟨a1,ht⟩:=g _ _ a1 ht;obtain⟨a2,hu⟩:=g _ _ a2 hu;exact .mk fs t u ar a1 a2 e hn ht hu hnt hN hs hi
end Pl10x
section Jax
open PySem
theorem Eo(a n:Nat):(Builtin.Range.rangeSize a n 1).toNat=n-a:=by unfold Builtin.Range.rangeSize;rw[if_pos (by decide),Int.ediv_one];split<;>simp_all
theorem FA(a n:Nat):(cm a n 1).map PV.int=Ag a (n-a):=by unfold cm Ag;rw[Eo,map_map,List.range'_eq_map_range,map_map];exact map_congr_left λk _=>congrArg PV.int (show(a:Int)+1*(k:Int)=((a+k:Nat):Int) by simp_all)
theorem x9{r a n:Nat}{V:aI}{Q:It->aI->Prop}(e:V[r]?=some (.rng a n 1))(ha:a<100000)(hn:n<100000)(q:Q (.vals (Ag a (n-a))) V):Wp (jk (.ref r)) V Q:=
 Wp.getO e (Wp.must (PySem.small_one (by lia) (by lia) (by lia) (by lia)) (.ok (by rw[FA];exact q)))
theorem cY{a b:Nat}(h:PV.ref a=.ref b):a=b:=by injection h
abbrev cv:=List Nat×List Nat
noncomputable def m9(p:cv):List PV:=[.str (SL p.1),.str (SL p.2)]
noncomputable def CA:List (Str×PV):=[("_initial_size",.int 0)]
noncomputable def KT(w:Int)(sg:List Nat)(L c:Nat):List (Str×PV):=[("_maxlen",.int w),("_continuation_ws",.str (SL [32])),("_continuation_ws_len",.int 1),("_splitchars",.str (SL sg)),("_lines",.ref L),("_current_line",.ref c)]
def bH(A:Nat->Prop)(V:aI)(o:PO)(v:PV):Prop:=∃ρ,v=.ref ρ/\A ρ/\V[ρ]?=some o
def aU(A:Nat->Prop)(c:Nat)(ps:List cv)(V:aI):Prop:=∃xs,V[c]?=some (.acc 192 CA xs)/\bo (λv p=>bH A V (.tup (m9 p)) v) xs ps
structure mU(A:Nat->Prop)(f L c:Nat)(w:Int)(sg:List Nat)(ls:List (List Nat))(ps:List cv)(V:aI):Prop where
 a:A f/\A L/\A c
 f:V[f]?=some (.inst 108 (KT w sg L c))
 l:V[L]?=some (.list (ls.map λl=>.str (SL l)))
 c:aU A c ps V
inductive Tr where
 |sc(v:PV)
 |lst(vs:List PV)
 |mat(vss:List (List PV))
 |rng(a b c:Int)
 |tup(vs:List PV)
 |ws(l:List Nat)
 |fmt(f L c:Nat)(w:Int)(sg:List Nat)(ls:List (List Nat))(ps:List cv)
abbrev cW:=List (Str×Tr)
noncomputable def dp(A:Nat->Prop)(V:aI)(v:PV):Tr->Prop
 | .sc a=>v=a
 | .lst vs=>bH A V (.list vs) v
 | .mat vss=>∃rs,bH A V (.list rs) v/\bo (λv vs=>bH A V (.list vs) v) rs vss
 | .rng a b c=>bH A V (.rng a b c) v
 | .tup vs=>bH A V (.tup vs) v
 | .ws l=>∃r,v=.ref r/\qv A r l V
 | .fmt f L c w sg ls ps=>v=.ref f/\mU A f L c w sg ls ps V
def sH(A:Nat->Prop)(V:aI)(m:Loc)(l:cW):Prop:=∀x t,l.lookup x=some t->∃v,m x=some v/\dp A V v t
def ci(A:Nat->Prop)(V V':aI):Prop:=V.length<=V'.length/\∀i o,A i->V[i]?=some o->V'[i]?=some o
structure Cx(A:Nat->Prop)(V:aI)(m:Loc)(l:cW):Prop where
 a:∀j,V.length<=j->A j
 e:sH A V m l
section
variable {α β:Type} {R R':α->β->Prop} {A:Nat->Prop} {V V' V'':aI} {v:PV} {t:Tr} {m:Loc} {l:cW}
theorem aB.toA(g:aB V V'):ci A V V':=⟨g.1,λi o _ e=>g.2 i o e⟩
theorem ci.trans(h:ci A V V')(h':ci A V' V''):ci A V V'':=⟨Nat.le_trans h.1 h'.1,λi o a e=>h'.2 i o a (h.2 i o a e)⟩
theorem ci.set{ρ:Nat}(o:PO)(h:¬A ρ):ci A V (V.set ρ o):=⟨by rw[length_set];exact le_refl _,λi o a e=>by rw[List.getElem?_set_ne (show ρ≠i from λq=>h (by rw[q];exact a))];exact e⟩
theorem bH.mono{A':Nat->Prop}{o:PO}(h:bH A V o v)(g:∀i o,A i->V[i]?=some o->A' i/\V'[i]?=some o):bH A' V' o v:=let⟨ρ,e,a,b⟩:=h;⟨ρ,e,g _ _ a b⟩
theorem aU.mono{A':Nat->Prop}{c:Nat}{ps:List cv}(h:aU A c ps V)(g:∀i o,A i->V[i]?=some o->A' i/\V'[i]?=some o)(e:∀o,V[c]?=some o->V'[c]?=some o):aU A' c ps V':=let⟨xs,a,b⟩:=h;⟨xs,e _ a,b.mono λ_ _ h=>h.mono g⟩
theorem mU.mono{A':Nat->Prop}{f L c:Nat}{w:Int}{sg:List Nat}{ls:List (List Nat)}{ps:List cv}(h:mU A f L c w sg ls ps V)(g:∀i o,A i->V[i]?=some o->A' i/\V'[i]?=some o):mU A' f L c w sg ls ps V':=
 ⟨⟨(g _ _ h.a.1 h.f).1,(g _ _ h.a.2.1 h.l).1,let⟨_,e,_⟩:=h.c;(g _ _ h.a.2.2 e).1⟩,(g _ _ h.a.1 h.f).2,(g _ _ h.a.2.1 h.l).2,h.c.mono g λo e=>(g _ _ h.a.2.2 e).2⟩
theorem bH.keep{o:PO}(h:bH A V o v)(g:ci A V V'):bH A V' o v:=let⟨ρ,e,a,b⟩:=h;⟨ρ,e,a,g.2 _ _ a b⟩
theorem dp.keep(h:dp A V v t)(g:ci A V V'):dp A V' v t:=by
 cases t with
 |sc a=>exact h
 |mat vss=>obtain⟨rs,a,b⟩:=h;exact⟨rs,a.keep g,b.mono λ_ _ h=>bH.keep h g⟩
 |ws l=>obtain⟨r,e,h⟩:=h;exact⟨r,e,h.mono λi o a q=>⟨a,g.2 i o a q⟩⟩
 |fmt=>exact⟨h.1,h.2.mono λi o a q=>⟨a,g.2 i o a q⟩⟩
 |_=>exact bH.keep h g
theorem sH.keep(h:sH A V m l)(g:ci A V V'):sH A V' m l:=λx t e=>let⟨v,a,b⟩:=h x t e;⟨v,a,b.keep g⟩
theorem Cx.keepA(h:Cx A V m l)(g:ci A V V'):Cx A V' m l:=⟨λj hj=>h.a j (Nat.le_trans g.1 hj),h.e.keep g⟩
theorem Cx.keep(h:Cx A V m l)(g:aB V V'):Cx A V' m l:=h.keepA g.toA
theorem Cx.set{x:Str}(h:Cx A V m l)(r:dp A V v t):Cx A V (m.set x v) ((x,t)::l):=⟨h.a,λy u e=>by
 rw[lookup_cons]at e;unfold Loc.set;by_cases hy:y=x
 ·rw[beq_iff_eq.mpr hy]at e;injection e with e
  exact⟨v,if_pos hy,e▸r⟩
 ·rw[beq_eq_false_iff_ne.mpr hy]at e;rw[if_neg hy];exact h.e y u e⟩
def Jb(l l':cW):Prop:=(l'.map λp=>l.lookup p.1)=l'.map λp=>some p.2
theorem Ea{x:Str}:∀{l':cW},Jb l l'->l'.lookup x=some t->l.lookup x=some t:=by
 intro l';induction l' with
 |nil=>exact λ_ e=>nomatch e
 |cons p r ih=>
  intro s e;have s:=List.cons.inj s;rw[lookup_cons]at e;by_cases hy:x=p.1
  ·rw[beq_iff_eq.mpr hy]at e;injection e with e
   rw[hy,<-e];exact s.1
  ·rw[beq_eq_false_iff_ne.mpr hy]at e;exact ih s.2 e
theorem Cx.sub{l':cW}(h:Cx A V m l)(s:Jb l l'):Cx A V m l':=⟨h.a,λ_ _ e=>h.e _ _ (Ea s e)⟩
theorem Cx.nil(h:∀j,V.length<=j->A j):Cx A V m []:=⟨h,λ_ _ e=>nomatch e⟩
theorem bH.new{o:PO}(hA:∀j,V.length<=j->A j):bH A (V++[o]) o (.ref V.length):=⟨_,rfl,hA _ (le_refl _),cD ..⟩
def G(A:Nat->Prop)(V:aI)(t:Tr)(v:PV)(V':aI):Prop:=aB V V'/\dp A V' v t
theorem G.new{o:PO}{x:Mo PV}(hA:∀j,V.length<=j->A j)(h:x V=some (.ref V.length,V++[o]))(k:∀v,bH A (V++[o]) o v->dp A (V++[o]) v t):Wp x V (G A V t):=.eq h ⟨.new ..,k _ (.new hA)⟩
theorem g6{γ:Type}{vs:List PV}{f:List PV->Mo γ}{Q:γ->aI->Prop}(h:bH A V (.list vs) v)(q:Wp (f vs) V Q):Wp (bd (listAt v) f) V Q:=by obtain⟨r,rfl,_,e⟩:=h;exact Wp.bd (nM e q)
end
def J(n:Nat)(sc:Scope)(l:cW)(e:Expr)(t:Tr):Prop:=∀(A:Nat->Prop) (V:aI) (m:Loc),Cx A V m l->Wp ((al T2 n).e sc m e) V (G A V t)
def JF(n:Nat)(sc:Scope)(l:cW)(e:Expr)(t:Tr):Prop:=∀(A:Nat->Prop) (V:aI) (m:Loc),Cx A V m l->Wp ((al T2 n).e sc m e) V λv V'=>G A V t v V'/\∀ρ,v=.ref ρ->V.length<=ρ
def JB(n:Nat)(sc:Scope)(l:cW)(e:Expr)(b:Bool):Prop:=∀(A:Nat->Prop) (V:aI) (m:Loc),Cx A V m l->Wp ((al T2 n).b sc m e) V λc V'=>aB V V'/\c=b
def zG(op:Operator)(ta tb t:Tr):Prop:=∀(A:Nat->Prop) (V:aI) (a b:PV),(∀j,V.length<=j->A j)->dp A V a ta->dp A V b tb->Wp (hY op a b) V (G A V t)
def Sub(ta:Tr)(i:PV)(t:Tr):Prop:=∀(A:Nat->Prop) (V:aI) (a:PV),dp A V a ta->Wp (cx T2 a i) V (G A V t)
def ES(ta:Tr)(lo hi:Option Int)(t:Tr):Prop:=∀(A:Nat->Prop) (V:aI) (a:PV),(∀j,V.length<=j->A j)->dp A V a ta->Wp (dO a lo hi) V (G A V t)
def A6(op:CmpOp)(a b:PV)(c:Bool):Prop:=∀V,kN op a b V=some (.bool c,V)
def m5(n:Nat)(f:PV)(ta t:Tr):Prop:=∀(A:Nat->Prop) (V:aI) (a:PV),(∀j,V.length<=j->A j)->dp A V a ta->Wp (bk (al T2 n) T2 f [a]) V (G A V t)
def s8(n:Nat)(f:PV)(ta tb t:Tr):Prop:=∀(A:Nat->Prop) (V:aI) (a b:PV),(∀j,V.length<=j->A j)->dp A V a ta->dp A V b tb->Wp (bk (al T2 n) T2 f [a,b]) V (G A V t)
def Hw(n:Nat)(f:PV)(ta tb tc t:Tr):Prop:=∀(A:Nat->Prop) (V:aI) (a b c:PV),(∀j,V.length<=j->A j)->dp A V a ta->dp A V b tb->dp A V c tc->Wp (bk (al T2 n) T2 f [a,b,c]) V (G A V t)
def Kc(n:Nat)(f:PV)(ta tb tc td t:Tr):Prop:=∀(A:Nat->Prop) (V:aI) (a b c d:PV),(∀j,V.length<=j->A j)->dp A V a ta->dp A V b tb->dp A V c tc->dp A V d td->Wp (bk (al T2 n) T2 f [a,b,c,d]) V (G A V t)
def At{α:Type}(xs:List α)(k:Int)(x:α):Prop:=(place k xs.length).bind (λj=>xs[j]?)=some x
theorem bg{α:Type}{xs:List α}{k:Nat}{x:α}(h:xs[k]?=some x):At xs (k:Int) x:=by unfold At;rw[g8 (List.getElem?_eq_some_iff.mp h).1];exact h
theorem yx{α:Type}{xs:List α}{k:Int}{x:α}(h:At xs k x):∃j,place k xs.length=some j/\xs[j]?=some x:=bind_eq_some_iff.mp h
end Jax
set_option backward.match.sparseCases false
section R3
open PySem
variable {A A' B:Nat->Prop}{V V' V'' V0:aI}{T:kp}{L N a acc bc c ch f i j1 j2 j3 k n u w ρ:Nat}{b b':Bool}{v:PV}{t t' ta tb tc td ti:Tr}{sc sc':Scope}{l l':cW}{e e1 e2 e3 e4 elt iter o o':Expr}{ap p p' p1 p2 p3 p4 p5 p6 q q':Pos}{m:Loc}{s x z:Str}{it:It}{ts:List Tr}{ifs:List Expr}{vs ws ys:List PV}{r:List Stmt}{S:a9×Loc->aI->Prop}{as bs rs sg xs:List Nat}{vss:List (List PV)}{mx whole y:Int}{ps qs:List cv}{Q R:PV->aI->Prop}{ls:List (List Nat)}{op:Operator}{done is rest:List Int}{M xss:List (List Int)}{ih:Ev}{C:Addr}{h:Heap}
section
variable {a b:PV}
theorem kc(a b:List Nat):SL a++SL b=SL (a++b):=by refine(?_:Str.append (SL a) (SL b)=_);unfold SL Str.append;congr 1;simp
theorem tO(e:s.length=n)(h:n<=1000):strOk s=true:=decide_eq_true (Nat.le_trans (le_of_eq e) (Nat.le_trans h (by decide)))
theorem wD(x:List Nat):∀y,iC y (SL x)=SL (List.replicate y x).flatten
 |0=>rfl
 |y+1=>by refine(?_:SL x++iC y (SL x)=_);rw[wD x y,kc];rfl
theorem AT(x:List Nat)(y:Nat):(List.replicate y x).flatten.length=x.length*y:=by rw[length_flatten,map_replicate,List.sum_replicate_nat,Nat.mul_comm]
theorem qP{f:PV->Mo PV}(ha:a=v)(h:Wp (f v) V Q):Wp (f a) V Q:=ha▸h
theorem t3{x y:PV}{f:PV->PV->Mo PV}(ha:a=x)(hb:b=y)(h:Wp (f x y) V Q):Wp (f a b) V Q:=ha▸hb▸h
theorem gj:Wp (ok v) V (G A V (.sc v)):=.ok ⟨.refl _,rfl⟩
theorem aN{x:Int}:zG .Add (.sc (.int x)) (.sc (.int y)) (.sc (.int (x+y))):=λ_ _ _ _ _ ha hb=>t3 (f:=hY .Add) ha hb gj
theorem cI{x:Int}:zG .Sub (.sc (.int x)) (.sc (.int y)) (.sc (.int (x-y))):=λ_ _ _ _ _ ha hb=>t3 (f:=hY .Sub) ha hb gj
theorem c6{x:Int}(h:nK x=true):zG .Mult (.sc (.int x)) (.sc (.int y)) (.sc (.int (x*y))):=λ_ _ _ _ _ ha hb=>t3 (f:=hY .Mult) ha hb (Wp.must (by rw[h];rfl) gj)
theorem eW{x:Int}(h:decide (y≠0/\y.natAbs<2^28)=true):zG .FloorDiv (.sc (.int x)) (.sc (.int y)) (.sc (.int (Int.fdiv x y))):=λ_ _ _ _ _ ha hb=>t3 (f:=hY .FloorDiv) ha hb (Wp.must h gj)
theorem du{x:Int}(h:decide (y≠0/\y.natAbs<2^28)=true):zG .Mod (.sc (.int x)) (.sc (.int y)) (.sc (.int (Int.fmod x y))):=λ_ _ _ _ _ ha hb=>t3 (f:=hY .Mod) ha hb (Wp.must h gj)
theorem b9{l:List Nat}(e:s=SL l)(h:l.length<=1000)(q:Q (.str (SL l)) V):Wp (eM s) V Q:=e▸Wp.must (tO rfl h) (.ok q)
theorem iS{x y:List Nat}(h:x.length+y.length<=1000):zG .Add (.sc (.str (SL x))) (.sc (.str (SL y))) (.sc (.str (SL (x++y)))):=λ_ _ _ _ _ ha hb=>t3 (f:=hY .Add) ha hb (b9 (kc x y) (by rw[List.length_append];exact h) ⟨.refl _,rfl⟩)
theorem zD{x:List Nat}{y:Nat}(h:x.length*y<=1000)(h':y<=1000):zG .Mult (.sc (.str (SL x))) (.sc (.int y)) (.sc (.str (SL (List.replicate y x).flatten))):=λ_ _ _ _ _ ha hb=>t3 (f:=hY .Mult) ha hb (Wp.must (decide_eq_true ⟨Nat.le_trans h (by decide),lt_of_le_of_lt h' (by decide)⟩) (b9 (wD x y) (by rw[AT];exact h) ⟨.refl _,rfl⟩))
theorem gN{x y:List PV}(h:x.length+y.length<=1000):zG .Add (.lst x) (.lst y) (.lst (x++y)):=λ_ _ _ _ hA ⟨i,ha,_,e⟩ ⟨j,hb,_,e'⟩=>t3 (f:=hY .Add) ha hb (lL e e' h ⟨.new ..,bH.new hA⟩)
theorem AO{x y:List (List PV)}(h:x.length+y.length<=1000):zG .Add (.mat x) (.mat y) (.mat (x++y)):=λ_ _ _ _ hA ⟨xs,⟨i,ha,_,e⟩,r⟩ ⟨ys,⟨j,hb,_,e'⟩,r'⟩=>
 t3 (f:=hY .Add) ha hb (lL e e' (by rw[r.length,r'.length];exact h) ⟨.new ..,_,bH.new hA,(r.append r').mono λ_ _ h=>h.keep (aB.new ..).toA⟩)
noncomputable def Io(T:kp)(o:PV)(k:Int):Mo PV:=match o with
 | .str s=>bd (lift (place k s.length)) λj=>bd (lift s.cps[j]?) λc=>ok (.str (ca c))
 | .ref r=>bd (getO r) λo=>zk T k o
 |_=>no
theorem fB{o:PV}{k:Int}(ha:a=o)(h:Wp (Io T o k) V Q):Wp (cx T a (.int k)) V Q:=ha▸Wp.lift (a:=k) rfl h
theorem oQ{xs:List PV}{k:Int}(h:At xs k v)(q:Q v V):Wp (HV xs k) V Q:=let⟨_,h1,h2⟩:=yx h;o7 h1 h2 q
theorem aS{k:Int}(h:At vs k v):Sub (.lst vs) (.int k) (.sc v):=λ_ _ _ ⟨_,ha,_,e⟩=>fB ha (Wp.getO e (oQ h ⟨.refl _,rfl⟩))
theorem gV{k:Int}(h:At vs k v):Sub (.tup vs) (.int k) (.sc v):=λ_ _ _ ⟨_,ha,_,e⟩=>fB ha (Wp.getO e (oQ h ⟨.refl _,rfl⟩))
theorem k9{k:Int}(h:At vss k vs):Sub (.mat vss) (.int k) (.lst vs):=λ_ _ _ ⟨_,⟨_,ha,_,e⟩,q⟩=>
 let⟨_,h1,h2⟩:=yx h;let⟨_,ev,hv⟩:=q.get h2;fB ha (Wp.getO e (o7 (by rw[q.length];exact h1) ev ⟨.refl _,hv⟩))
theorem bG{l:List Nat}{k:Int}(h:At l k c):Sub (.sc (.str (SL l))) (.int k) (.sc (.str (SL [c]))):=λ_ _ _ ha=>
 let⟨j,h1,h2⟩:=yx h;fB ha (Wp.lift h1 (Wp.lift (a:=c) (show(SL l).cps[j]?=_ by rw[Fy];exact h2) gj))
theorem sub_bool{b:Bool}(h:vs[if b then 1 else 0]?=some v):Sub (.lst vs) (.bool b) (.sc v):=λ_ V _ ⟨r,ha,_,e⟩=>qP (f:=λa=>cx T2 a (.bool b)) ha (show Wp (Ak (.ref r) b) V _ by unfold Ak;exact Wp.lift (a:=r) rfl (Wp.getO e (Wp.lift (a:=vs) rfl (Wp.eq (a:=v) (V':=V) (by rw[h];rfl) ⟨.refl _,rfl⟩))))
theorem Cf{lo hi:Option Int}:ES (.lst vs) lo hi (.lst (c9 vs lo hi)):=λ_ _ _ hA ⟨_,ha,_,e⟩=>qP (f:=λa=>dO a lo hi) ha (Wp.getO e (Wp.lift (a:=vs) rfl (G.new hA rfl λ_ h=>h)))
theorem oY{l:List Nat}{lo hi:Option Int}:ES (.sc (.str (SL l))) lo hi (.sc (.str (SL (c9 l lo hi)))):=λ_ _ _ _ ha=>qP (f:=λa=>dO a lo hi) ha gj
theorem uc{x:Int}:A6 .Lt (.int x) (.int y) (decide (x<y)):=λ_=>rfl
theorem BN{x:Int}:A6 .LtE (.int x) (.int y) (decide (x<=y)):=λ_=>rfl
theorem gD{x:Int}:A6 .Gt (.int x) (.int y) (decide (y<x)):=λ_=>rfl
theorem mq{x:Int}:A6 .GtE (.int x) (.int y) (decide (y<=x)):=λ_=>rfl
theorem tx{x:Int}:A6 .Eq (.int x) (.int y) (decide (x=y)):=λ_=>rfl
theorem FT{x:Int}:A6 .NotEq (.int x) (.int y) (!decide (x=y)):=λ_=>rfl
theorem dD{x y:List Nat}:A6 .Eq (.str (SL x)) (.str (SL y)) (decide (x=y)):=λV=>by refine(?_:some (PV.bool (decide (SL x=SL y)),V)=_);rw[decide_eq_decide.mpr ⟨mj,congrArg SL⟩]
theorem ph:∀vs:List Int,iM (vs.map .int)=some vs
 |[]=>rfl
 |v::r=>by show(iM (r.map .int)).map _=_;rw[ph r];rfl
theorem oB:∀l:List (List Nat),l5 (l.map λl=>PV.str (SL l))=some (l.map SL)
 |[]=>rfl
 |x::l=>by show(l5 (l.map λl=>PV.str (SL l))).map (SL x::·)=_;rw[oB l];rfl
theorem join_nil:∀l:List (List Nat),Txt.join ⟨#[]⟩ (l.map SL)=SL l.flatten
 |[]=>rfl
 |[x]=>by refine(?_:SL x=SL ([x].flatten));rw[flatten_cons,List.flatten_nil,append_nil]
 |x::y::l=>by have h:=join_nil (y::l);rw[show Txt.join ⟨#[]⟩ ((y::l).map SL)=Str.join ⟨#[]⟩ ((y::l).map SL)from StrLaws.glued_eq_join ..]at h;rw[show Txt.join ⟨#[]⟩ ((x::y::l).map SL)=Str.join ⟨#[]⟩ ((x::y::l).map SL)from StrLaws.glued_eq_join ..];refine(?_:SL x++SL []++Str.join ⟨#[]⟩ ((y::l).map SL)=_);rw[h,kc,kc,append_nil];rfl
theorem dL{sep:Str}{l:List Str}(h:(l.map (·.length)).sum+l.length*sep.length<=100000):JoinOk sep l=true:=by unfold JoinOk;rw[show l.toArray.foldl (·+·.length+sep.length) 0=(l.map (·.length)).sum+l.length*sep.length from StrLaws.joinTotal sep l];unfold Builtin.Str.tooLong;rw[decide_eq_false (not_lt.mpr (Nat.le_trans h (by decide)))];rfl
theorem ck{l:List Nat}:m5 n (.blt "len") (.sc (.str (SL l))) (.sc (.int l.length)):=λ_ _ _ _ ha=>qP (f:=λa=>bk (al T2 n) T2 (.blt "len") [a]) ha gj
theorem fK:m5 n (.blt "len") (.lst vs) (.sc (.int vs.length)):=λ_ _ _ _ ⟨_,ha,_,e⟩=>qP (f:=λa=>bk (al T2 n) T2 (.blt "len") [a]) ha (len_list e ⟨.refl _,rfl⟩)
theorem wG:m5 n (.blt "len") (.tup vs) (.sc (.int vs.length)):=λ_ _ _ _ ⟨_,ha,_,e⟩=>qP (f:=λa=>bk (al T2 n) T2 (.blt "len") [a]) ha (DH e ⟨.refl _,rfl⟩)
theorem DV:m5 n (.blt "len") (.mat vss) (.sc (.int vss.length)):=λ_ _ _ _ ⟨_,⟨_,ha,_,e⟩,q⟩=>qP (f:=λa=>bk (al T2 n) T2 (.blt "len") [a]) ha (q.length▸len_list e ⟨.refl _,rfl⟩)
theorem s3{x:Int}:s8 n (.blt "min") (.sc (.int x)) (.sc (.int y)) (.sc (.int (if y<x then y else x))):=λ_ _ _ _ _ ha hb=>t3 (f:=λa b=>bk (al T2 n) T2 (.blt "min") [a,b]) ha hb gj
theorem Bs{x:Int}:s8 n (.blt "max") (.sc (.int x)) (.sc (.int y)) (.sc (.int (if x<y then y else x))):=λ_ _ _ _ _ ha hb=>t3 (f:=λa b=>bk (al T2 n) T2 (.blt "max") [a,b]) ha hb gj
theorem Hb{vs:List Int}(h:∀x∈vs,x.natAbs<2^40)(h':vs.length<=1000):m5 n (.blt "sum") (.lst (vs.map .int)) (.sc (.int vs.sum)):=λ_ V a _ ha=>show Wp (Ha a) V _ from g6 ha (Wp.lift (ph vs) (Wp.must (by rw[all_eq_true.mpr λx hx=>decide_eq_true (h x hx),decide_eq_true h'];rfl) gj))
theorem kY{α:Type}{xs:List α}{f:α->Int}(h:∀x∈xs,(f x).natAbs<2^40)(h':xs.length<=1000):m5 n (.blt "sum") (.lst (xs.map λa=>.int (f a))) (.sc (.int (xs.map f).sum)):=by have:=Hb (n:=n) (vs:=xs.map f) (λx hx=>by obtain⟨a,ha,rfl⟩:=mem_map.mp hx;exact h a ha) (by rw[length_map];exact h');rw[map_map]at this;exact this
theorem Bp{l l':List Nat}(h:Txt.upper (SL l)=SL l')(h':l'.length<=1000):m5 n (.blt "str.upper") (.sc (.str (SL l))) (.sc (.str (SL l'))):=λ_ _ _ _ ha=>qP (f:=λa=>bk (al T2 n) T2 (.blt "str.upper") [a]) ha (b9 h h' ⟨.refl _,rfl⟩)
theorem AQ{vs:List Int}{x:Int}:s8 n (.blt "list.count") (.lst (vs.map .int)) (.sc (.int x)) (.sc (.int (vs.count x:Nat))):=λ_ V a b _ ha hb=>qP (f:=λb=>bk (al T2 n) T2 (.blt "list.count") [a,b]) hb (show Wp (sV a (.int x)) V _ from g6 ha (Wp.lift (a:=x) rfl (Wp.lift (ph vs) gj)))
theorem D3(h:(ls.map (·.length)).sum<=1000):s8 n (.blt "str.join") (.sc (.str (SL []))) (.lst (ls.map λl=>.str (SL l))) (.sc (.str (SL ls.flatten))):=λ_ V a b _ ha hb=>qP (f:=λa=>bk (al T2 n) T2 (.blt "str.join") [a,b]) ha (show Wp (nG (.str (SL [])) b) V _ by unfold nG;exact Wp.lift (a:=SL []) rfl (g6 hb (Wp.lift (oB ls) (Wp.must (dL (by rw[map_map];show(ls.map (·.length)).sum+_*0<=_;(exact Nat.le_trans (by assumption) (le_add_left ..)))) (b9 (join_nil ls) (by rw[length_flatten];exact h) ⟨.refl _,rfl⟩)))))
theorem GI{x:Int}{l:List Nat}(h:x.natAbs<2^28)(h':Str.ofString (toString x)=SL l)(h'':l.length<=1000):m5 n (.typ "str") (.sc (.int x)) (.sc (.str (SL l))):=λ_ V _ _ ha=>qP (f:=λa=>bk (al T2 n) T2 (.typ "str") [a]) ha (show Wp (DD (.int x)) V _ by unfold DD;exact Wp.lift (a:=x) rfl (Wp.must (decide_eq_true h) (b9 h' h'' ⟨.refl _,rfl⟩)))
theorem bA{x:Int}:m5 n (.typ "range") (.sc (.int x)) (.rng 0 x 1):=λ_ _ _ hA ha=>qP (f:=λa=>bk (al T2 n) T2 (.typ "range") [a]) ha (G.new (t:=.rng 0 x 1) (o:=.rng 0 x 1) hA rfl λ_ h=>h)
theorem df{x:Int}:s8 n (.typ "range") (.sc (.int x)) (.sc (.int y)) (.rng x y 1):=λ_ _ _ _ hA ha hb=>t3 (f:=λa b=>bk (al T2 n) T2 (.typ "range") [a,b]) ha hb (G.new (t:=.rng x y 1) (o:=.rng x y 1) hA rfl λ_ h=>h)
theorem og{x z:Int}(h:decide (z≠0/\z.natAbs<2^28)=true):Hw n (.typ "range") (.sc (.int x)) (.sc (.int y)) (.sc (.int z)) (.rng x y z):=λA V a b c hA ha hb hc=>by obtain rfl:a=.int x:=ha;obtain rfl:b=.int y:=hb;obtain rfl:c=.int z:=hc;exact show Wp (bd (lift (some [x,y,z])) Bv) V _ from Wp.lift (a:=[x,y,z]) rfl (Wp.must h (G.new (t:=.rng x y z) (o:=.rng x y z) hA rfl λ_ h=>h))
end
set_option backward.match.sparseCases true
section
theorem J.bd{β:Type}{f:PV->Mo β}{Q:β->aI->Prop}(j:J n sc l e t)(h:Cx A V m l)(k:∀v V',aB V V'->Cx A V' m l->dp A V' v t->Wp (f v) V' Q):Wp (bd ((al T2 n).e sc m e) f) V Q:=Wp.bd ((j A V m h).mono λv V' g=>k v V' g.1 (h.keep g.1) g.2)
theorem JB.bd{β:Type}{f:Bool->Mo β}{Q:β->aI->Prop}(j:JB n sc l e b)(h:Cx A V m l)(k:∀V',aB V V'->Cx A V' m l->Wp (f b) V' Q):Wp (bd ((al T2 n).b sc m e) f) V Q:=Wp.bd ((j A V m h).mono λv V' g=>g.2▸k V' g.1 (h.keep g.1))
theorem Wp.after{x:Mo PV}(k:aB V V')(h:Wp x V' (G A V' t)):Wp x V' (G A V t):=h.mono λ_ _ g=>⟨k.trans g.1,g.2⟩
theorem JF.j(h:JF n sc l e t):J n sc l e t:=λA V m c=>(h A V m c).mono λ_ _ g=>g.1
theorem J.to(h:J n sc l e t')(k:t'=t):J n sc l e t:=k▸h
theorem JB.to(h:JB n sc l e b')(k:b'=b):JB n sc l e b:=k▸h
theorem aa(hk:bq sc x=true)(hl:l.lookup x=some t):J (n+1) sc l (.Name x p) t:=λA V m h=>
 let⟨v,ev,r⟩:=h.e x t hl
 yu (l:=[(x,v)]) (DJ.of ⟨ev,trivial⟩) (by rw[lookup_cons,beq_self_eq_true]) hk ⟨.refl _,r⟩
theorem an{i:Int}{j:Nat}:J (n+1) sc l (.Constant (.int i) j p) (.sc (.int i)):=λ_ _ _ _=>gj
theorem uk{j:Nat}:J (n+1) sc l (.Constant (.bool b) j p) (.sc (.bool b)):=λ_ _ _ _=>gj
theorem iQ{j:Nat}(h:Nat.ble s.cps.toList.length 1000=true):J (n+1) sc l (.Constant (.str s) j p) (.sc (.str (SL s.cps.toList))):=λ_ _ _ _=>b9 (s:=s) rfl (le_of_ble_eq_true h) ⟨.refl _,rfl⟩
theorem aA(ja:J n sc l e1 ta)(jb:J n sc l e2 tb)(h:zG op ta tb t):J (n+1) sc l (.BinOp e1 op e2 p) t:=λA _ _ c=>ja.bd c λa _ k1 c ra=>jb.bd c λb V k2 c rb=>.after (k1.trans k2) (h A V a b c.a (ra.keep k2.toA) rb)
theorem qR{i:Int}(ja:J n sc l e1 (.sc (.int i))):J (n+1) sc l (.UnaryOp .USub e1 p) (.sc (.int (-i))):=λA _ _ c=>ja.bd c λ_ _ k _ ra=>qP (f:=HM) ra (.after k gj)
theorem Jh(j0:JB n sc l e1 b)(ja:J n sc l e2 ta)(jb:J n sc l e3 tb):J (n+1) sc l (.IfExp e1 e2 e3 p) (if b then ta else tb):=λA V m c=>j0.bd c λV k c=>by
 cases b with
 |true=>exact .after k (ja A V m c)
 |false=>exact .after k (jb A V m c)
theorem zb{op:CmpOp}{a b:PV}{r:Bool}(hb:behindInMarks op e2=false)(ja:J n sc l e1 (.sc a))(jb:J n sc l e2 (.sc b))(h:A6 op a b r):J (n+1) sc l (.Compare e1 [op] [e2] p) (.sc (.bool r)):=λA V m c=>
 Ir hb ((ja A V m c).mono λ_ _ g=>(jb A _ m (c.keep g.1)).mono λ_ V' g'=>t3 (f:=kN op) g.2 g'.2 (.eq (h V') ⟨g.1.trans g'.1,rfl⟩))
theorem a8{op:CmpOp}{a b:PV}{r:Bool}(hb:behindInMarks op e2=false)(ja:J n sc l e1 (.sc a))(jb:J n sc l e2 (.sc b))(h:A6 op a b r):JB (n+1) sc l (.Compare e1 [op] [e2] p) r:=λA V m c=>
 wu hb ((ja A V m c).mono λv _ g=>(jb A _ m (c.keep g.1)).mono λw V' g'=>by obtain rfl:v=a:=g.2;obtain rfl:w=b:=g'.2;exact .eq (h V') (.ok ⟨g.1.trans g'.1,rfl⟩))
theorem lf{x:Expr}(he:∀m,(al T2 (n+1)).b sc m x=lq (al T2 n) sc m x)(j:J n sc l x (.sc (.bool b))):JB (n+1) sc l x b:=λA V m c=>by rw[he];exact j.bd c λv V' k _ r=>by obtain rfl:v=.bool b:=r;exact .ok ⟨k,rfl⟩
theorem uw(j:JB n sc l e1 b):JB (n+1) sc l (.UnaryOp .Not e1 p) (!b):=λA _ _ c=>j.bd c λ_ k _=>.ok ⟨k,rfl⟩
theorem o3(j:JB n sc l e1 b)(j':JB n sc l e2 b'):JB (n+1) sc l (.BoolOp .And [e1,e2] p) (b&&b'):=λA V m c=>by
 refine bb_and ((j A V m c).mono λr V' g=>?_);obtain⟨k,rfl⟩:=g;cases r with
 |false=>exact⟨k,rfl⟩
 |true=>
  refine bb_and ((j' A V' m (c.keep k)).mono λr V' g=>?_);obtain⟨k',rfl⟩:=g;cases r with
  |false=>exact⟨k.trans k',rfl⟩
  |true=>exact tq ⟨k.trans k',rfl⟩
theorem aG{i:PV}(hs:sliceOf e2=none)(ja:J n sc l e1 ta)(jb:J n sc l e2 (.sc i))(h:Sub ta i t):J (n+1) sc l (.Subscript e1 e2 p) t:=λA V m c=>by refine(?_:Wp (sW T2 (al T2 n) sc m e1 e2) V _);unfold sW;rw[hs];exact ja.bd c λa _ k c ra=>jb.bd c λb V k' c rb=>by obtain rfl:b=i:=rb;exact .after (k.trans k') (h A V a (ra.keep k'.toA))
theorem xQ{k:Int}(ja:J n sc l e1 ta)(jb:J n sc l e2 (.sc (.int k)))(h:ES ta (some k) none t):J (n+1) sc l (.Subscript e1 (.Slice (some e2) none none p') p) t:=λA V m c=>
 ja.bd c λa _ g c ra=>Wp.bd (Wp.bd ((jb A _ m c).mono λv V g'=>by obtain rfl:v=.int k:=g'.2;exact .ok (Wp.bd (.ok (.after (g.trans g'.1) (h A V a (c.keep g'.1).a (ra.keep g'.1.toA)))))))
theorem JO{k:Int}(ja:J n sc l e1 ta)(jb:J n sc l e2 (.sc (.int k)))(h:ES ta none (some k) t):J (n+1) sc l (.Subscript e1 (.Slice none (some e2) none p') p) t:=λA V m c=>
 ja.bd c λa _ g c ra=>Wp.bd (.ok (Wp.bd (Wp.bd ((jb A _ m c).mono λv V g'=>by obtain rfl:v=.int k:=g'.2;exact .ok (.after (g.trans g'.1) (h A V a (c.keep g'.1).a (ra.keep g'.1.toA)))))))
variable {f:PV}
theorem ax(hf:∀m V,bQ T2 sc m x V=some (f,V))(h1:aE e1=true)(ja:J (n+1) sc l e1 ta)(h:m5 (n+1) f ta t):J (n+2) sc l (.Call (.Name x p') [e1] [] p) t:=λA V m c=>
 dA rfl (dc (hf m V) (aw h1 ((ja A V m c).mono λa V' g=>aO (.after g.1 (h A V' a (c.keep g.1).a g.2)))))
theorem cn(hf:∀m V,bQ T2 sc m x V=some (f,V))(h1:aE e1=true)(h2:aE e2=true)(ja:J (n+1) sc l e1 ta)(jb:J (n+1) sc l e2 tb)(h:s8 (n+1) f ta tb t):J (n+2) sc l (.Call (.Name x p') [e1,e2] [] p) t:=λA V m c=>
 dA rfl (dc (hf m V) (aw h1 ((ja A V m c).mono λa _ g=>aw h2 ((jb A _ m (c.keep g.1)).mono λb V' g'=>aO (.after (g.1.trans g'.1) (h A V' a b (c.keep (g.1.trans g'.1)).a (g.2.keep g'.1.toA) g'.2))))))
theorem lc(hf:∀m V,bQ T2 sc m x V=some (f,V))(h1:aE e1=true)(h2:aE e2=true)(h3:aE e3=true)(ja:J (n+1) sc l e1 ta)(jb:J (n+1) sc l e2 tb)(jc:J (n+1) sc l e3 tc)(h:Hw (n+1) f ta tb tc t):J (n+2) sc l (.Call (.Name x p') [e1,e2,e3] [] p) t:=λA V m c=>
 dA rfl (dc (hf m V) (aw h1 ((ja A V m c).mono λa _ g=>aw h2 ((jb A _ m (c.keep g.1)).mono λb _ g'=>aw h3 ((jc A _ m (c.keep (g.1.trans g'.1))).mono λd V' g''=>aO (.after ((g.1.trans g'.1).trans g''.1) (h A V' a b d (c.keep ((g.1.trans g'.1).trans g''.1)).a (g.2.keep (g'.1.trans g''.1).toA) (g'.2.keep g''.1.toA) g''.2)))))))
theorem C0(hf:∀m V,bQ T2 sc m x V=some (f,V))(h1:aE e1=true)(h2:aE e2=true)(h3:aE e3=true)(h4:aE e4=true)(ja:J (n+1) sc l e1 ta)(jb:J (n+1) sc l e2 tb)(jc:J (n+1) sc l e3 tc)(jd:J (n+1) sc l e4 td)(h:Kc (n+1) f ta tb tc td t):J (n+2) sc l (.Call (.Name x p') [e1,e2,e3,e4] [] p) t:=λA V m c=>
 dA rfl (dc (hf m V) (aw h1 ((ja A V m c).mono λa _ g=>aw h2 ((jb A _ m (c.keep g.1)).mono λb _ g'=>aw h3 ((jc A _ m (c.keep (g.1.trans g'.1))).mono λd V' g''=>aw h4 ((jd A _ m (c.keep ((g.1.trans g'.1).trans g''.1))).mono λu V' g3=>aO (.after (((g.1.trans g'.1).trans g''.1).trans g3.1) (h A V' a b d u (c.keep (((g.1.trans g'.1).trans g''.1).trans g3.1)).a (g.2.keep ((g'.1.trans g''.1).trans g3.1).toA) (g'.2.keep (g''.1.trans g3.1).toA) (g''.2.keep g3.1.toA) g3.2))))))))
def Me(ta:Tr)(x:Str)(f:PV):Prop:=∀(A:Nat->Prop) (V:aI) (a:PV),dp A V a ta->bx T2 a x V=some (f,V)
theorem iz(h:(gU x).map PV.blt=some f):Me (.sc (.str s)) x f:=λ_ V a ra=>by obtain rfl:a=.str s:=ra;refine(?_:lift ((gU x).map PV.blt) V=_);rw[h];rfl
theorem FO(h:(gL x).map PV.blt=some f):Me (.lst vs) x f:=λ_ V a ⟨r,ra,_,e⟩=>by subst ra;refine(?_:bd (getO r) _ V=_);unfold bd getO;rw[e];refine(?_:lift ((gL x).map PV.blt) V=_);rw[h];rfl
theorem gX(ho:(aH e&&decide (ap.endLine=p.line))=true)(j0:J n sc l e ta)(hm:Me ta x f)(h:m5 n f ta t):J (n+1) sc l (.Call (.Attribute e x ap) [] [] p) t:=λA V m c=>
 dy rfl rfl (by rw[ho];rfl) ((j0 A V m c).mono λa V' g=>.eq (hm A V' a g.2) (aO (.after g.1 (h A V' a (c.keep g.1).a g.2))))
theorem gR(ho:(aH e&&decide (ap.endLine=p.line))=true)(hs:eT [e1]=none)(h1:aE e1=true)(j0:J n sc l e ta)(ja:J n sc l e1 tb)(hm:Me ta x f)(h:s8 n f ta tb t):J (n+1) sc l (.Call (.Attribute e x ap) [e1] [] p) t:=λA V m c=>
 dy hs rfl (by rw[ho];rfl) ((j0 A V m c).mono λa V' g=>.eq (hm A V' a g.2) (aw h1 ((ja A V' m (c.keep g.1)).mono λb V'' g'=>aO (.after (g.1.trans g'.1) (h A V'' a b (c.keep (g.1.trans g'.1)).a (g.2.keep g'.1.toA) g'.2)))))
theorem pg{xs:List PV}(hx:Nat.ble xs.length 1000=true)(hA:∀j,V.length<=j->A j)(k:bH A (V++[.list xs]) (.list xs) (.ref V.length)->dp A (V++[.list xs]) (.ref V.length) t):Wp (newList xs) V λv V'=>G A V t v V'/\∀ρ,v=.ref ρ->V.length<=ρ:=
 Wp.must (decide_eq_true (Nat.le_trans (le_of_ble_eq_true hx) (by decide))) (.eq rfl ⟨⟨.new ..,k (.new hA)⟩,λρ e=>cY e▸le_refl _⟩)
theorem dr:JF (n+1) sc l (.List [] p) (.lst []):=λA V m c=>lE (aO (pg rfl c.a id))
theorem Wp.afterF{x:Mo PV}(k:aB V V')(h:Wp x V' λv V''=>G A V' t v V''/\∀ρ,v=.ref ρ->V'.length<=ρ):Wp x V' λv V''=>G A V t v V''/\∀ρ,v=.ref ρ->V.length<=ρ:=h.mono λ_ _ g=>⟨⟨k.trans g.1.1,g.1.2⟩,λρ e=>Nat.le_trans k.1 (g.2 ρ e)⟩
theorem gu(h1:aE e1=true)(ja:J n sc l e1 (.sc v)):JF (n+1) sc l (.List [e1] p) (.lst [v]):=λA V m c=>lE (aw h1 ((ja A V m c).mono λa V' g=>aO (by obtain rfl:a=v:=g.2;exact .afterF g.1 (pg rfl (c.keep g.1).a id))))
theorem zF{u:PV}(h1:aE e1=true)(h2:aE e2=true)(ja:J n sc l e1 (.sc u))(jb:J n sc l e2 (.sc v)):JF (n+1) sc l (.List [e1,e2] p) (.lst [u,v]):=λA V m c=>lE (aw h1 ((ja A V m c).mono λa V' g=>aw h2 ((jb A V' m (c.keep g.1)).mono λb V'' g'=>aO (by obtain rfl:a=u:=g.2;obtain rfl:b=v:=g'.2;exact .afterF (g.1.trans g'.1) (pg rfl (c.keep (g.1.trans g'.1)).a id)))))
theorem y2(h1:aE e1=true)(ja:J n sc l e1 (.lst vs)):JF (n+1) sc l (.List [e1] p) (.mat [vs]):=λA V m c=>lE (aw h1 ((ja A V m c).mono λa V' g=>aO (.afterF g.1 (pg rfl (c.keep g.1).a λh=>⟨[a],h,.one (bH.keep g.2 (aB.new ..).toA)⟩))))
theorem lg(h1:aE e1=true)(ja:J n sc l e1 (.sc v)):J (n+1) sc l (.List [e1] p) (.lst [v]):=JF.j (gu h1 ja)
theorem kZ{u:PV}(h1:aE e1=true)(h2:aE e2=true)(ja:J n sc l e1 (.sc u))(jb:J n sc l e2 (.sc v)):J (n+1) sc l (.List [e1,e2] p) (.lst [u,v]):=JF.j (zF h1 h2 ja jb)
theorem Eg(h1:aE e1=true)(ja:J n sc l e1 (.lst vs)):J (n+1) sc l (.List [e1] p) (.mat [vs]):=JF.j (y2 h1 ja)
theorem LC{j:Nat}{xs:List PV}(hi:V[i]?=some (.list xs))(hj:V[j]?=some (.list []))(hn:i≠j):nY 4 V (.ref i) (.ref j)=some xs.isEmpty:=by show(if i=j then none else(V[i]?).bind λo=>(V[j]?).bind λo'=>Jo (nY 3 V) o' o)=_;rw[if_neg hn,hi,hj];cases xs<;>rfl
theorem EQ{op:CmpOp}{xs:List PV}(ja:J (n+1) sc l e1 (.lst xs))(h:∀(V:aI) u v,nY 4 V u v=some xs.isEmpty->kN op u v V=some (.bool b,V))(hb:behindInMarks op (.List [] p')=false):JB (n+2) sc l (.Compare e1 [op] [.List [] p'] p) b:=λA V m c=>
 wu hb ((ja A V m c).mono λv V1 g=>(dr (n:=n) A V1 m (c.keep g.1)).mono λw V2 g'=>by obtain⟨k,i,rfl,_,e⟩:=g;obtain⟨⟨k',j,rfl,_,e'⟩,f⟩:=g';have hij:i≠j:=λq=>not_lt.mpr (f j rfl) (q▸bN e);exact .eq (h V2 _ _ (LC (k'.2 _ _ e) e' hij)) (.ok ⟨k.trans k',rfl⟩))
theorem FK{xs:List PV}(ja:J (n+1) sc l e1 (.lst xs)):JB (n+2) sc l (.Compare e1 [.Eq] [.List [] p'] p) xs.isEmpty:=EQ ja (λV u v h=>by show(nY 4 V u v).map _=_;rw[h];rfl) rfl
theorem Hn{xs:List PV}(ja:J (n+1) sc l e1 (.lst xs)):JB (n+2) sc l (.Compare e1 [.NotEq] [.List [] p'] p) (!xs.isEmpty):=EQ ja (λV u v h=>by show(nY 4 V u v).map _=_;rw[h];rfl) rfl
end
theorem bH.on{o:PO}(h:bH A V o v)(k:∀j,j<V.length->A j->A' j):bH A' V o v:=let⟨ρ,e,a,b⟩:=h;⟨ρ,e,k ρ (bN b) a,b⟩
theorem dp.on(h:dp A V v t)(k:∀j,j<V.length->A j->A' j):dp A' V v t:=by
 cases t with
 |sc a=>exact h
 |mat vss=>obtain⟨rs,a,b⟩:=h;exact⟨rs,a.on k,b.mono λ_ _ h=>h.on k⟩
 |ws l=>obtain⟨r,e,h⟩:=h;exact⟨r,e,h.mono λj o a e=>⟨k j (bN e) a,e⟩⟩
 |fmt=>exact⟨h.1,h.2.mono λj o a e=>⟨k j (bN e) a,e⟩⟩
 |_=>exact bH.on h k
theorem sH.on(h:sH A V m l)(k:∀j,j<V.length->A j->A' j):sH A' V m l:=λx t e=>let⟨v,a,b⟩:=h x t e;⟨v,a,b.on k⟩
def sq(A:Nat->Prop)(V:aI)(it:It)(ts:List Tr):Prop:=(∃vs,it=.vals vs/\bo (dp A V) vs ts)∨∃r j xs,it=.live r j/\A r/\V[r]?=some (.list xs)/\bo (dp A V) (xs.drop j) ts
theorem sq.keep(h:sq A V it ts)(k:ci A V V'):sq A V' it ts:=by
 rcases h with⟨vs,e,h⟩|⟨r,j,xs,e,a,g,h⟩
 ·exact .inl ⟨vs,e,h.mono λ_ _ h=>h.keep k⟩
 ·exact .inr ⟨r,j,xs,e,a,k.2 _ _ a g,h.mono λ_ _ h=>h.keep k⟩
theorem sq.on(h:sq A V it ts)(k:∀j,j<V.length->A j->A' j):sq A' V it ts:=by
 rcases h with⟨vs,e,h⟩|⟨r,j,xs,e,a,g,h⟩
 ·exact .inl ⟨vs,e,h.mono λ_ _ h=>h.on k⟩
 ·exact .inr ⟨r,j,xs,e,k _ (bN g) a,g,h.mono λ_ _ h=>h.on k⟩
theorem oe{r j:Nat}{xs:List PV}(e:V[r]?=some (.list xs)):fc (.live r j) V=some (xs[j]?.map λv=>(v,It.live r (j+1)),V):=by refine(?_:bd (getO r) _ V=_);unfold bd getO;rw[e];refine(?_:(match xs[j]? with|some v=>ok (some (v,It.live r (j+1)))|none=>ok none:Mo (Option (PV×It))) V=_);cases xs[j]? <;>rfl
theorem sq.nil(h:sq A V it []):fc it V=some (none,V):=by
 rcases h with⟨vs,rfl,h⟩|⟨r,j,xs,rfl,a,g,h⟩
 ·cases h;rfl
 ·rw[oe g,List.getElem?_eq_none (List.drop_eq_nil_iff.mp (List.length_eq_zero_iff.mp h.length))];rfl
theorem sq.cons(h:sq A V it (t::ts)):∃v it',fc it V=some (some (v,it'),V)/\dp A V v t/\sq A V it' ts:=by
 rcases h with⟨vs,rfl,h⟩|⟨r,j,xs,rfl,a,g,h⟩
 ·cases h with
  |cons x h=>exact⟨_,_,rfl,x,.inl ⟨_,rfl,h⟩⟩
 ·have hl:j<xs.length:=by have:=h.length;rw[length_drop,length_cons]at this;omega
  rw[List.drop_eq_getElem_cons hl]at h;cases h with
  |cons x h=>exact⟨_,.live r (j+1),by rw[oe g,List.getElem?_eq_getElem hl];rfl,x,.inr ⟨r,j+1,xs,rfl,a,g,h⟩⟩
theorem mO{α:Type}(f:α->PV):∀vs:List α,bo (dp A V) (vs.map f) (vs.map λx=>.sc (f x))
 |[]=>.nil
 |_::r=>.cons rfl (mO f r)
theorem Bt(h:bo (λv vs=>bH A V (.list vs) v) vs vss):bo (dp A V) vs (vss.map .lst):=by
 induction h with
 |nil=>exact .nil
 |cons x _ ih=>exact .cons x ih
def da(t:Tr)(ts:List Tr):Prop:=∀(A:Nat->Prop) (V:aI) (v:PV),dp A V v t->Wp (jk v) V λit V'=>V'=V/\sq A V it ts
theorem GH{l:List Nat}:da (.sc (.str (SL l))) (l.map λc=>.sc (.str (SL [c]))):=λ_ _ v h=>by obtain rfl:v=.str (SL l):=h;exact .ok ⟨rfl,.inl ⟨_,rfl,mO (λc=>PV.str (SL [c])) _⟩⟩
theorem cO{α:Type}{g:α->PV}{xs:List α}:da (.lst (xs.map g)) (xs.map λx=>.sc (g x)):=λ_ _ v ⟨r,e,a,h⟩=>e▸Wp.getO h (.ok ⟨rfl,.inr ⟨r,0,_,rfl,a,h,mO g xs⟩⟩)
theorem bE{x:Int}{b:Nat}(hx:x=a)(hy:y=b)(ha:a<100000)(hb:b<100000):da (.rng x y 1) ((List.range' a (b-a)).map λ(j:Nat)=>.sc (.int j)):=λ_ _ v ⟨r,q,_,h⟩=>q▸x9 (hx▸hy▸h) ha hb ⟨rfl,.inl ⟨_,rfl,mO (λ(j:Nat)=>PV.int j) _⟩⟩
theorem BD:da (.mat vss) (vss.map .lst):=λ_ _ v ⟨rs,⟨r,e,a,h⟩,q⟩=>e▸Wp.getO h (.ok ⟨rfl,.inr ⟨r,0,rs,rfl,a,h,Bt q⟩⟩)
theorem A5{a b:Int}(hs:Builtin.Range.small a b 1=true)(e:cm a b 1=is):da (.rng a b 1) (is.map λi=>.sc (.int i)):=λ_ _ v ⟨r,q,_,h⟩=>q▸Wp.getO h (Wp.must hs (.ok ⟨rfl,.inl ⟨_,rfl,e▸mO PV.int _⟩⟩))
def JT(n:Nat)(sc:Scope)(l:cW)(ifs:List Expr)(b:Bool):Prop:=∀(A:Nat->Prop) (V:aI) (m:Loc),Cx A V m l->Wp (mf (al T2 n) sc m ifs) V λc V'=>aB V V'/\c=b
theorem lW:JT n sc l [] true:=λ_ _ _ _=>.ok ⟨.refl _,rfl⟩
theorem mP(h:JB n sc l e b):JT n sc l [e] b:=λA V m c=>Wp.bd ((h A V m c).mono λr V' g=>by obtain⟨k,rfl⟩:=g;cases r<;>exact .ok ⟨k,rfl⟩)
def Hd(V:aI)(acc:Nat)(ws:List PV):Prop:=ws.Nodup/\∀w∈ws,∃ρ,w=.ref ρ/\acc<ρ/\ρ<V.length
theorem Hd.len(h:Hd V acc ws)(k:V.length<=V'.length):Hd V' acc ws:=⟨h.1,λw hw=>let⟨ρ,a,b,c⟩:=h.2 w hw;⟨ρ,a,b,lt_of_lt_of_le c k⟩⟩
section comp
variable {α:Type}{F:Prop}
theorem xO{u:PV}{out:List PV}{Q:Unit->aI->Prop}(e:V[acc]?=some (.list out))(h:out.length<lim)(q:Q () (V.set acc (.list (out++[u])))):Wp (pW acc u) V Q:=
 Wp.getO e (Wp.lift (a:=out) rfl (Wp.must (decide_eq_true h) (.eq (a:=()) (by unfold ek;rw[if_pos (bN e)]) q)))
def q9(sc':Scope)(l l':cW):Prop:=(l'.map λp=>(sc'.names.lookup p.1,l.lookup p.1))=l'.map λp=>(some .free,some p.2)
theorem AJ(h:Cx A V m l)(s:q9 sc' l l'):Cx A V (inner sc' m) l':=⟨h.a,λy t e=>by
 induction l' with
 |nil=>nomatch e
 |cons p r ih=>
  have s:=List.cons.inj s;rw[lookup_cons]at e;by_cases hy:y=p.1
  ·rw[beq_iff_eq.mpr hy]at e;injection e with e
   obtain⟨s1,s2⟩:=Prod.mk.inj s.1;obtain⟨v,e1,e2⟩:=h.e _ _ s2;refine⟨v,?_,e▸e2⟩;unfold inner;rw[hy,s1];exact e1
  ·rw[beq_eq_false_iff_ne.mpr hy]at e;exact ih s.2 e⟩
theorem BM{g f:α->Tr}{q:α->Bool}(hF:F->∀a,∃vs,f a=.lst vs)(hacc:¬A acc):∀(xs:List α),(∀a∈xs,JT n sc' ((x,g a)::l') ifs (q a))->(∀a∈xs,q a=true->∀(A:Nat->Prop) (V:aI) (m:Loc),Cx A V m ((x,g a)::l')->Wp ((al T2 n).e sc' m elt) V λv V'=>G A V (f a) v V'/\(F->∀ρ,v=.ref ρ->V.length<=ρ))->∀(it:It) (k:Nat) (ws:List PV) (os:List Tr) (V:aI),Cx A V (inner sc' m) l'->sq A V it (xs.map g)->xs.length<k->os.length+xs.length<4000->V[acc]?=some (.list ws)->bo (dp A V) ws os->(F->Hd V acc ws)->Wp (mh (al T2 n) sc' x m elt ifs acc k it) V λ_ V'=>(∀j o,j≠acc->V[j]?=some o->V'[j]?=some o)/\V.length<=V'.length/\∃ws',V'[acc]?=some (.list ws')/\bo (dp A V') ws' (os++(xs.filter q).map f)/\(F->Hd V' acc ws'):=by
 intro xs;induction xs with
 |nil=>
  intro _ _ it k ws os V _ hs hk _ e r o;cases k with
  |zero=>exact absurd hk (not_lt_zero _)
  |succ k=>exact Wp.bd (x:=fc it) (.eq hs.nil (.ok ⟨λ_ _ _ e=>e,le_refl _,ws,e,by rw[List.filter_nil,List.map_nil,append_nil];exact r,o⟩))
 |cons a xs ih=>
  intro ht he it k ws os V c hs hk hn e r o;cases k with
  |zero=>exact absurd hk (not_lt_zero _)
  |succ k=>
  rw[length_cons]at hk hn;obtain⟨v,it',en,hv,hs'⟩:=hs.cons;have ih:=ih (λb hb=>ht b (.tail _ hb)) (λb hb=>he b (.tail _ hb)) it' k;refine Wp.bd (x:=fc it) (.eq en (Wp.bd (x:=mf (al T2 n) sc' _ ifs) ((ht a (.head _) A V _ (c.set hv)).mono λb V1 hb=>?_)));obtain⟨L5,rfl⟩:=hb;have LM:=r.mono λ_ _ h=>h.keep L5.toA;have Ma:=L5.2 _ _ e;rw[List.filter_cons];by_cases hq:q a=true
  ·rw[if_pos hq,hq];refine Wp.bd (Wp.bd (x:=(al T2 n).e sc' _ elt) ((he a (.head _) hq A V1 _ ((c.keep L5).set (hv.keep L5.toA))).mono λu V2 h=>?_));obtain⟨⟨L9,hu⟩,hf⟩:=h;have L0:=L9.2 _ _ Ma;have LW:=LM.mono λ_ _ h=>h.keep L9.toA;refine xO L0 (lt_of_lt_of_le (by rw[r.length];(exact lt_of_le_of_lt (le_add_right ..) (by assumption)):ws.length<4000) (by decide)) ?_;have ka:ci A V2 (V2.set acc (.list (ws++[u]))):=.set _ hacc;refine(ih (ws++[u]) (os++[f a]) _ (((c.keep L5).keep L9).keepA ka) (hs'.keep ((L5.trans L9).toA.trans ka)) (by(exact lt_of_succ_lt_succ (by assumption))) (by rw[List.length_append,length_singleton];lia) (cg L0) ((LW.append (.one hu)).mono λ_ _ h=>h.keep ka) λhF'=>?_).mono λ_ V3 h=>?_
   ·have Mf:=(o hF').len L5.1;obtain⟨vs,ev⟩:=hF hF' a;rw[ev]at hu;obtain⟨ρ,rfl,_,eρ⟩:=hu;have hρ:=hf hF' ρ rfl;have:acc<V1.length:=bN Ma;refine⟨List.nodup_append.mpr ⟨Mf.1,by simp,λw hw w' hw' q=>?_⟩,λw hw=>?_⟩
    ·obtain⟨ρ',rfl,_,h3⟩:=Mf.2 w hw;rw[mem_singleton.mp hw']at q;have:=cY q;lia
    ·rw[length_set];rcases mem_append.mp hw with h|h
     ·exact(Mf.len L9.1).2 w h
     ·exact⟨ρ,mem_singleton.mp h,by(exact lt_of_lt_of_le (by assumption) (by assumption)),bN eρ⟩
   ·obtain⟨h1,h2,h3⟩:=h;rw[length_set]at h2;exact⟨λj o hj e=>h1 j o hj (eQ (L9.2 _ _ (L5.2 _ _ e)) (Ne.symm hj)),Nat.le_trans (Nat.le_trans L5.1 L9.1) h2,by rw[List.append_assoc]at h3;exact h3⟩
  ·rw[if_neg hq,eq_false_iff.mpr hq];refine Wp.bd (Wp.ok ((ih ws os V1 (c.keep L5) (hs'.keep L5.toA) (by lia) (by(exact Nat.le_of_lt (by assumption))) Ma LM λhF'=>(o hF').len L5.1).mono λ_ V3 h=>?_));exact⟨λj o hj e=>h.1 j o hj (L5.2 _ _ e),Nat.le_trans L5.1 h.2.1,h.2.2⟩
theorem qH{g f:α->Tr}{q:α->Bool}{xs:List α}(hi:da ti ts)(hx:ts=xs.map g)(hn:xs.length<4000) (hs:q9 sc' l l')(hF:F->∀a,∃vs,f a=.lst vs)(ht:∀a∈xs,JT n sc' ((x,g a)::l') ifs (q a)) (he:∀a∈xs,q a=true->∀(A:Nat->Prop) (V:aI) (m:Loc),Cx A V m ((x,g a)::l')->Wp ((al T2 n).e sc' m elt) V λv V'=>G A V (f a) v V'/\(F->∀ρ,v=.ref ρ->V.length<=ρ))(c:Cx A V m l)(rv:dp A V v ti):Wp (lB (al T2 n) sc' m x elt ifs v) V λv V'=>aB V V'/\∃ρ ws,v=.ref ρ/\V.length<=ρ/\V'[ρ]?=some (.list ws)/\bo (dp A V') ws ((xs.filter q).map f)/\(F->Hd V' ρ ws):=by unfold lB;refine Wp.bd ((hi A V v rv).mono λit V2 h=>?_);obtain⟨rfl,hsrc⟩:=h;refine Wp.bd (.eq (a:=.ref V2.length) (V':=V2++[.list []]) rfl (Wp.bd ?_));have kn:aB V2 (V2++[.list []]):=.new ..;have on:∀j,j<V2.length->A j->A j/\j≠V2.length:=λj h a=>⟨a,ne_of_lt h⟩;have c':Cx (λj=>A j/\j≠V2.length) (V2++[.list []]) m l:=⟨λj hj=>by rw[List.length_append]at hj;exact⟨c.a j (Nat.le_of_succ_le hj),ne_of_gt hj⟩,(c.e.on on).keep kn.toA⟩;refine(BM hF (λh=>h.2 rfl) xs ht he it c7 [] [] _ (AJ c' hs) ((hx▸hsrc.on on).keep kn.toA) hn (by rw[List.length_nil,zero_add];exact hn) (cD ..) .nil λ_=>⟨.nil,λ_ h=>nomatch h⟩).mono λ_ V3 h=>?_;obtain⟨h1,h2,ws,e,r,o⟩:=h;exact .ok ⟨⟨Nat.le_trans kn.1 h2,λj o ej=>h1 j o (ne_of_lt (bN ej)) (bZ ej)⟩,_,ws,rfl,le_refl _,e,r.mono λ_ _ h=>h.on λ_ _ h=>h.1,o⟩
theorem pK{gens:List Comprehension}{g f:α->Tr}{q:α->Bool}{xs:List α}(hg:cK gens=some (x,iter,ifs))(hc:(dw sc sc' x&&aY iter)=true)(ji:J n sc l iter ti)(hi:da ti ts)(hx:ts=xs.map g)(hn:xs.length<4000) (hs:q9 sc' l l')(hF:F->∀a,∃vs,f a=.lst vs)(ht:∀a∈xs,JT n sc' ((x,g a)::l') ifs (q a)) (he:∀a∈xs,q a=true->∀(A:Nat->Prop) (V:aI) (m:Loc),Cx A V m ((x,g a)::l')->Wp ((al T2 n).e sc' m elt) V λv V'=>G A V (f a) v V'/\(F->∀ρ,v=.ref ρ->V.length<=ρ))(c:Cx A V m l):Wp ((al T2 (n+1)).e sc m (.ListComp elt gens sc' p)) V λv V'=>aB V V'/\∃ρ ws,v=.ref ρ/\V.length<=ρ/\V'[ρ]?=some (.list ws)/\bo (dp A V') ws ((xs.filter q).map f)/\(F->Hd V' ρ ws):=by refine(?_:Wp (kB (al T2 n) sc m elt gens sc') V _);unfold kB;rw[hg];refine Wp.must hc (ji.bd c λv V1 k c rv=>(qH hi hx hn hs hF ht he c rv).mono λw V2 h=>?_);obtain⟨k',ρ,ws,e,hρ,r⟩:=h;exact⟨k.trans k',ρ,ws,e,Nat.le_trans k.1 hρ,r⟩
theorem oy{V:aI}{f:α->PV}:∀{ys:List α} {ws:List PV},bo (dp A V) ws (ys.map λa=>.sc (f a))->ws=ys.map f
 |[],_,r=>by cases r;rfl
 |y::ys,_,r=>by cases r with|cons h r=>rw[map_cons,<-oy r,show _=_ from h]
variable {gens:List Comprehension}{g:α->Tr}{q:α->Bool}{xs:List α}
theorem gP{f:α->PV}(hg:cK gens=some (x,iter,ifs))(hc:(dw sc sc' x&&aY iter)=true)(ji:J n sc l iter ti)(hi:da ti ts)(hx:ts=xs.map g)(hn:xs.length<4000)(hs:q9 sc' l l')(ht:∀a∈xs,JT n sc' ((x,g a)::l') ifs (q a)) (he:∀a∈xs,q a=true->J n sc' ((x,g a)::l') elt (.sc (f a))):JF (n+1) sc l (.ListComp elt gens sc' p) (.lst ((xs.filter q).map f)):=λA V m c=>by refine(pK (F:=False) (f:=λa=>.sc (f a)) hg hc ji hi hx hn hs (λh=>h.elim) ht (λa ha hq A V m c=>(he a ha hq A V m c).mono λ_ _ h=>⟨h,λh=>h.elim⟩) c).mono λv V' h=>?_;obtain⟨k,ρ,ws,rfl,hρ,e,r,z⟩:=h;exact⟨⟨k,ρ,rfl,c.a _ hρ,oy r▸e⟩,λρ' e=>cY e▸hρ⟩
theorem eY(xs:List α):xs.filter (λ_=>true)=xs:=List.filter_eq_self.mpr λ_ _=>rfl
theorem bW{f:α->PV}(hg:cK gens=some (x,iter,[]))(hc:(dw sc sc' x&&aY iter)=true)(ji:J n sc l iter ti)(hi:da ti ts)(hx:ts=xs.map g)(hn:xs.length<4000)(hs:q9 sc' l l') (he:∀a∈xs,J n sc' ((x,g a)::l') elt (.sc (f a))):JF (n+1) sc l (.ListComp elt gens sc' p) (.lst (xs.map f)):=by have:=gP (p:=p) (q:=λ_=>true) hg hc ji hi hx hn hs (λ_ _=>lW) (λa h _=>he a h);rw[eY]at this;exact this
theorem pT{V:aI}{f:α->List PV}:∀{ys:List α} {ws:List PV},bo (dp A V) ws (ys.map λa=>.lst (f a))->bo (λv vs=>bH A V (.list vs) v) ws (ys.map f)
 |[],_,r=>by cases r;exact .nil
 |_::_,_,r=>by cases r with|cons h r=>exact .cons h (pT r)
theorem zu{f:α->List PV}(hg:cK gens=some (x,iter,ifs))(hc:(dw sc sc' x&&aY iter)=true)(ji:J n sc l iter ti)(hi:da ti ts)(hx:ts=xs.map g)(hn:xs.length<4000)(hs:q9 sc' l l')(ht:∀a∈xs,JT n sc' ((x,g a)::l') ifs (q a)) (he:∀a∈xs,q a=true->J n sc' ((x,g a)::l') elt (.lst (f a))):JF (n+1) sc l (.ListComp elt gens sc' p) (.mat ((xs.filter q).map f)):=λA V m c=>
 (pK (F:=False) (f:=λa=>.lst (f a)) hg hc ji hi hx hn hs (λh=>h.elim) ht (λa ha hq A V m c=>(he a ha hq A V m c).mono λ_ _ h=>⟨h,λh=>h.elim⟩) c).mono λv V' h=>by obtain⟨k,ρ,ws,rfl,hρ,e,r,_⟩:=h;exact⟨⟨k,ws,⟨ρ,rfl,c.a _ hρ,e⟩,pT r⟩,λρ' e=>cY e▸hρ⟩
theorem xK{f:α->List PV}(hg:cK gens=some (x,iter,[]))(hc:(dw sc sc' x&&aY iter)=true)(ji:J n sc l iter ti)(hi:da ti ts)(hx:ts=xs.map g)(hn:xs.length<4000)(hs:q9 sc' l l') (he:∀a∈xs,J n sc' ((x,g a)::l') elt (.lst (f a))):JF (n+1) sc l (.ListComp elt gens sc' p) (.mat (xs.map f)):=by have:=zu (p:=p) (q:=λ_=>true) hg hc ji hi hx hn hs (λ_ _=>lW) (λa h _=>he a h);rw[eY]at this;exact this
structure dm(V:aI)(ρ:Nat)(rs:List Nat)(vss:List (List PV)):Prop where
 e:V[ρ]?=some (.list (rs.map .ref))
 r:bo (λr vs=>V[r]?=some (.list vs)) rs vss
 d:(ρ::rs).Nodup
theorem n0{V:aI}:∀{rs:List Nat} {vss:List (List PV)},bo (λv vs=>bH A V (.list vs) v) (rs.map .ref) vss->bo (λr vs=>V[r]?=some (.list vs)) rs vss
 |[],_,r=>by cases r;exact .nil
 |_::_,_,r=>by cases r with|cons h r=>obtain⟨_,e,_,h⟩:=h;exact .cons (cY e▸h) (n0 r)
theorem qZ:∀{rs:List Nat},(rs.map PV.ref).Nodup->rs.Nodup
 |[],_=>.nil
 |_::_,h=>nodup_cons.mpr ⟨λq=>(nodup_cons.mp h).1 (List.mem_map_of_mem q),qZ (nodup_cons.mp h).2⟩
theorem Fi{f:α->List PV}(hg:cK gens=some (x,iter,ifs))(hc:(dw sc sc' x&&aY iter)=true)(ji:J n sc l iter ti)(hi:da ti ts)(hx:ts=xs.map g)(hn:xs.length<4000)(hs:q9 sc' l l')(ht:∀a∈xs,JT n sc' ((x,g a)::l') ifs (q a)) (he:∀a∈xs,q a=true->JF n sc' ((x,g a)::l') elt (.lst (f a)))(c:Cx A V m l):Wp ((al T2 (n+1)).e sc m (.ListComp elt gens sc' p)) V λv V'=>aB V V'/\∃ρ rs,v=.ref ρ/\dm V' ρ rs ((xs.filter q).map f)/\∀r∈ρ::rs,V.length<=r:=
 (pK (F:=True) (f:=λa=>.lst (f a)) hg hc ji hi hx hn hs (λ_ a=>⟨_,rfl⟩) ht (λa ha hq A V m c=>(he a ha hq A V m c).mono λ_ _ h=>⟨h.1,λ_=>h.2⟩) c).mono λv V' h=>by
  obtain⟨k,ρ,ws,rfl,hρ,e,r,z⟩:=h;have o:=z trivial;obtain⟨rs,rfl⟩:∃rs:List Nat,ws=rs.map .ref:=by
   clear e r z;induction ws with
   |nil=>exact⟨[],rfl⟩
   |cons w ws ih=>obtain⟨ρ',rfl,_⟩:=o.2 w (.head _);obtain⟨rs,rfl⟩:=ih ⟨(nodup_cons.mp o.1).2,λw h=>o.2 w (.tail _ h)⟩;exact⟨ρ'::rs,rfl⟩
  have hlt:∀r∈rs,ρ<r:=λr h=>by obtain⟨ρ',e,h,_⟩:=o.2 _ (List.mem_map_of_mem h);rw[cY e];exact h
  refine⟨k,ρ,rs,rfl,⟨e,?_,nodup_cons.mpr ⟨λh=>lt_irrefl _ (hlt _ h),qZ o.1⟩⟩,λr h=>?_⟩
  ·exact n0 (pT r)
  ·rcases mem_cons.mp h with rfl|h
   ·exact hρ
   ·exact Nat.le_trans hρ (Nat.le_of_lt (hlt _ h))
end comp
def Rm(A:Nat->Prop)(ρ:Nat)(j:Nat):Prop:=A j/\j≠ρ
theorem aX.toA(h:aX ρ V V')(hρ:¬A ρ):ci A V V':=⟨h.1,λi o a e=>h.2 i o (λq=>hρ (q▸a)) e⟩
theorem cT:¬Rm A ρ ρ:=λh=>h.2 rfl
theorem Cx.own(c:Cx A V m l)(k:aB V V')(h:V.length<=ρ)(h':ρ<V'.length):Cx (Rm A ρ) V' m l:=⟨λj hj=>⟨c.a j (Nat.le_trans k.1 hj),by lia⟩,(c.e.on (A':=Rm A ρ) λj hj a=>⟨a,by lia⟩).keep k.toA⟩
theorem Cx.frz(c:Cx A' V m l)(a:∀j,A' j->A j)(hx:l.lookup x=some (.sc (.ref ρ)))(r:dp A V (.ref ρ) t):Cx A V m ((x,t)::l):=⟨λj hj=>a j (c.a j hj),λy u e=>by
 rw[lookup_cons]at e;by_cases hy:y=x
 ·rw[beq_iff_eq.mpr hy]at e;injection e with e
  obtain⟨w,e1,e2⟩:=c.e x _ hx;obtain rfl:w=.ref ρ:=e2;exact⟨_,hy▸e1,e▸r⟩
 ·rw[beq_eq_false_iff_ne.mpr hy]at e;obtain⟨w,e1,e2⟩:=c.e y u e;exact⟨w,e1,e2.on λj _=>a j⟩⟩
theorem tp{j:Nat}(h:Rm A ρ j):A j:=h.1
def fk(sc:Scope)(x:Str):Prop:=∀m:Loc,aV sc m x=λv=>some (m.set x v)
theorem aD(hx:fk sc x)(hc:ce e=false)(j:J n sc l e t)(c:Cx A V m l)(k:∀m' V',aB V V'->Cx A V' m' ((x,t)::l)->Wp ((al T2 (n+1)).ss sc m' r) V' S):Wp ((al T2 (n+1)).ss sc m (.Assign [.Name x p] e p'::r)) V S:=
 ao (cH (hx m) hc ((j A V m c).mono λ_ _ g=>k _ _ g.1 ((c.keep g.1).set g.2)))
theorem Br{gens:List Comprehension}(hx:fk sc x)(h:Wp ((al T2 (n+1)).e sc m (.ListComp elt gens sc' q)) V λv V'=>S (.next,m.set x v) V'):Wp (mW T2 (al T2 n) sc m (.Assign [.Name x p] (.ListComp elt gens sc' q) p')) V S:=by refine(?_:Wp (bd (must true) λ_=>bd (mr (al T2 n) sc m (.ListComp elt gens sc' q)) λv=>bd (bd (lift (aV sc m x v)) λm=>ok m) λm=>ok (.next,m)) V S);refine Wp.must rfl (Wp.bd (h.mono λv V' h=>?_));rw[hx];exact Wp.bd (Wp.bd (Wp.ok (.ok (.ok h))))
theorem pU{gens:List Comprehension}(hx:fk sc x)(j:J (n+1) sc l (.ListComp elt gens sc' q) t)(c:Cx A V m l)(k:∀m' V',aB V V'->Cx A V' m' ((x,t)::l)->Wp ((al T2 (n+1)).ss sc m' r) V' S):Wp ((al T2 (n+1)).ss sc m (.Assign [.Name x p] (.ListComp elt gens sc' q) p'::r)) V S:=ao (Br hx ((j A V m c).mono λ_ _ g=>k _ _ g.1 ((c.keep g.1).set g.2)))
theorem fJ(hx:fk sc x)(hc:ce e=false)(j:JF n sc l e (.lst vs))(c:Cx A V m l)(k:∀m' V' ρ,aB V V'->V.length<=ρ->A ρ->V'[ρ]?=some (.list vs)->Cx (Rm A ρ) V' m' ((x,.sc (.ref ρ))::l)->Wp ((al T2 (n+1)).ss sc m' r) V' S):Wp ((al T2 (n+1)).ss sc m (.Assign [.Name x p] e p'::r)) V S:=
 ao (cH (hx m) hc ((j A V m c).mono λv V' g=>by obtain⟨⟨k1,ρ,rfl,a,o⟩,f⟩:=g;exact k _ _ ρ k1 (f ρ rfl) a o ((c.own k1 (f ρ rfl) (bN o)).set rfl)))
theorem oz(ho:aH o'=true)(jo:J (n+1) sc l o' (.sc (.ref ρ)))(h1:aE e=true)(hs:eT [e]=none)(o:V[ρ]?=some (.list ws))(hn:ws.length<1000)(hp:q.endLine=p.line)(j:∀V',aB V V'->Cx A V' m l->Wp ((al T2 (n+1)).e sc m e) V' (G A V' t))(c:Cx A V m l) (k:∀V' v,aB V V'->dp A V' v t->V'[ρ]?=some (.list ws)->Cx A V' m l->Q .none (V'.set ρ (.list (ws++[v])))):Wp ((al T2 (n+2)).e sc m (.Call (.Attribute o' "append" q) [e] [] p)) V Q:=
 dy hs rfl (by rw[ho,hp];exact(and_eq_true _ _).mpr ⟨decide_eq_true rfl,rfl⟩) ((jo A V m c).mono λv V1 g=>by obtain⟨k1,rfl⟩:=g;exact .eq (a:=.blt "list.append") (V':=V1) (by show bd (getO ρ) _ V1=_;unfold bd getO;rw[k1.2 _ _ o];rfl) (aw h1 ((j V1 k1 (c.keep k1)).mono λv V2 g=>aO (by have o:=g.1.2 _ _ (k1.2 _ _ o);refine show Wp (kW (.ref ρ) v) V2 _ from ?_;unfold kW;exact Wp.lift (a:=ρ) rfl (Wp.getO o (Wp.lift (a:=ws) rfl (Wp.must (decide_eq_true (lt_trans hn (by decide))) (Wp.bd (.eq (a:=()) (by unfold ek;rw[if_pos (bN o)]) (.ok (k V2 v (k1.trans g.1) g.2 o ((c.keep k1).keep g.1))))))))))))
theorem B0(ho:aH o'=true)(jo:J (n+1) sc l o' (.sc (.ref ρ)))(h1:aE e=true)(hs:eT [e]=none)(o:V[ρ]?=some (.list ws))(hn:ws.length<1000)(hρ:¬A ρ)(hp:q.endLine=p.line)(j:∀V',aB V V'->Cx A V' m l->Wp ((al T2 (n+1)).e sc m e) V' (G A V' t))(c:Cx A V m l) (k:∀V' v,aX ρ V V'->V'[ρ]?=some (.list (ws++[v]))->dp A V' v t->Cx A V' m l->Wp ((al T2 (n+3)).ss sc m r) V' S):Wp ((al T2 (n+3)).ss sc m (.Expr (.Call (.Attribute o' "append" q) [e] [] p) p::r)) V S:=
 ao (dY rfl (oz ho jo h1 hs o hn hp j c λV2 v k1 g o c=>by have kx:aX ρ V2 (V2.set ρ (.list (ws++[v]))):=aX.set ..;have ka:=kx.toA (A:=A) hρ;exact ae (k _ v ⟨Nat.le_trans k1.1 kx.1,λj o' h e=>kx.2 j o' h (k1.2 _ _ e)⟩ (cg o) (g.keep ka) (c.keepA ka))))
theorem wO(hk:bq sc x=true)(hl:l.lookup x=some (.sc (.ref ρ)))(h1:aE e=true)(hs:eT [e]=none)(o:V[ρ]?=some (.list ws))(hn:ws.length<1000)(hρ:¬A ρ)(hp:q.endLine=p.line)(j:∀V',aB V V'->Cx A V' m l->Wp ((al T2 (n+1)).e sc m e) V' (G A V' t))(c:Cx A V m l) (k:∀V' v,aX ρ V V'->V'[ρ]?=some (.list (ws++[v]))->dp A V' v t->Cx A V' m l->Wp ((al T2 (n+3)).ss sc m r) V' S):Wp ((al T2 (n+3)).ss sc m (.Expr (.Call (.Attribute (.Name x p') "append" q) [e] [] p) p::r)) V S:=
 B0 rfl (aa hk hl) h1 hs o hn hρ hp j c k
theorem mK(hk:bq sc x=true)(hl:l.lookup x=some (.sc (.ref ρ)))(h1:aE e=true)(hs:eT [e]=none)(o:V[ρ]?=some (.list ws))(hn:ws.length<1000)(hρ:¬A ρ)(hp:q.endLine=p.line)(j:J (n+1) sc l e t)(c:Cx A V m l) (k:∀V' v,aX ρ V V'->V'[ρ]?=some (.list (ws++[v]))->dp A V' v t->Cx A V' m l->Wp ((al T2 (n+3)).ss sc m r) V' S):Wp ((al T2 (n+3)).ss sc m (.Expr (.Call (.Attribute (.Name x p') "append" q) [e] [] p) p::r)) V S:=
 wO hk hl h1 hs o hn hρ hp (λV' _ c=>j A V' m c) c k
theorem bR{bs os:List Stmt}(j:JB n sc l e b)(c:Cx A V m l)(h1:b=true->∀V',aB V V'->Cx A V' m l->Wp ((al T2 n).ss sc m bs) V' (mE T2 n sc r S))(h2:b=false->∀V',aB V V'->Cx A V' m l->Wp ((al T2 n).ss sc m os) V' (mE T2 n sc r S)):Wp ((al T2 (n+1)).ss sc m (.If e bs os p::r)) V S:=ao (Wp.bd ((j A V m c).mono λv V' g=>by
 obtain⟨k,rfl⟩:=g;cases v with
 |true=>exact h1 rfl V' k (c.keep k)
 |false=>exact h2 rfl V' k (c.keep k)))
def FL(A:Nat->Prop)(V:aI)(t:Tr)(fm:a9×Loc)(V':aI):Prop:=∃v,lU fm.1=some v/\G A V t v V'
theorem bI(j:J n sc l e t)(c:Cx A V m l)(h:∀v V',aB V V'->dp A V' v t->S (.ret v,m) V'):Wp ((al T2 (n+1)).ss sc m (.Return (some e) p::r)) V S:=ao (EZ ((j A V m c).mono λv V' g=>h v V' g.1 g.2))
theorem cN(h:aB V0 V)(g:dp A V v t):FL A V0 t (.ret v,m) V:=⟨v,rfl,h,g⟩
theorem dZ{it':It}{b o:List Stmt}{Q:a9×Loc->aI->Prop}(hx:fk sc x)(en:fc it V=some (some (v,it'),V))(h:Wp ((al T2 n).ss sc (m.set x v) b) V λfm V'=>((fm.1=.next∨fm.1=.cont)/\Wp (jM T2 (al T2 n) sc (.Name x p) b o k it' fm.2) V' Q)∨(∃u,fm.1=.ret u/\Q (.ret u,fm.2) V')∨fm.1=.brk/\Q (.next,fm.2) V'):Wp (jM T2 (al T2 n) sc (.Name x p) b o (k+1) it m) V Q:=by
 refine Wp.bd (x:=fc it) (.eq en (Wp.bd (x:=jx T2 (al T2 n) sc m (.Name x p) v) (.eq (a:=m.set x v) (V':=V) (by show lift (aV sc m x v) V=_;rw[hx];rfl) (Wp.bd (h.mono λfm V' h=>?_)))));obtain⟨f,m'⟩:=fm;rcases h with⟨e,h⟩|⟨u,e,h⟩|⟨e,h⟩
 ·have e:f=.next∨f=.cont:=e
  rcases e with rfl|rfl<;>exact h
 ·have e:f=.ret u:=e;subst e;exact .ok h
 ·have e:f=.brk:=e;subst e;exact .ok h
theorem jF{b o:List Stmt}{Q:a9×Loc->aI->Prop}(en:fc it V=some (none,V))(h:Wp ((al T2 n).ss sc m o) V Q):Wp (jM T2 (al T2 n) sc (.Name x p) b o (k+1) it m) V Q:=Wp.bd (x:=fc it) (.eq en h)
theorem qS{α β:Type}(F:β->α->β){g:α->Tr}{b:List Stmt}(xs:List α)(env:β->cW)(O:Nat->β->aI->Prop)(s:β)(hx:fk sc x)(hp:aY e=true)(ji:J (n+1) sc l e ti)(hi:da ti (xs.map g))(hn:xs.length<4000)(c:Cx A V m l) (h0:∀V',aB V V'->Cx A V' m l->Cx A V' m (env s)/\O 0 s V') (step:∀a i s m V,xs[i]?=some a->Cx A V m ((x,g a)::env s)->O i s V->Wp ((al T2 (n+1)).ss sc m b) V λfm V'=>ci A V V'/\(fm.1=.next∨fm.1=.cont)/\Cx A V' fm.2 (env (F s a))/\O (i+1) (F s a) V') (bn:∀m V',Cx A V' m (env (xs.foldl F s))->O xs.length (xs.foldl F s) V'->Wp ((al T2 (n+2)).ss sc m r) V' S):Wp ((al T2 (n+2)).ss sc m (.For (.Name x p) e b [] p'::r)) V S:=by
 refine ao (nJ hp ((ji A V m c).mono λv V1 g1=>(hi A V1 v g1.2).mono λit V2 h=>?_));obtain⟨rfl,hs⟩:=h;obtain⟨c',o⟩:=h0 _ g1.1 (c.keep g1.1);clear h0 ji hi g1 c;have hn:xs.length<c7:=hn;have go:∀(ys:List α) (i:Nat) (s':β) (k:Nat) (it:It) (m:Loc) (V:aI),xs.drop i=ys->i+ys.length=xs.length->ys.foldl F s'=xs.foldl F s->ys.length<k->sq A V it (ys.map g)->Cx A V m (env s')->O i s' V->Wp (jM T2 (al T2 (n+1)) sc (.Name x p) b [] k it m) V (mE T2 (n+1) sc r S):=by
  intro ys;induction ys with
  |nil=>
   intro i s' k it m V _ hl e hk hs c o;cases k with
   |zero=>exact absurd hk (not_lt_zero _)
   |succ k=>have e:s'=_:=e;have hl:i=_:=hl;exact jF hs.nil (ak (ae (bn _ _ (e▸c) (hl▸e▸o))))
  |cons a ys ih=>
   intro i s' k it m V hm hl e hk hs c o;cases k with
   |zero=>exact absurd hk (not_lt_zero _)
   |succ k=>
   obtain⟨v,it',en,hv,hs'⟩:=hs.cons;rw[length_cons]at hl;exact dZ hx en ((step a i s' _ _ (by rw[<-Nat.add_zero i,<-List.getElem?_drop,hm];rfl) (c.set hv) o).mono λfm V' h=>.inl ⟨h.2.1,ih _ _ k it' _ _ (by rw[<-List.drop_drop,hm];rfl) ((add_right_comm i 1 ys.length).trans hl) e (lt_of_succ_lt_succ hk) (hs'.keep h.1) h.2.2.1 h.2.2.2⟩)
 exact go xs 0 s c7 it m _ rfl (zero_add _) rfl hn hs c' o
theorem cB{α β:Type}(F:β->α->β){g:α->Tr}{b:List Stmt}(xs:List α)(env:β->cW)(O:Nat->β->aI->Prop)(s:β)(hx:fk sc x)(hp:aY e=true)(ji:J (n+1) sc l e ti)(hi:da ti (xs.map g))(hn:xs.length<4000)(c:Cx A V m l) (h0:∀V',aB V V'->Cx A V' m l->Cx A V' m (env s)/\O 0 s V') (step:∀a∈xs,∀i s m V,i<xs.length->Cx A V m ((x,g a)::env s)->O i s V->Wp ((al T2 (n+1)).ss sc m b) V λfm V'=>ci A V V'/\(fm.1=.next∨fm.1=.cont)/\Cx A V' fm.2 (env (F s a))/\O (i+1) (F s a) V') (bn:∀m V',Cx A V' m (env (xs.foldl F s))->O xs.length (xs.foldl F s) V'->Wp ((al T2 (n+2)).ss sc m r) V' S):Wp ((al T2 (n+2)).ss sc m (.For (.Name x p) e b [] p'::r)) V S:=
 qS F xs env O s hx hp ji hi hn c h0 (λa i s m V h c o=>step a (List.mem_of_getElem? h) i s m V (List.getElem?_eq_some_iff.mp h).1 c o) bn
noncomputable def om{β:Type}(F:β->β):Nat->β->β
 |0,s=>s
 |k+1,s=>om F k (F s)
theorem qO{β:Type}{T:β->Bool}{F:β->β}{b:List Stmt}(env:β->cW)(O:β->aI->Prop)(P:β->Prop)(j:Nat)(s:β)(hj:j<4000)(hO:∀s V V',aB V V'->O s V->O s V')(hP:P s)(hT:∀s,P s->JB n sc (env s) e (T s))(hF:∀s,P s->T s=true->P (F s))(h1:∀i,i<j->T (om F i s)=true)(h2:T (om F j s)=false) (c:Cx A V m (env s))(o:O s V)(step:∀s m V,P s->T s=true->Cx A V m (env s)->O s V->Wp ((al T2 n).ss sc m b) V λfm V'=>fm.1=.next/\Cx A V' fm.2 (env (F s))/\O (F s) V')(bn:∀m V,Cx A V m (env (om F j s))->O (om F j s) V->Wp ((al T2 (n+1)).ss sc m r) V S)(hn:∃k,n=k+1):Wp ((al T2 (n+1)).ss sc m (.While e b [] p::r)) V S:=by
 refine ao (vp (nV (λi m V=>∃u,om F i u=om F j s/\P u/\(∀k,k<i->T (om F k u)=true)/\T (om F i u)=false/\Cx A V m (env u)/\O u V) ?_ j c7 m V hj ⟨s,rfl,hP,h1,h2,c,o⟩));rintro i m V ⟨u,eu,p,h1,h2,c,o⟩;refine(hT u p A V m c).mono λb V' g=>?_;obtain⟨k,rfl⟩:=g;have c:=c.keep k;have o:=hO _ _ _ k o;obtain⟨k,rfl⟩:=hn;cases i with
 |zero=>refine(if_neg (by rw[show T u=false from h2];exact Bool.false_ne_true)).mpr (ak (ae ?_));have eu:u=_:=eu;exact bn _ _ (eu▸c) (eu▸o)
 |succ i=>have ht:T u=true:=h1 0 (succ_pos _);exact(if_pos ht).mpr ⟨i,rfl,(step u m V' p ht c o).mono λfm V'' h=>⟨h.1,F u,eu,hF u p ht,λk hk=>h1 (k+1) (Nat.succ_lt_succ hk),h2,h.2⟩⟩
theorem l9{a:Addr}{f:Fn}(hc:T2.cls a=none)(hp:T2.prim a=none)(hf:T2.fn a=some f)(hb:f.params.args.map (·.arg)=[x])(h:∀A V m,Cx A V m [(x,ta)]->Wp ((al T2 n).ss f.scope m f.body) V (FL A V t)):m5 (n+1) (.obj a) ta t:=λA V v hA r=>
 eG hc (by rw[hf];rfl) (dF hp hf (by rw[hb];rfl) (h A V _ ((Cx.nil hA).set r)))
theorem pA{a:Addr}{f:Fn}{y:Str}(hc:T2.cls a=none)(hp:T2.prim a=none)(hf:T2.fn a=some f)(hb:f.params.args.map (·.arg)=[x,y])(h:∀A V m,Cx A V m [(y,tb),(x,ta)]->Wp ((al T2 n).ss f.scope m f.body) V (FL A V t)):s8 (n+1) (.obj a) ta tb t:=λA V v w hA r r'=>
 eG hc (by rw[hf];rfl) (dF hp hf (by rw[hb];rfl) (h A V _ (((Cx.nil hA).set r).set r')))
theorem Ac{a:Addr}{f:Fn}{y:Str}(hc:T2.cls a=none)(hp:T2.prim a=none)(hf:T2.fn a=some f)(hb:f.params.args.map (·.arg)=[x,y,z])(h:∀A V m,Cx A V m [(z,tc),(y,tb),(x,ta)]->Wp ((al T2 n).ss f.scope m f.body) V (FL A V t)):Hw (n+1) (.obj a) ta tb tc t:=λA V v w u hA r r' r''=>
 eG hc (by rw[hf];rfl) (dF hp hf (by rw[hb];rfl) (h A V _ ((((Cx.nil hA).set r).set r').set r'')))
theorem FM{a:Addr}{f:Fn}{y w:Str}(hc:T2.cls a=none)(hp:T2.prim a=none)(hf:T2.fn a=some f)(hb:f.params.args.map (·.arg)=[x,y,z,w])(h:∀A V m,Cx A V m [(w,td),(z,tc),(y,tb),(x,ta)]->Wp ((al T2 n).ss f.scope m f.body) V (FL A V t)):Kc (n+1) (.obj a) ta tb tc td t:=λA V v1 v2 v3 v4 hA r r' r'' r3=>
 eG hc (by rw[hf];rfl) (dF hp hf (by rw[hb];rfl) (h A V _ (((((Cx.nil hA).set r).set r').set r'').set r3)))
noncomputable def AC:List Stmt:=[.Assign [.Name "column" (pP 236 12 18)] (.IfExp (.Compare (.Name "sign" (pP 236 35 39)) [.Eq] [.Constant (.str " ") 0 (pP 236 43 46)] (pP 236 35 46)) (.BinOp (.Name "column" (pP 236 21 27)) .Add (.Constant (.int 1) 0 (pP 236 30 31)) (pP 236 21 31)) (.BinOp (.BinOp (.Name "column" (pP 236 52 58)) .Sub (.BinOp (.Name "column" (pP 236 61 67)) .Mod (.Name "size" (pP 236 70 74)) (pP 236 61 74)) (pP 236 52 74)) .Add (.Name "size" (pP 236 77 81)) (pP 236 52 81)) (pP 236 21 81)) (pP 236 12 81)]
noncomputable def yr:List Stmt:=[.Assign [.Name "column" (pP 234 8 14)] (.Constant (.int 0) 0 (pP 234 17 18)) (pP 234 8 18),.For (.Name "sign" (pP 235 12 16)) (.Name "lead" (pP 235 20 24)) AC [] ⟨235,8,236,81⟩,.Expr (.Call (.Attribute (.Name "columns" (pP 237 8 15)) "append" (pP 237 8 22)) [.Name "column" (pP 237 23 29)] [] (pP 237 8 30)) (pP 237 8 30)]
noncomputable def F3:List Stmt:=[.Assign [.Name "columns" (pP 232 4 11)] (.List [] (pP 232 14 16)) (pP 232 4 16),.For (.Name "size" (pP 233 8 12)) (.Call (.Name "range" (pP 233 16 21)) [.Constant (.int 1) 0 (pP 233 22 23),.Constant (.int 6) 0 (pP 233 25 26)] [] (pP 233 16 27)) yr [] ⟨233,4,237,30⟩,.Return (some (.Name "columns" (pP 238 11 18))) (pP 238 4 18)]
noncomputable def Iw:Scope:=⟨.function,[("lead",.local),("columns",.local),("size",.local),("column",.local),("sign",.local),("range",.globalImplicit)],false,false,[]⟩
noncomputable def JE:Fn:=⟨"_law_columns",⟨[],[⟨"lead",none,(pP 231 17 21)⟩],none,[],[],none,[]⟩,F3,Iw⟩
theorem H7:T2.fn 281=some JE:=by kernel_rfl
theorem Co:T2.prim 281=none:=by kernel_rfl
theorem GV:T2.cls 281=none:=by kernel_rfl
noncomputable def Er(l:List Nat)(size:Int):Int:=l.foldl (λc s=>if s=32 then c+1 else c-Int.fmod c size+size) 0
noncomputable def jI(l:List Nat):List Int:=[1,2,3,4,5].foldl (λs a=>s++[Er l a]) []
theorem ite_int{x:Int}:(if b=true then Tr.sc (.int x)else Tr.sc (.int y))=.sc (.int (if b=true then x else y)):=by cases b<;>rfl
theorem D7{l:List Nat}(hl:l.length<4000):m5 (n+20) (.obj 281) (.sc (.str (SL l))) (.lst ((jI l).map .int)):=l9 GV Co H7 rfl λA V m c=>by
 change Cx A V m [("lead",.sc (.str (SL l)))]at c;refine(?_:Wp ((al T2 (n+19)).ss Iw m F3) V _);unfold F3;refine fJ (λ_=>rfl) rfl dr c λm V1 ρ LQ hρ a o c=>?_;refine cB (ti:=.rng 1 6 1) (λ(s:List Int) a=>s++[Er l a]) [1,2,3,4,5] (λ_=>[("columns",.sc (.ref ρ)),("lead",.sc (.str (SL l)))]) (λi s V'=>V'[ρ]?=some (.list (s.map .int))/\aB V V'/\s.length<=i) [] (λ_=>rfl) rfl ?_ (A5 rfl rfl) (by decide) c (λV' k c=>⟨c.sub rfl,k.2 _ _ o,LQ.trans k,le_refl 0⟩) ?_ ?_
 ·exact cn (f:=.typ "range") (λ_ _=>rfl) rfl rfl an an df
 ·rintro a ha i s m V2 hi c ⟨o,k,hs⟩;have hi:i<5:=hi;unfold yr;refine aD (λ_=>rfl) rfl an c λm V3 LN c=>?_;refine cB (ti:=.sc (.str (SL l))) (λ(s:Int) z=>if z=32 then s+1 else s-Int.fmod s a+a) l (λs=>[("column",.sc (.int s)),("size",.sc (.int a)),("columns",.sc (.ref ρ)),("lead",.sc (.str (SL l)))]) (λ_ _ V'=>aB V2 V') 0 (λ_=>rfl) rfl ?_ GH hl c (λV' k c=>⟨c.sub rfl,LN.trans k⟩) ?_ ?_
  ·exact aa rfl rfl
  ·intro z hz _ s m V4 _ c k;unfold AC;refine aD (t:=.sc (.int (if z=32 then s+1 else s-Int.fmod s a+a))) (λ_=>rfl) rfl ?_ c λm V5 LP c=>ak ⟨LP.toA,.inl rfl,c.sub rfl,k.trans LP⟩;apply J.to
   ·refine Jh (a8 rfl (aa rfl rfl) (iQ rfl) dD) (aA (aa rfl rfl) an aN) (aA (aA (aa rfl rfl) (aA (aa rfl rfl) (aa rfl rfl) (du ?_)) cI) (aa rfl rfl) aN);exact decide_eq_true ⟨by have:=(by decide:∀a∈[(1:Int),2,3,4,5],a≠0/\a.natAbs<2^28) a ha;exact this.1,((by decide:∀a∈[(1:Int),2,3,4,5],a≠0/\a.natAbs<2^28) a ha).2⟩
   ·show(if decide ([z]=[32])=true then Tr.sc (.int (s+1))else .sc (.int (s-Int.fmod s a+a)))=_;by_cases h:z=32
    ·rw[if_pos h,if_pos (by rw[h];rfl)]
    ·rw[if_neg h,if_neg (by simpa using h)]
  ·intro m V4 c k₄;refine mK (t:=.sc (.int (Er l a))) rfl rfl rfl rfl (k₄.2 _ _ o) (by rw[length_map];lia) cT rfl ?_ c λV5 v kx o' r c=>?_
   ·exact aa rfl rfl
   ·obtain rfl:v=.int (Er l a):=r;exact ak ⟨k₄.toA.trans (kx.toA cT),.inl rfl,c.sub rfl,by rw[map_append];exact o',kx.keep (k.trans k₄) hρ,by rw[List.length_append,length_singleton];(exact lt_succ_of_le (by assumption))⟩
 ·rintro m V2 c ⟨o,k,_⟩;have c:=c.frz (x:="columns") (t:=.lst ((jI l).map .int)) (λ_=>tp) rfl ⟨ρ,rfl,a,o⟩;refine bI ?_ c λv V3 LN r=>cN (k.trans LN) r;exact aa rfl rfl
noncomputable def z3:List Stmt:=[.Assign [.Name "lead" (pP 218 8 12)] (.BinOp (.Name "lead" (pP 218 15 19)) .Add (.Subscript (.Constant (.str " \t") 0 (pP 218 22 27)) (.BinOp (.Name "number" (pP 218 28 34)) .Mod (.Constant (.int 2) 0 (pP 218 37 38)) (pP 218 28 38)) (pP 218 22 39)) (pP 218 15 39)) (pP 218 8 39),.Assign [.Name "number" (pP 219 8 14)] (.BinOp (.Name "number" (pP 219 17 23)) .FloorDiv (.Constant (.int 2) 0 (pP 219 27 28)) (pP 219 17 28)) (pP 219 8 28)]
noncomputable def vD:Expr:=(.Compare (.Name "number" (pP 217 10 16)) [.Gt] [.Constant (.int 1) 0 (pP 217 19 20)] (pP 217 10 20))
noncomputable def GO:List Stmt:=[.Assign [.Name "lead" (pP 216 4 8)] (.Constant (.str "") 0 (pP 216 11 13)) (pP 216 4 13),.While vD z3 [] ⟨217,4,219,28⟩,.Return (some (.Name "lead" (pP 220 11 15))) (pP 220 4 15)]
noncomputable def IC:Scope:=⟨.function,[("number",.local),("lead",.local)],false,false,[]⟩
noncomputable def Kq:Fn:=⟨"_law_lead",⟨[],[⟨"number",none,(pP 215 14 20)⟩],none,[],[],none,[]⟩,GO,IC⟩
theorem HX:T2.fn 269=some Kq:=by kernel_rfl
theorem EB:T2.prim 269=none:=by kernel_rfl
theorem Gx:T2.cls 269=none:=by kernel_rfl
noncomputable def vn(s:List Nat×Nat):List Nat×Nat:=(s.1++[if s.2%2=0 then 32 else 9],s.2/2)
noncomputable def ee(k:Nat):List Nat:=(om vn k.log2 ([],k)).1
theorem Eh:∀k,k<32->2<=k->(∀i,i<k.log2->decide (1<(om vn i ([],k)).2)=true)/\decide (1<(om vn k.log2 ([],k)).2)=false/\k.log2<5:=by decide+kernel
theorem El(hk:k<32)(h2:2<=k):m5 (n+20) (.obj 269) (.sc (.int k)) (.sc (.str (SL (ee k)))):=l9 Gx EB HX rfl λA V m c=>by
 obtain⟨i1,i2,i3⟩:=Eh k hk h2;change Cx A V m [("number",.sc (.int k))]at c;refine(?_:Wp ((al T2 (n+19)).ss IC m GO) V _);unfold GO;refine aD (t:=.sc (.str (SL []))) (λ_=>rfl) rfl (iQ rfl) c λm V1 LQ c=>?_;refine qO (λs=>[("lead",.sc (.str (SL s.1))),("number",.sc (.int (s.2:Nat)))]) (λ_ V'=>aB V V') (λs=>s.1.length+s.2<40) k.log2 ([],k) (by(exact Nat.le_trans (by assumption) (le_add_left ..))) (λ_ _ _ k h=>h.trans k) (by show 0+k<40;lia) (T:=λs=>decide (1<s.2)) (F:=vn) ?_ ?_ i1 i2 (c.sub rfl) LQ ?_ ?_ ⟨_,rfl⟩
 ·intro s hs;apply JB.to
  ·unfold vD;exact a8 rfl (aa rfl rfl) an gD
  ·exact decide_eq_decide.mpr ⟨λh=>ofNat_lt.mp h,λh=>ofNat_lt.mpr h⟩
 ·intro s hs ht;have:=of_decide_eq_true ht;refine(?_:(s.1++[_]).length+s.2/2<40);rw[List.length_append,length_singleton];lia
 ·intro s m V hs ht c k;unfold z3;refine aD (t:=.sc (.str (SL (s.1++[if s.2%2=0 then 32 else 9])))) (λ_=>rfl) rfl ?_ c λm V2 LO c=>?_
  ·refine aA (aa rfl rfl) (aG rfl (iQ rfl) (aA (aa rfl rfl) an (du ?_)) (bG ?_)) (iS ?_)
   ·exact rfl
   ·refine(?_:(place (Int.fmod s.2 2) 2).bind (λj=>[32,9][j]?)=_);rw[show Int.fmod s.2 2=((s.2%2:Nat):Int)from(ofNat_fmod s.2 2).symm,g8 (Nat.mod_lt _ (by decide))];rcases Nat.mod_two_eq_zero_or_one s.2 with h|h<;>rw[h]<;>rfl
   ·show s.1.length+1<=1000;lia
  refine aD (t:=.sc (.int ((s.2/2:Nat):Int))) (λ_=>rfl) rfl ?_ c λm V3 LN c=>ak ⟨rfl,c.sub rfl,(k.trans LO).trans LN⟩
  ·rw[show((s.2/2:Nat):Int)=Int.fdiv s.2 2 from ofNat_fdiv s.2 2];refine aA (aa rfl rfl) an (eW ?_);exact rfl
 ·intro m V2 c LO;refine bI (t:=.sc (.str (SL (ee k)))) ?_ c λv V3 LN r=>cN (LO.trans LN) r;exact aa rfl rfl
noncomputable def vL:Expr:=(.Subscript (.Name "sizes" (pP 226 16 21)) (.Name "j" (pP 226 22 23)) (pP 226 16 24))
noncomputable def BW:List Expr:=[]
noncomputable def Db:Scope:=⟨.function,[(".0",.local),("j",.local),("sizes",.free)],false,false,[]⟩
noncomputable def u6:Expr:=(.Name "j" (pP 227 26 27))
noncomputable def u8:List Expr:=[.Compare (.Subscript (.Subscript (.Name "leads" (pP 227 48 53)) (.Name "j" (pP 227 54 55)) (pP 227 48 56)) (.Constant (.int 0) 0 (pP 227 57 58)) (pP 227 48 59)) [.Eq] [.Name "first" (pP 227 63 68)] (pP 227 48 68)]
noncomputable def Cp:Scope:=⟨.function,[(".0",.local),("j",.local),("first",.free),("leads",.free)],false,false,[]⟩
noncomputable def vT:Expr:=(.Name "j" (pP 228 25 26))
noncomputable def vV:List Expr:=[.Compare (.Name "j" (pP 228 43 44)) [.Lt] [.Name "cut" (pP 228 47 50)] (pP 228 43 50)]
noncomputable def D4:Scope:=⟨.function,[(".0",.local),("j",.local),("cut",.free)],false,false,[]⟩
noncomputable def uN:Expr:=(.Name "j" (pP 229 19 20))
noncomputable def wi:List Expr:=[.Compare (.Name "j" (pP 229 37 38)) [.GtE] [.Name "cut" (pP 229 42 45)] (pP 229 37 45)]
noncomputable def Ci:Scope:=⟨.function,[(".0",.local),("j",.local),("cut",.free)],false,false,[]⟩
noncomputable def zg:List Stmt:=[.Assign [.Name "row" (pP 225 8 11)] (.BinOp (.Name "row" (pP 225 14 17)) .Add (.List [.Name "k" (pP 225 21 22)] (pP 225 20 23)) (pP 225 14 23)) (pP 225 8 23),.If (.Compare (.Call (.Name "sum" (pP 226 11 14)) [.ListComp vL [{target:=.Name "j" (pP 226 29 30),iter:=.Name "row" (pP 226 34 37),ifs:=BW,is_async:=0}] Db (pP 226 15 38)] [] (pP 226 11 39)) [.Gt] [.Name "width" (pP 226 42 47)] (pP 226 11 47)) [.Assign [.Name "cut" (pP 227 12 15)] (.Subscript (.BinOp (.List [.Name "k" (pP 227 20 21)] (pP 227 19 22)) .Add (.ListComp u6 [{target:=.Name "j" (pP 227 32 33),iter:=.Subscript (.Name "row" (pP 227 37 40)) (.Slice (some (.Constant (.int 1) 0 (pP 227 41 42))) none none (pP 227 41 43)) (pP 227 37 44),ifs:=u8,is_async:=0}] Cp (pP 227 25 69)) (pP 227 19 69)) (.UnaryOp .USub (.Constant (.int 1) 0 (pP 227 72 73)) (pP 227 71 73)) (pP 227 18 74)) (pP 227 12 74),.Expr (.Call (.Attribute (.Name "rows" (pP 228 12 16)) "append" (pP 228 12 23)) [.ListComp vT [{target:=.Name "j" (pP 228 31 32),iter:=.Name "row" (pP 228 36 39),ifs:=vV,is_async:=0}] D4 (pP 228 24 51)] [] (pP 228 12 52)) (pP 228 12 52),.Assign [.Name "row" (pP 229 12 15)] (.ListComp uN [{target:=.Name "j" (pP 229 25 26),iter:=.Name "row" (pP 229 30 33),ifs:=wi,is_async:=0}] Ci (pP 229 18 46)) (pP 229 12 46)] [] ⟨226,8,229,46⟩]
noncomputable def GK:List Stmt:=[.Assign [.Name "rows" (pP 222 4 8)] (.List [] (pP 222 11 13)) (pP 222 4 13),.Assign [.Name "row" (pP 223 4 7)] (.List [.Constant (.int 0) 0 (pP 223 11 12)] (pP 223 10 13)) (pP 223 4 13),.For (.Name "k" (pP 224 8 9)) (.Call (.Name "range" (pP 224 13 18)) [.Constant (.int 1) 0 (pP 224 19 20),.Constant (.int 5) 0 (pP 224 22 23)] [] (pP 224 13 24)) zg [] ⟨224,4,229,46⟩,.Return (some (.BinOp (.Name "rows" (pP 230 11 15)) .Add (.List [.Name "row" (pP 230 19 22)] (pP 230 18 23)) (pP 230 11 23))) (pP 230 4 23)]
noncomputable def HT:Scope:={kind:=.function,names:=[("sizes",.cell),("leads",.cell),("width",.local),("first",.cell),("rows",.local),("row",.local),("k",.local),("cut",.cell),("range",.globalImplicit),("sum",.globalImplicit)],isGenerator:=false,isCoroutine:=false,more:=[("fast",.str "sizes"),("fast",.str "leads"),("fast",.str "width"),("fast",.str "first"),("fast",.str "rows"),("fast",.str "row"),("fast",.str "k"),("fast",.str "j"),("fast",.str "cut")]}
noncomputable def KI:Fn:=⟨"_law_rows",⟨[],[⟨"sizes",none,(pP 221 14 19)⟩,⟨"leads",none,(pP 221 21 26)⟩,⟨"width",none,(pP 221 28 33)⟩,⟨"first",none,(pP 221 35 40)⟩],none,[],[],none,[]⟩,GK,HT⟩
theorem HF:T2.fn 274=some KI:=by kernel_rfl
theorem C6:T2.prim 274=none:=by kernel_rfl
theorem Hq:T2.cls 274=none:=by kernel_rfl
noncomputable def dv(l:List Nat):Nat:=l.getLast?.getD 0
theorem vS{l:List Nat}(h:l≠[]):At (aq l) (-1) (.int (dv l:Nat)):=by have hp:0<l.length:=List.length_pos_iff.mpr h;unfold At;rw[cS,show(-1:Int)= -(((0:Nat):Int)+1)from rfl,jX hp];refine(?_:(aq l)[l.length-1]?=_);rw[de (sub_lt hp Nat.one_pos)];unfold dv;rw[List.getLast?_eq_getElem?,List.getD_eq_getElem?_getD]
theorem rB{l:List Nat}:ES (.lst (aq l)) (some 1) none (.lst (aq (l.drop 1))):=by have:=@Cf (aq l) (some 1) none;rw[show(1:Int)=((1:Nat):Int)from rfl,qd,aq,<-map_drop]at this;exact this
noncomputable def jP(leads:List (List Nat))(f k:Nat)(row:List Nat):Nat:=dv ([k]++((row++[k]).drop 1).filter λj=>decide ([(leads.getD j []).getD 0 0]=[f]))
noncomputable def Eb(sizes:List Nat)(j:Nat):Int:=(sizes.getD j 0:Nat)
noncomputable def mV(sizes:List Nat)(leads:List (List Nat))(w:Int)(f:Nat)(s:List (List Nat)×List Nat)(k:Nat):List (List Nat)×List Nat:=
 if decide (w<((s.2++[k]).map (Eb sizes)).sum)=true then
  (s.1++[(s.2++[k]).filter λ(j:Nat)=>decide ((j:Int)<(jP leads f k s.2:Nat))],(s.2++[k]).filter λ(j:Nat)=>decide (((jP leads f k s.2:Nat):Int)<=j))
 else(s.1,s.2++[k])
noncomputable def mB(sizes:List Nat)(leads:List (List Nat))(w:Int)(f:Nat):List (List Nat)×List Nat:=[1,2,3,4].foldl (mV sizes leads w f) ([],[0])
noncomputable def Al(sizes:List Nat)(leads:List (List Nat))(w:Int)(f ρ:Nat)(row:List Nat):cW:=[("row",.lst (aq row)),("rows",.sc (.ref ρ)),("first",.sc (.str (SL [f]))),("width",.sc (.int w)),("leads",.lst (leads.map λl=>.str (SL l))),("sizes",.lst (aq sizes))]
theorem LH(y:aX ρ V' V'')(x:aB V V')(h:V.length<=ρ):aB V V'':=y.keep x h
structure JM(A:Nat->Prop)(V:aI)(ρ i:Nat)(s:List (List Nat)×List Nat)(V':aI):Prop where
 h:∃ws,V'[ρ]?=some (.list ws)/\bo (λv vs=>bH A V' (.list vs) v) ws (s.1.map aq)
 k:aB V V'
 r:∀j∈s.2,j<5
 t:∀j∈s.2.drop 1,1<=j
 l:s.1.length+s.2.length<=2*i+1
theorem B4{sizes:List Nat}{leads:List (List Nat)}{w:Int}(hs:sizes.length=5/\∀x∈sizes,x<1000)(hl:leads.length=5/\∀j,1<=j->j<5->leads.getD j []≠[]):Kc (n+20) (.obj 274) (.lst (aq sizes)) (.lst (leads.map λl=>.str (SL l))) (.sc (.int w)) (.sc (.str (SL [f]))) (.mat (((mB sizes leads w f).1++[(mB sizes leads w f).2]).map aq)):=FM Hq C6 HF rfl λA V m c=>by
 change Cx A V m [("first",.sc (.str (SL [f]))),("width",.sc (.int w)),("leads",.lst (leads.map λl=>.str (SL l))),("sizes",.lst (aq sizes))]at c;refine(?_:Wp ((al T2 (n+19)).ss HT m GK) V _);unfold GK;refine fJ (λ_=>rfl) rfl dr c λm V1 ρ LQ hρ a o c=>?_;refine aD (t:=.lst (aq [0])) (λ_=>rfl) rfl (JF.j (gu rfl an)) c λm V2 LO c=>?_;refine cB (ti:=.rng 1 5 1) (g:=λ(k:Nat)=>.sc (.int k)) (mV sizes leads w f) [1,2,3,4] (λs=>Al sizes leads w f ρ s.2) (JM (Rm A ρ) V ρ) ([],[0]) (λ_=>rfl) rfl ?_ (A5 (is:=[1,2,3,4]) rfl rfl) (by decide) c (λV' k c=>⟨c.sub rfl,⟨[],k.2 _ _ (LO.2 _ _ o),.nil⟩,(LQ.trans LO).trans k,by decide,by decide,by decide⟩) ?_ ?_
 ·exact cn (f:=.typ "range") (λ_ _=>rfl) rfl rfl an an df
 ·rintro k hk i ⟨rows,row⟩ m V3 hi c ⟨⟨ws,o,r⟩,kk,h1,h2,h3⟩;have hk1:1<=k/\k<5:=(by decide:∀k∈[1,2,3,4],1<=k/\k<5) k hk;have h1':∀j∈row++[k],j<5:=λj h=>by
   rcases mem_append.mp h with h|h
   ·exact h1 j h
   ·rw[mem_singleton.mp h];exact hk1.2
  have h2':∀j∈(row++[k]).drop 1,1<=j:=λj h=>by
   cases row with
   |nil=>cases h
   |cons a row=>
    rcases mem_append.mp (show j∈row++[k]from h)with h|h
    ·exact h2 j h
    ·rw[mem_singleton.mp h];exact hk1.1
  have h3:rows.length+row.length<=2*i+1:=h3;have hi:i<4:=hi;have hlen:(row++[k]).length<200:=by rw[List.length_append,length_singleton];lia
  unfold zg;refine aD (t:=.lst (aq (row++[k]))) (λ_=>rfl) rfl ?_ c λm V4 k₄ c=>?_
  ·apply J.to
   ·refine aA (aa rfl rfl) (lg rfl (aa rfl rfl)) (gN ?_);refine(?_:(aq row).length+1<=1000);rw[cS];lia
   ·exact congrArg Tr.lst (nI row [k])
  have c:=c.sub (l':=("k",.sc (.int k))::Al sizes leads w f ρ (row++[k])) rfl;have hsz:∀j∈row++[k],(Eb sizes j).natAbs<2^40:=λj h=>by
   have:sizes.getD j 0∈sizes:=by rw[List.getD_eq_getElem?_getD,List.getElem?_eq_getElem (by rw[hs.1];exact h1' j h)];exact getElem_mem _
   exact lt_trans (hs.2 _ this) (by decide)
  have hset:∀s:List (List Nat)×List Nat,mV sizes leads w f (rows,row) k=s->mV sizes leads w f (rows,row) k=s:=λ_ h=>h;refine bR (b:=decide (w<((row++[k]).map (Eb sizes)).sum)) ?_ c (λhb V5 LP c=>?_) λhb V5 LP c=>?_
  ·refine a8 rfl (ax (x:="sum") (f:=.blt "sum") (λ_ _=>rfl) rfl (JF.j (bW (xs:=row++[k]) (g:=λ(j:Nat)=>.sc (.int j)) (f:=λj=>.int (Eb sizes j)) (l':=[("sizes",.lst (aq sizes))]) rfl (by kernel_rfl) (aa rfl rfl) cO rfl (by(exact Nat.le_trans (by assumption) (le_add_left ..))) rfl λj hj=>?_)) (kY hsz (by(exact Nat.le_trans (Nat.le_of_lt (by assumption)) (by decide))))) (aa rfl rfl) gD;unfold vL;refine aG rfl (aa rfl rfl) (aa rfl rfl) (aS ?_);exact bg (de (by rw[hs.1];exact h1' j hj))
  ·have e:mV sizes leads w f (rows,row) k=_:=if_pos hb;rw[e];have hcut:jP leads f k row∈(row++[k]).drop 1∨jP leads f k row=k:=by
    unfold jP dv;have hne:[k]++((row++[k]).drop 1).filter (λj=>decide ([(leads.getD j []).getD 0 0]=[f]))≠[]:=λh=>nomatch h;rw[List.getLast?_eq_some_getLast hne];rcases mem_append.mp (List.getLast_mem hne)with h|h
    ·exact .inr (mem_singleton.mp h)
    ·exact .inl (mem_filter.mp h).1
   have hcut1:1<=jP leads f k row:=hcut.elim (h2' _) λh=>by rw[h];exact hk1.1
   refine aD (t:=.sc (.int (jP leads f k row:Nat))) (λ_=>rfl) rfl ?_ c λm V6 LR c=>?_
   ·apply aG
    ·exact rfl
    ·refine aA (JF.j (gu rfl (aa rfl rfl))) (JF.j (gP (xs:=(row++[k]).drop 1) (g:=λ(j:Nat)=>.sc (.int j)) (q:=λj=>decide ([(leads.getD j []).getD 0 0]=[f])) (f:=λj=>.int (j:Nat)) (l':=[("first",.sc (.str (SL [f]))),("leads",.lst (leads.map λl=>.str (SL l)))]) rfl (by kernel_rfl) (xQ (aa rfl rfl) an rB) cO rfl (by rw[length_drop];(exact lt_of_le_of_lt (sub_le ..) (lt_trans (by assumption) (by decide)))) rfl (λj hj=>?_) λj hj _=>?_)) (gN ?_)
     ·have hj5:=h1' j (mem_of_mem_drop hj);have hne:=hl.2 j (h2' j hj) hj5;unfold u8;refine mP (a8 rfl ?_ ?_ dD)
      ·refine aG rfl (aG rfl (aa rfl rfl) (aa rfl rfl) (aS (v:=.str (SL (leads[j]'(by rw[hl.1];exact hj5)))) ?_)) an (bG ?_)
       ·exact bg (by rw[List.getElem?_map,List.getElem?_eq_getElem (by rw[hl.1];exact hj5)];rfl)
       ·have e:leads[j]'(by rw[hl.1];exact hj5)=leads.getD j []:=by rw[List.getD_eq_getElem?_getD,List.getElem?_eq_getElem (by rw[hl.1];exact hj5)];rfl
        rw[e];cases h:leads.getD j []with
        |nil=>exact absurd h hne
        |cons x y=>exact bg (k:=0) rfl
      ·exact aa rfl rfl
     ·unfold u6;exact aa rfl rfl
     ·refine(?_:1+_<=1000);rw[length_map];have:=List.length_filter_le (λj=>decide ([(leads.getD j []).getD 0 0]=[f])) ((row++[k]).drop 1);rw[length_drop]at this;omega
    ·exact qR an
    ·have:=vS (l:=[k]++((row++[k]).drop 1).filter λj=>decide ([(leads.getD j []).getD 0 0]=[f])) (λh=>nomatch h);exact aS this
   refine mK (t:=.lst (aq ((row++[k]).filter λ(j:Nat)=>decide ((j:Int)<(jP leads f k row:Nat))))) rfl rfl rfl rfl (LR.2 _ _ (LP.2 _ _ (k₄.2 _ _ o))) (by rw[r.length,length_map];lia) cT rfl ?_ c λV7 v LU o' r' c=>?_
   ·refine JF.j (gP (xs:=row++[k]) (g:=λ(j:Nat)=>.sc (.int j)) (f:=λj=>.int (j:Nat)) (l':=[("cut",.sc (.int (jP leads f k row:Nat)))]) rfl (by kernel_rfl) (aa rfl rfl) cO rfl (by lia) rfl (λj hj=>?_) λj hj _=>?_)
    ·unfold vV;exact mP (a8 rfl (aa rfl rfl) (aa rfl rfl) uc)
    ·unfold vT;exact aa rfl rfl
   refine pU (t:=.lst (aq ((row++[k]).filter λ(j:Nat)=>decide (((jP leads f k row:Nat):Int)<=j)))) (λ_=>rfl) ?_ c λm V8 k₈ c=>?_
   ·refine JF.j (gP (xs:=row++[k]) (g:=λ(j:Nat)=>.sc (.int j)) (f:=λj=>.int (j:Nat)) (l':=[("cut",.sc (.int (jP leads f k row:Nat)))]) rfl (by kernel_rfl) (aa rfl rfl) cO rfl (by lia) rfl (λj hj=>?_) λj hj _=>?_)
    ·unfold wi;exact mP (a8 rfl (aa rfl rfl) (aa rfl rfl) mq)
    ·unfold uN;exact aa rfl rfl
   have kx:=(LU.toA (A:=Rm A ρ) cT).trans k₈.toA;refine ak (ae (ak ⟨(k₄.trans (LP.trans LR)).toA.trans kx,.inl rfl,c.sub rfl,⟨_,k₈.2 _ _ o',?_⟩,(LH LU (kk.trans (k₄.trans (LP.trans LR))) hρ).trans k₈,λj h=>h1' j (mem_filter.mp h).1,λj h=>Nat.le_trans hcut1 ?_,?_⟩))
   ·refine(?_:bo _ _ ((rows++[_]).map aq));rw[map_append];exact((r.mono λ_ _ h=>h.keep ((k₄.trans (LP.trans LR)).toA.trans (LU.toA cT))).append (.one r')).mono λ_ _ h=>bH.keep h k₈.toA
   ·exact ofNat_le.mp (of_decide_eq_true (mem_filter.mp (mem_of_mem_drop h)).2)
   ·refine(?_:(rows++[_]).length+((row++[k]).filter _).length<=2*(i+1)+1);refine Nat.le_trans (Nat.add_le_add_left (List.length_filter_le ..) _) ?_;rw[List.length_append,List.length_append,length_singleton,length_singleton];lia
  ·have e:mV sizes leads w f (rows,row) k=_:=if_neg (by rw[hb];exact Bool.false_ne_true);rw[e];exact ak (ae (ak ⟨k₄.toA.trans LP.toA,.inl rfl,c.sub rfl,⟨ws,LP.2 _ _ (k₄.2 _ _ o),r.mono λ_ _ h=>h.keep (k₄.trans LP).toA⟩,(kk.trans k₄).trans LP,h1',h2',by show rows.length+(row++[k]).length<=_;rw[List.length_append,length_singleton];lia⟩))
 ·rintro m V3 c ⟨⟨ws,o,r⟩,kk,h1,h2,h3⟩;have c:=c.frz (x:="rows") (t:=.mat ((mB sizes leads w f).1.map aq)) (λ_=>tp) rfl ⟨ws,⟨ρ,rfl,a,o⟩,r.mono λ_ _ h=>h.on λ_ _ h=>h.1⟩;refine bI ?_ c λv V3 LN r=>cN (kk.trans LN) r;apply J.to
  ·refine aA (aa rfl rfl) (Eg rfl (aa rfl rfl)) (AO ?_);rw[length_map];refine(?_:(mB sizes leads w f).1.length+1<=1000);have:(mB sizes leads w f).1.length+_<=2*4+1:=h3;lia
  ·exact congrArg Tr.mat (by rw[map_append];rfl)
noncomputable def uG:Expr:=(.Name "t" (pP 244 51 52))
noncomputable def vE:List Expr:=[.Compare (.Subscript (.Subscript (.Name "seen" (pP 244 74 78)) (.Name "j" (pP 244 79 80)) (pP 244 74 81)) (.Name "t" (pP 244 82 83)) (pP 244 74 84)) [.GtE] [.Subscript (.Subscript (.Name "seen" (pP 244 88 92)) (.Name "m" (pP 244 93 94)) (pP 244 88 95)) (.Name "t" (pP 244 96 97)) (pP 244 88 98)] (pP 244 74 98)]
noncomputable def C2:Scope:=⟨.function,[(".0",.local),("t",.local),("j",.free),("m",.free),("seen",.free)],false,false,[]⟩
noncomputable def vI:Expr:=(.Name "m" (pP 244 16 17))
noncomputable def vv:List Expr:=[.Compare (.ListComp uG [{target:=.Name "t" (pP 244 57 58),iter:=.Call (.Name "range" (pP 244 62 67)) [.Constant (.int 5) 0 (pP 244 68 69)] [] (pP 244 62 70),ifs:=vE,is_async:=0}] C2 (pP 244 50 99)) [.NotEq] [.List [] (pP 244 103 105)] (pP 244 50 105)]
noncomputable def Eu:Scope:=⟨.function,[(".0",.local),("m",.cell),("range",.globalImplicit),("j",.free),("seen",.free)],false,false,[]⟩
noncomputable def yK:List Stmt:=[.If (.Compare (.ListComp vI [{target:=.Name "m" (pP 244 22 23),iter:=.Call (.Name "range" (pP 244 27 32)) [.BinOp (.Name "j" (pP 244 33 34)) .Add (.Constant (.int 1) 0 (pP 244 37 38)) (pP 244 33 38),.BinOp (.Name "k" (pP 244 40 41)) .Add (.Constant (.int 1) 0 (pP 244 44 45)) (pP 244 40 45)] [] (pP 244 27 46),ifs:=vv,is_async:=0}] Eu (pP 244 15 106)) [.Eq] [.List [] (pP 244 110 112)] (pP 244 15 112)) [.Expr (.Call (.Attribute (.Name "above" (pP 245 16 21)) "append" (pP 245 16 28)) [.Name "j" (pP 245 29 30)] [] (pP 245 16 31)) (pP 245 16 31)] [] ⟨244,12,245,31⟩]
noncomputable def AD:List Stmt:=[.Assign [.Name "above" (pP 242 8 13)] (.List [] (pP 242 16 18)) (pP 242 8 18),.For (.Name "j" (pP 243 12 13)) (.Call (.Name "range" (pP 243 17 22)) [.Name "k" (pP 243 23 24)] [] (pP 243 17 25)) yK [] ⟨243,8,245,31⟩,.Expr (.Call (.Attribute (.Name "hangs" (pP 246 8 13)) "append" (pP 246 8 20)) [.Subscript (.Name "above" (pP 246 21 26)) (.UnaryOp .USub (.Constant (.int 1) 0 (pP 246 28 29)) (pP 246 27 29)) (pP 246 21 30)] [] (pP 246 8 31)) (pP 246 8 31)]
noncomputable def Gc:List Stmt:=[.Assign [.Name "hangs" (pP 240 4 9)] (.List [.UnaryOp .USub (.Constant (.int 1) 0 (pP 240 14 15)) (pP 240 13 15)] (pP 240 12 16)) (pP 240 4 16),.For (.Name "k" (pP 241 8 9)) (.Call (.Name "range" (pP 241 13 18)) [.Constant (.int 1) 0 (pP 241 19 20),.Call (.Name "len" (pP 241 22 25)) [.Name "seen" (pP 241 26 30)] [] (pP 241 22 31)] [] (pP 241 13 32)) AD [] ⟨241,4,246,31⟩,.Return (some (.Name "hangs" (pP 247 11 16))) (pP 247 4 16)]
noncomputable def H5:Scope:={kind:=.function,names:=[("seen",.cell),("hangs",.local),("k",.local),("above",.local),("j",.cell),("range",.globalImplicit),("len",.globalImplicit)],isGenerator:=false,isCoroutine:=false,more:=[("fast",.str "seen"),("fast",.str "hangs"),("fast",.str "k"),("fast",.str "above"),("fast",.str "j"),("fast",.str "m"),("fast",.str "t")]}
noncomputable def J2:Fn:=⟨"_law_hangs",⟨[],[⟨"seen",none,(pP 239 15 19)⟩],none,[],[],none,[]⟩,Gc,H5⟩
theorem HE:T2.fn 286=some J2:=by kernel_rfl
theorem C4:T2.prim 286=none:=by kernel_rfl
theorem Gs:T2.cls 286=none:=by kernel_rfl
noncomputable def bV(xss:List (List Int)):List (List PV):=xss.map λxs=>xs.map .int
noncomputable def gy(xss:List (List Int))(j t:Nat):Int:=(xss.getD j []).getD t 0
noncomputable def H6(xss:List (List Int))(j m:Nat):List Nat:=(List.range' 0 5).filter λt=>decide (gy xss m t<=gy xss j t)
noncomputable def BG(xss:List (List Int))(j k:Nat):List Nat:=(List.range' (j+1) (k+1-(j+1))).filter λm=>!(aq (H6 xss j m)).isEmpty
noncomputable def nc(xss:List (List Int))(k:Nat):List Nat:=(List.range' 0 (k-0)).foldl (λs j=>if(aq (BG xss j k)).isEmpty=true then s++[j]else s) []
noncomputable def qN(xss:List (List Int))(s:List Int)(k:Nat):List Int:=s++[((dv (nc xss k):Nat):Int)]
noncomputable def gz(xss:List (List Int)):List Int:=(List.range' 1 (xss.length-1)).foldl (qN xss) [-1]
def Jq(xss:List (List Int)):Prop:=∀j,j<xss.length->∃xs:List Int,xss[j]?=some xs/\xs.length=5
theorem yy(h:Jq xss){j:Nat}(hj:j<xss.length):At (bV xss) (j:Nat) ((xss.getD j []).map .int):=by obtain⟨xs,e,_⟩:=h j hj;exact bg (by unfold bV;rw[List.getElem?_map,List.getD_eq_getElem?_getD,e];rfl)
theorem Bl(h:Jq xss){j t:Nat}(hj:j<xss.length)(ht:t<5):At ((xss.getD j []).map PV.int) (t:Nat) (.int (gy xss j t)):=by obtain⟨xs,e,h5⟩:=h j hj;refine bg ?_;unfold gy;rw[List.getD_eq_getElem?_getD,e];refine(?_:(xs.map PV.int)[t]?=some (.int (xs.getD t 0)));rw[List.getElem?_map,List.getD_eq_getElem?_getD,List.getElem?_eq_getElem (h5▸ht)];rfl
theorem cj{j:Nat}(h:j∈List.range' a n):a<=j/\j<a+n:=by obtain⟨i,hi,rfl⟩:=List.mem_range'.mp h;exact⟨le_add_right ..,Nat.add_lt_add_left (by rw[one_mul];exact hi) _⟩
noncomputable abbrev bu(k:Nat):Tr:=.sc (.int k)
theorem gZ{b j:Nat}(h:j∈List.range' a (b-a)):a<=j/\j<b:=by have:=cj h;lia
theorem iV{b:Nat}(h:b<k):(List.range' a (b-a)).length<k:=by rw[length_range'];exact lt_of_le_of_lt (sub_le ..) h
theorem BA(h5:Jq xss)(hl:xss.length<1000)(ha:∀k,1<=k->k<xss.length->nc xss k≠[]):m5 (n+20) (.obj 286) (.mat (bV xss)) (.lst ((gz xss).map .int)):=l9 Gs C4 HE rfl λA V m c=>by
 change Cx A V m [("seen",.mat (bV xss))]at c;refine(?_:Wp ((al T2 (n+19)).ss H5 m Gc) V _);unfold Gc;refine fJ (vs:=[.int (-1)]) (λ_=>rfl) rfl (gu rfl (qR an)) c λm V1 ρ LQ hρ a o c=>?_;refine cB (ti:=.rng 1 xss.length 1) (g:=bu) (qN xss) (List.range' 1 (xss.length-1)) (λ_=>[("hangs",.sc (.ref ρ)),("seen",.mat (bV xss))]) (λi s V'=>V'[ρ]?=some (.list (s.map .int))/\aB V V'/\s.length<=i+1) [-1] (λ_=>rfl) rfl ?_ (bE rfl rfl (by decide) (lt_trans hl (by decide))) (iV (lt_trans hl (by decide))) c (λV' k c=>⟨c.sub rfl,k.2 _ _ o,LQ.trans k,le_refl 1⟩) ?_ ?_
 ·apply J.to
  ·exact cn (f:=.typ "range") (λ_ _=>rfl) rfl rfl an (ax (f:=.blt "len") (λ_ _=>rfl) rfl (aa rfl rfl) DV) df
  ·unfold bV;rw[length_map]
 ·rintro k hk i s m V2 hi c ⟨o,kk,hs⟩;rw[length_range']at hi;have hi:i<xss.length:=lt_of_lt_of_le hi (sub_le ..);have hk:=gZ hk;have hk4:=lt_trans hk.2 hl;unfold AD;refine fJ (vs:=[]) (λ_=>rfl) rfl dr c λm V3 τ LN hτ aτ oτ c=>?_;refine cB (ti:=.rng 0 k 1) (g:=bu) (λs j=>if(aq (BG xss j k)).isEmpty=true then s++[j]else s) (List.range' 0 (k-0)) (λ_=>[("above",.sc (.ref τ)),("k",bu k),("hangs",.sc (.ref ρ)),("seen",.mat (bV xss))]) (λi s V'=>V'[τ]?=some (.list (aq s))/\aB V2 V'/\s.length<=i) [] (λ_=>rfl) rfl ?_ (bE rfl rfl (by decide) (lt_trans hk4 (by decide))) (iV (lt_trans hk4 (by decide))) c (λV' k' c=>⟨c.sub rfl,k'.2 _ _ oτ,LN.trans k',le_refl 0⟩) ?_ ?_
  ·exact ax (f:=.typ "range") (λ_ _=>rfl) rfl (aa rfl rfl) bA
  ·rintro j hj i' s' m V4 hi' c ⟨oτ,kk',hs'⟩;rw[length_range']at hi';have hi':i'<k:=hi';have hj:=gZ hj;unfold yK;refine bR (b:=(aq (BG xss j k)).isEmpty) ?_ c (λhb V5 LP c=>?_) λhb V5 LP c=>?_
   ·refine FK (JF.j (gP (ti:=.rng ((j:Int)+1) ((k:Int)+1) 1) (xs:=List.range' (j+1) (k+1-(j+1))) (g:=bu) (q:=λm=>!(aq (H6 xss j m)).isEmpty) (f:=λ(m:Nat)=>.int m) (l':=[("j",bu j),("seen",.mat (bV xss))]) rfl (by kernel_rfl) ?_ (bE (a:=j+1) (b:=k+1) rfl rfl (lt_of_le_of_lt hj.2 (lt_trans hk4 (by decide))) (lt_trans (Nat.succ_lt_succ hk4) (by decide))) rfl (iV (lt_trans (Nat.succ_lt_succ hk4) (by decide))) rfl (λm' hm=>?_) λm' hm _=>?_))
    ·exact cn (f:=.typ "range") (λ_ _=>rfl) rfl rfl (aA (aa rfl rfl) an aN) (aA (aa rfl rfl) an aN) df
    ·have hm:=lt_of_le_of_lt (le_of_lt_succ (gZ hm).2) hk.2;have hj:=lt_trans hj.2 hk.2;unfold vv;refine mP (Hn (JF.j (gP (ti:=.rng 0 5 1) (xs:=List.range' 0 5) (g:=bu) (q:=λt=>decide (gy xss m' t<=gy xss j t)) (f:=λ(t:Nat)=>.int t) (l':=[("m",bu m'),("j",bu j),("seen",.mat (bV xss))]) rfl (by kernel_rfl) ?_ (bE (a:=0) (b:=5) rfl rfl (by decide) (by decide)) rfl (by decide) rfl (λt ht=>?_) λt ht _=>?_)))
     ·exact ax (f:=.typ "range") (λ_ _=>rfl) rfl an bA
     ·have ht:=cj ht;unfold vE;refine mP (a8 rfl (aG rfl (aG rfl (aa rfl rfl) (aa rfl rfl) (k9 (yy h5 hj))) (aa rfl rfl) (aS (Bl h5 hj ht.2))) (aG rfl (aG rfl (aa rfl rfl) (aa rfl rfl) (k9 (yy h5 hm))) (aa rfl rfl) (aS (Bl h5 hm ht.2))) mq)
     ·unfold uG;exact aa rfl rfl
    ·unfold vI;exact aa rfl rfl
   ·rw[if_pos hb];refine mK (t:=bu j) rfl rfl rfl rfl (LP.2 _ _ oτ) (by rw[cS];exact lt_of_le_of_lt hs' (lt_trans hi' hk4)) cT rfl (aa rfl rfl) c λV6 v LR o' r c=>ak (ae (ak ⟨LP.toA.trans (LR.toA cT),.inl rfl,c.sub rfl,?_,LR.keep (kk'.trans LP) hτ,?_⟩))
    ·obtain rfl:v=.int j:=r;rw[o',aq,aq,map_append];rfl
    ·rw[List.length_append];exact Nat.add_le_add_right hs' 1
   ·rw[if_neg (by rw[hb];exact Bool.false_ne_true)];exact ak (ae (ak ⟨LP.toA,.inl rfl,c.sub rfl,LP.2 _ _ oτ,kk'.trans LP,le_succ_of_le hs'⟩))
  ·rintro m V4 c ⟨oτ,kk',_⟩;have c:=c.frz (x:="above") (t:=.lst (aq (nc xss k))) (λ_=>tp) rfl ⟨τ,rfl,aτ,oτ⟩;refine mK (t:=bu (dv (nc xss k))) rfl rfl rfl rfl (kk'.2 _ _ o) (by rw[length_map];exact lt_of_le_of_lt (Nat.le_trans hs hi) hl) cT rfl (aG rfl (aa rfl rfl) (qR an) (aS (vS (ha k hk.1 hk.2)))) c λV5 v LP o' r c=>ak ⟨kk'.toA.trans (LP.toA cT),.inl rfl,c.sub rfl,?_,LP.keep (kk.trans kk') hρ,?_⟩
   ·obtain rfl:v=.int (dv (nc xss k)):=r;rw[o',qN,map_append];rfl
   ·rw[qN,List.length_append];exact Nat.add_le_add_right hs 1
 ·rintro m V2 c ⟨o,kk,_⟩;exact bI (t:=.lst ((gz xss).map .int)) (aa rfl rfl) (c.frz (x:="hangs") (t:=.lst ((gz xss).map .int)) (λ_=>tp) rfl ⟨ρ,rfl,a,o⟩) λv V3 LN r=>cN (kk.trans LN) r
def bT(rs:List Nat)(V V':aI):Prop:=V.length<=V'.length/\∀j o,j∉rs->V[j]?=some o->V'[j]?=some o
section
variable {r:Nat}
theorem bT.trans(x:bT rs V V')(y:bT rs V' V''):bT rs V V'':=⟨Nat.le_trans x.1 y.1,λj o h e=>y.2 j o h (x.2 j o h e)⟩
theorem aB.toR(x:aB V V'):bT rs V V':=⟨x.1,λj o _ e=>x.2 j o e⟩
theorem bT.toA(x:bT rs V V')(h:∀r∈rs,¬A r):ci A V V':=⟨x.1,λi o a e=>x.2 i o (λq=>h i q a) e⟩
theorem bT.keep(y:bT rs V' V'')(x:aB V V')(h:∀r∈rs,V.length<=r):aB V V'':=⟨Nat.le_trans x.1 y.1,λj o e=>y.2 j o (λq=>not_lt.mpr (h j q) (bN e)) (x.2 j o e)⟩
theorem bT.set(o:PO)(h:r∈rs):bT rs V (V.set r o):=⟨by rw[length_set];exact le_refl _,λj o' h' e=>eQ e λq=>h' (q▸h)⟩
theorem Cn(o:PO)(hr:r∉rs)(h:bo (λr vs=>V[r]?=some (.list vs)) rs vss):bo (λr' vs=>(V.set r o)[r']?=some (.list vs)) rs vss:=by
 induction h with
 |nil=>exact .nil
 |cons x _ ih=>exact .cons (eQ x λq=>hr (q▸.head _)) (ih λq=>hr (.tail _ q))
theorem D1(h:bo (λr vs=>V[r]?=some (.list vs)) rs vss)(d:rs.Nodup)(e:rs[i]?=some r):bo (λr' ws=>(V.set r (.list vs))[r']?=some (.list ws)) rs (vss.set i vs):=by
 induction h generalizing i with
 |nil=>exact nomatch e
 |cons x t ih=>
  have d:=nodup_cons.mp d;cases i with
  |zero=>obtain rfl:=Option.some.inj e;exact .cons (cg x) (Cn _ d.1 t)
  |succ i=>exact .cons (eQ x λq=>d.1 (q▸List.mem_of_getElem? e)) (ih d.2 e)
theorem dm.keep(h:dm V ρ rs vss)(k:aB V V'):dm V' ρ rs vss:=⟨k.2 _ _ h.e,h.r.mono λ_ _ e=>k.2 _ _ e,h.d⟩
theorem dm.get(h:dm V ρ rs vss)(e:vss[i]?=some vs):∃r,rs[i]?=some r/\V[r]?=some (.list vs)/\r∈rs:=let⟨r,a,b⟩:=h.r.get e;⟨r,a,b,List.mem_of_getElem? a⟩
theorem dm.set(h:dm V ρ rs vss)(e:rs[i]?=some r)(ws:List PV):dm (V.set r (.list ws)) ρ rs (vss.set i ws):=
 ⟨eQ h.e λq=>(nodup_cons.mp h.d).1 (q▸List.mem_of_getElem? e),D1 h.r (nodup_cons.mp h.d).2 e,h.d⟩
end
section
variable {j:Nat}{u v w:Int}
theorem oN(hk:bq sc x=true)(hl:l.lookup x=some (.sc (.ref ρ)))(hs:sliceOf e1=none)(O:dm V ρ rs vss)(ji:J (n+1) sc l e1 (.sc (.int i)))(hi:vss[i]?=some vs)(c:Cx A V m l) (k:∀r V',rs[i]?=some r->r∈rs->aB V V'->dm V' ρ rs vss->Cx A V' m l->V'[r]?=some (.list vs)->Q (.ref r) V'):Wp ((al T2 (n+2)).e sc m (.Subscript (.Name x p) e1 q)) V Q:=by refine oq hs ((aa (n:=n) (p:=p) hk hl A V m c).mono λv V1 g=>?_);obtain⟨k1,rfl⟩:=g;refine(ji A V1 m (c.keep k1)).mono λv V2 g=>?_;obtain⟨k2,rfl⟩:=g;have O:=O.keep (k1.trans k2);obtain⟨r,a,b,h⟩:=O.get hi;exact fB rfl (Wp.getO O.e (oQ (bg (by rw[List.getElem?_map,a];rfl)) (k r V2 a h (k1.trans k2) O (c.keep (k1.trans k2)) b)))
def Fw(op:Operator)(u v w:Int):Prop:=∀V,Ap op (.int u) (.int v) V=some (.int w,V)
theorem DR(hk:bq sc x=true)(hl:l.lookup x=some (.sc (.ref ρ)))(hs:sliceOf e1=none)(hs2:dj e2=false)(O:dm V ρ rs vss)(ji:J (n+1) sc l e1 (.sc (.int i)))(hi:vss[i]?=some vs)(jj:J (n+2) sc l e2 (.sc (.int j)))(hj:vs[j]?=some (.int u))(jv:J (n+2) sc l e3 (.sc (.int v))) (ho:Fw op u v w)(c:Cx A V m l)(hA:∀r∈rs,¬A r)(k:∀V',bT rs V V'->dm V' ρ rs (vss.set i (vs.set j (.int w)))->Cx A V' m l->Wp ((al T2 (n+3)).ss sc m r) V' S):Wp ((al T2 (n+3)).ss sc m (.AugAssign (.Subscript (.Subscript (.Name x p) e1 q) e2 q') op e3 p'::r)) V S:=by
 refine ao (show Wp (BJ T2 (al T2 (n+2)) sc m (.Subscript (.Name x p) e1 q) e2 op e3) V _ from ?_);refine Wp.must (by rw[hs2];rfl) (Wp.bd (oN hk hl hs O ji hi c λb V1 hb hm k1 O c hr=>jj.bd c λv2 V2 k2 c r2=>?_));obtain rfl:v2=.int j:=r2;refine Wp.bd (fB (T:=T2) rfl (Wp.getO (k2.2 _ _ hr) (oQ (bg hj) (jv.bd c λv3 V3 k3 c r3=>?_))));obtain rfl:v3=.int v:=r3;have O:=(O.keep k2).keep k3;refine Wp.bd (.eq (ho V3) (Wp.bd (fP (k3.2 _ _ (k2.2 _ _ hr)) (List.getElem?_eq_some_iff.mp hj).1 (.ok (ae (k _ ?_ (O.set hb _) ?_))))))
 ·exact((k1.trans k2).trans k3).toR.trans (.set _ hm)
 ·exact c.keepA ((bT.set (rs:=rs) _ hm).toA hA)
theorem uU(hk:bq sc x=true)(hl:l.lookup x=some (.sc (.ref ρ)))(hs:sliceOf e1=none)(hs2:dj e2=false)(hc:ce e3=false)(O:dm V ρ rs vss)(ji:J (n+1) sc l e1 (.sc (.int i)))(hi:vss[i]?=some vs)(jj:J (n+2) sc l e2 (.sc (.int j)))(hj:j<vs.length) (jv:Wp ((al T2 (n+2)).e sc m e3) V (G A V (.sc (.int v))))(c:Cx A V m l)(hA:∀r∈rs,¬A r)(k:∀V',bT rs V V'->dm V' ρ rs (vss.set i (vs.set j (.int v)))->Cx A V' m l->Wp ((al T2 (n+3)).ss sc m r) V' S):Wp ((al T2 (n+3)).ss sc m (.Assign [.Subscript (.Subscript (.Name x p) e1 q) e2 q'] e3 p'::r)) V S:=by refine ao (iU hs2 hc (jv.mono λv3 V1 g=>?_));obtain⟨k1,rfl⟩:=g;refine oN hk hl hs (O.keep k1) ji hi (c.keep k1) λb V2 hb hm k2 O c hr=>(jj A V2 m c).mono λv2 V3 g=>?_;obtain⟨k3,rfl⟩:=g;refine fP (k3.2 _ _ hr) hj (ae (k _ ?_ ((O.keep k3).set hb _) ((c.keep k3).keepA ((bT.set (rs:=rs) _ hm).toA hA))));exact((k1.trans k2).trans k3).toR.trans (.set _ hm)
end
noncomputable def vR:Expr:=(.BinOp (.BinOp (.Constant (.int 2) 0 (pP 271 13 14)) .Sub (.Call (.Attribute (.Name "hangs" (pP 271 17 22)) "count" (pP 271 17 28)) [.Name "u" (pP 271 29 30)] [] (pP 271 17 31)) (pP 271 13 31)) .Sub (.Call (.Name "min" (pP 271 34 37)) [.Name "u" (pP 271 38 39),.Constant (.int 1) 0 (pP 271 41 42)] [] (pP 271 34 43)) (pP 271 13 43))
noncomputable def Dl:List Expr:=[]
noncomputable def CY:Scope:=⟨.function,[(".0",.local),("u",.local),("min",.globalImplicit),("hangs",.free)],false,false,[]⟩
noncomputable def wz:Expr:=(.BinOp (.BinOp (.Constant (.int 2) 0 (pP 272 15 16)) .Mult (.Subscript (.Name "lacks" (pP 272 19 24)) (.Name "u" (pP 272 25 26)) (pP 272 19 27)) (pP 272 15 27)) .Mult (.Subscript (.Name "lacks" (pP 272 30 35)) (.Name "v" (pP 272 36 37)) (pP 272 30 38)) (pP 272 15 38))
noncomputable def CZ:List Expr:=[]
noncomputable def DT:Scope:=⟨.function,[(".0",.local),("v",.local),("lacks",.free),("u",.free)],false,false,[]⟩
noncomputable def wc:Expr:=(.ListComp wz [{target:=.Name "v" (pP 272 43 44),iter:=.Call (.Name "range" (pP 272 48 53)) [.Name "n" (pP 272 54 55)] [] (pP 272 48 56),ifs:=CZ,is_async:=0}] DT (pP 272 14 57))
noncomputable def DY:List Expr:=[]
noncomputable def DC:Scope:=⟨.function,[(".0",.local),("u",.cell),("range",.globalImplicit),("lacks",.free),("n",.free)],false,false,[]⟩
noncomputable def y5:List Stmt:=[.Assign [.Name "j" (pP 274 8 9)] (.Subscript (.Name "hangs" (pP 274 12 17)) (.Name "k" (pP 274 18 19)) (pP 274 12 20)) (pP 274 8 20),.Assign [.Name "share" (pP 275 8 13)] (.BinOp (.BinOp (.Constant (.int 2) 0 (pP 275 16 17)) .Mult (.Name "whole" (pP 275 20 25)) (pP 275 16 25)) .FloorDiv (.Subscript (.Name "weights" (pP 275 29 36)) (.Name "k" (pP 275 37 38)) (pP 275 29 39)) (pP 275 16 39)) (pP 275 8 39),.AugAssign (.Subscript (.Subscript (.Name "turned" (pP 276 8 14)) (.Name "k" (pP 276 15 16)) (pP 276 8 17)) (.Name "j" (pP 276 18 19)) (pP 276 8 20)) .Add (.Name "share" (pP 276 24 29)) (pP 276 8 29),.AugAssign (.Subscript (.Subscript (.Name "turned" (pP 277 8 14)) (.Name "j" (pP 277 15 16)) (pP 277 8 17)) (.Name "k" (pP 277 18 19)) (pP 277 8 20)) .Add (.Name "share" (pP 277 24 29)) (pP 277 8 29),.AugAssign (.Subscript (.Subscript (.Name "turned" (pP 278 8 14)) (.Name "k" (pP 278 15 16)) (pP 278 8 17)) (.Name "k" (pP 278 18 19)) (pP 278 8 20)) .Sub (.Name "share" (pP 278 24 29)) (pP 278 8 29),.AugAssign (.Subscript (.Subscript (.Name "turned" (pP 279 8 14)) (.Name "j" (pP 279 15 16)) (pP 279 8 17)) (.Name "j" (pP 279 18 19)) (pP 279 8 20)) .Sub (.Name "share" (pP 279 24 29)) (pP 279 8 29)]
noncomputable def FH:List Stmt:=[.Assign [.Name "n" (pP 270 4 5)] (.Call (.Name "len" (pP 270 8 11)) [.Name "hangs" (pP 270 12 17)] [] (pP 270 8 18)) (pP 270 4 18),.Assign [.Name "lacks" (pP 271 4 9)] (.ListComp vR [{target:=.Name "u" (pP 271 48 49),iter:=.Call (.Name "range" (pP 271 53 58)) [.Name "n" (pP 271 59 60)] [] (pP 271 53 61),ifs:=Dl,is_async:=0}] CY (pP 271 12 62)) (pP 271 4 62),.Assign [.Name "turned" (pP 272 4 10)] (.ListComp wc [{target:=.Name "u" (pP 272 62 63),iter:=.Call (.Name "range" (pP 272 67 72)) [.Name "n" (pP 272 73 74)] [] (pP 272 67 75),ifs:=DY,is_async:=0}] DC (pP 272 13 76)) (pP 272 4 76),.For (.Name "k" (pP 273 8 9)) (.Call (.Name "range" (pP 273 13 18)) [.Constant (.int 1) 0 (pP 273 19 20),.Name "n" (pP 273 22 23)] [] (pP 273 13 24)) y5 [] ⟨273,4,279,29⟩,.Return (some (.Name "turned" (pP 280 11 17))) (pP 280 4 17)]
noncomputable def I3:Scope:={kind:=.function,names:=[("hangs",.cell),("weights",.local),("whole",.local),("n",.cell),("lacks",.cell),("turned",.local),("k",.local),("j",.local),("share",.local),("len",.globalImplicit),("range",.globalImplicit)],isGenerator:=false,isCoroutine:=false,more:=[("fast",.str "hangs"),("fast",.str "weights"),("fast",.str "whole"),("fast",.str "n"),("fast",.str "u"),("fast",.str "lacks"),("fast",.str "v"),("fast",.str "turned"),("fast",.str "k"),("fast",.str "j"),("fast",.str "share")]}
noncomputable def KB:Fn:=⟨"_law_turned",⟨[],[⟨"hangs",none,(pP 269 16 21)⟩,⟨"weights",none,(pP 269 23 30)⟩,⟨"whole",none,(pP 269 32 37)⟩],none,[],[],none,[]⟩,FH,I3⟩
theorem H9:T2.fn 303=some KB:=by kernel_rfl
theorem B8:T2.prim 303=none:=by kernel_rfl
theorem G6:T2.cls 303=none:=by kernel_rfl
noncomputable def gh(hangs:List Int)(u:Nat):Int:=2-(hangs.count (u:Int):Nat)-(if(1:Int)<(u:Int)then 1 else(u:Int))
noncomputable def putAt(M:List (List Int))(i j:Nat)(v:Int):List (List Int):=M.set i ((M.getD i []).set j v)
noncomputable def lG(hangs:List Int):List (List Int):=(List.range' 0 hangs.length).map λu=>(List.range' 0 hangs.length).map λv=>2*gh hangs u*gh hangs v
noncomputable def uR(jf:Nat->Nat)(sh:Nat->Int)(M:List (List Int))(k:Nat):List (List Int):=
 let M1:=putAt M k (jf k) (gy M k (jf k)+sh k)
 let M2:=putAt M1 (jf k) k (gy M1 (jf k) k+sh k)
 let M3:=putAt M2 k k (gy M2 k k-sh k)
 putAt M3 (jf k) (jf k) (gy M3 (jf k) (jf k)-sh k)
noncomputable def Hv(weights:List Int)(whole:Int)(k:Nat):Int:=Int.fdiv (2*whole) (weights.getD k 0)
noncomputable def mN(hangs:List Int)(jf:Nat->Nat)(weights:List Int)(whole:Int):List (List Int):=(List.range' 1 (hangs.length-1)).foldl (uR jf (Hv weights whole)) (lG hangs)
def jL(n:Nat)(M:List (List Int)):Prop:=M.length=n/\∀xs∈M,xs.length=n
theorem jL.row(h:jL n M)(hi:i<n):∃xs,M[i]?=some xs/\M.getD i []=xs/\xs.length=n:=by have e:M[i]?=some (M[i]'(h.1▸hi)):=List.getElem?_eq_getElem (h.1▸hi);exact⟨_,e,by rw[List.getD_eq_getElem?_getD,e];rfl,h.2 _ (getElem_mem _)⟩
theorem jL.put(h:jL n M){j:Nat}(hi:i<n)(v:Int):jL n (putAt M i j v):=by
 refine⟨length_set.trans h.1,λxs hx=>?_⟩;rcases List.mem_or_eq_of_mem_set hx with hx|rfl
 ·exact h.2 xs hx
 ·obtain⟨xs,_,e,hl⟩:=h.row hi;rw[length_set,e,hl]
theorem qB(M:List (List Int))(i:Nat)(xs:List Int):(bV M).set i (xs.map .int)=bV (M.set i xs):=by unfold bV;rw[map_set]
theorem oI{j:Nat}{v w:Int}(hM:jL N M)(hi:i<N)(hj:j<N)(hk:bq sc x=true)(hl:l.lookup x=some (.sc (.ref ρ)))(hs:sliceOf e1=none)(hs2:dj e2=false) (O:dm V ρ rs (bV M))(ji:J (n+1) sc l e1 (.sc (.int i)))(jj:J (n+2) sc l e2 (.sc (.int j)))(jv:J (n+2) sc l e3 (.sc (.int v)))(ho:Fw op (gy M i j) v w)(c:Cx A V m l)(hA:∀r∈rs,¬A r) (k:∀V',bT rs V V'->dm V' ρ rs (bV (putAt M i j w))->Cx A V' m l->Wp ((al T2 (n+3)).ss sc m r) V' S):Wp ((al T2 (n+3)).ss sc m (.AugAssign (.Subscript (.Subscript (.Name x p) e1 q) e2 q') op e3 p'::r)) V S:=by
 obtain⟨xs,e,e',hx⟩:=hM.row hi;refine DR hk hl hs hs2 O ji (vs:=xs.map .int) (by unfold bV;rw[List.getElem?_map,e];rfl) jj (u:=gy M i j) ?_ jv ho c hA λV' k' O c=>k V' k' ?_ c
 ·unfold gy;rw[e',List.getElem?_map,List.getD_eq_getElem?_getD,List.getElem?_eq_getElem (hx▸hj)];rfl
 ·unfold putAt;rw[e',<-qB,map_set];exact O
theorem wk(O:dm V ρ rs vss)(h:∀r∈ρ::rs,A r):dp A V (.ref ρ) (.mat vss):=by
 refine⟨_,⟨ρ,rfl,h _ (.head _),O.e⟩,?_⟩;have:=O.r;clear O;induction this with
 |nil=>exact .nil
 |cons x _ ih=>exact .cons ⟨_,rfl,h _ (.tail _ (.head _)),x⟩ (ih λr hr=>h r (by rcases mem_cons.mp hr with rfl|hr;exact .head _;exact .tail _ (.tail _ hr)))
def BQ(A:Nat->Prop)(rs:List Nat)(j:Nat):Prop:=A j/\j∉rs
theorem pv:∀r∈rs,¬BQ A rs r:=λ_ h h'=>h'.2 h
theorem Cx.ownL(c:Cx A V m l)(k:aB V V')(h:∀r∈rs,V.length<=r)(h':∀r∈rs,r<V'.length):Cx (BQ A rs) V' m l:=⟨λj hj=>⟨c.a j (Nat.le_trans k.1 hj),λq=>not_lt.mpr hj (h' j q)⟩,(c.e.on (A':=BQ A rs) λj hj a=>⟨a,λq=>not_lt.mpr (h j q) hj⟩).keep k.toA⟩
theorem EY{j:Nat}(h:BQ A rs j):A j:=h.1
theorem dm.lt(O:dm V ρ rs vss):∀r∈ρ::rs,r<V.length:=λr h=>by
 rcases mem_cons.mp h with rfl|h
 ·exact bN O.e
 ·obtain⟨i,hi,rfl⟩:=List.mem_iff_getElem.mp h;have hi':i<vss.length:=by rw[<-O.r.length];exact hi
  obtain⟨r,e,h,_⟩:=O.get (List.getElem?_eq_getElem hi');rw[List.getElem?_eq_getElem hi]at e;injection e with e
  rw[e];exact bN h
theorem vy{gens:List Comprehension}(hx:fk sc x) (j:Wp ((al T2 (n+1)).e sc m (.ListComp elt gens sc' q)) V λv V'=>aB V V'/\∃ρ rs,v=.ref ρ/\dm V' ρ rs vss/\∀r∈ρ::rs,V.length<=r)(c:Cx A V m l) (k:∀m' V' ρ rs,aB V V'->(∀r∈ρ::rs,V.length<=r)->dm V' ρ rs vss->Cx (BQ A (ρ::rs)) V' m' ((x,.sc (.ref ρ))::l)->Wp ((al T2 (n+1)).ss sc m' r) V' S):Wp ((al T2 (n+1)).ss sc m (.Assign [.Name x p] (.ListComp elt gens sc' q) p'::r)) V S:=
 ao (Br hx (j.mono λv V' g=>by obtain⟨k1,ρ,rs,rfl,O,h⟩:=g;exact k _ _ ρ rs k1 h O ((c.ownL k1 h O.lt).set rfl)))
theorem Ef(hangs:List Int)(u:Nat)(hl:hangs.length<1000)(hu:u<1000):nK (2*gh hangs u)=true:=by have h:=List.count_le_length (a:=(u:Int)) (l:=hangs);refine decide_eq_true (lt_trans (m:=10000) ?_ (by decide));unfold gh;split<;>omega
theorem x3{hangs weights:List Int}{jf:Nat->Nat}(hl:hangs.length<1000)(hj:∀k,1<=k->k<hangs.length->hangs[k]?=some (jf k:Int)/\jf k<hangs.length)(hw:∀k,1<=k->k<hangs.length->∃w,weights[k]?=some w/\(w=1∨w=2)):Hw (n+20) (.obj 303) (.lst (hangs.map .int)) (.lst (weights.map .int)) (.sc (.int whole)) (.mat (bV (mN hangs jf weights whole))):=Ac G6 B8 H9 rfl λA V m c=>by
 change Cx A V m [("whole",.sc (.int whole)),("weights",.lst (weights.map .int)),("hangs",.lst (hangs.map .int))]at c;have hA:=c.a;refine(?_:Wp ((al T2 (n+19)).ss I3 m FH) V _);unfold FH;have hN:(hangs.map PV.int).length=hangs.length:=length_map ..;refine aD (t:=bu hangs.length) (λ_=>rfl) rfl ?_ c λm V1 LQ c=>?_
 ·apply J.to
  ·exact ax (f:=.blt "len") (λ_ _=>rfl) rfl (aa rfl rfl) fK
  ·rw[hN]
 refine pU (t:=.lst ((List.range' 0 hangs.length).map λu=>.int (gh hangs u))) (λ_=>rfl) ?_ c λm V2 LO c=>?_
 ·refine JF.j (bW (ti:=.rng 0 hangs.length 1) (g:=bu) (l':=[("hangs",.lst (hangs.map .int))]) rfl (by kernel_rfl) ?_ (bE (a:=0) (b:=hangs.length) rfl rfl (by decide) (by(exact Nat.le_trans (by assumption) (le_add_left ..)))) rfl (by rw[length_range'];(exact Nat.le_trans (by assumption) (le_add_left ..))) rfl λu hu=>?_)
  ·exact ax (f:=.typ "range") (λ_ _=>rfl) rfl (aa rfl rfl) bA
  ·unfold vR;refine aA (aA an (gR rfl rfl rfl (aa rfl rfl) (aa rfl rfl) (FO rfl) AQ) cI) (cn (f:=.blt "min") (λ_ _=>rfl) rfl rfl (aa rfl rfl) an s3) ?_;exact cI
 refine vy (vss:=bV (lG hangs)) (λ_=>rfl) ?_ c λm V3 ρ rs LN hρ O c=>?_
 ·have e:((List.range' 0 hangs.length).filter λ_=>true).map (λu=>(List.range' 0 hangs.length).map λv=>PV.int (2*gh hangs u*gh hangs v))=bV (lG hangs):=by rw[eY,bV,lG,map_map];exact map_congr_left λu _=>map_map.symm
  rw[<-e];refine Fi (ti:=.rng 0 hangs.length 1) (xs:=List.range' 0 hangs.length) (g:=bu) (l':=[("lacks",.lst ((List.range' 0 hangs.length).map λu=>.int (gh hangs u))),("n",bu hangs.length)]) rfl (by kernel_rfl) ?_ (bE (a:=0) (b:=hangs.length) rfl rfl (by decide) (by lia)) rfl (by rw[length_range'];lia) (by exact rfl) (λ_ _=>lW) (λu hu _=>?_) c
  ·exact ax (f:=.typ "range") (λ_ _=>rfl) rfl (aa rfl rfl) bA
  ·have hu:=(cj hu).2;unfold wc;refine bW (ti:=.rng 0 hangs.length 1) (xs:=List.range' 0 hangs.length) (g:=bu) (l':=[("u",bu u),("lacks",.lst ((List.range' 0 hangs.length).map λu=>.int (gh hangs u)))]) rfl (by kernel_rfl) ?_ (bE (a:=0) (b:=hangs.length) rfl rfl (by decide) (by lia)) rfl (by rw[length_range'];lia) rfl λv hv=>?_
   ·exact ax (f:=.typ "range") (λ_ _=>rfl) rfl (aa rfl rfl) bA
   ·have hv:=(cj hv).2;have at_l:∀u,u<0+hangs.length->At ((List.range' 0 hangs.length).map λu=>PV.int (gh hangs u)) (u:Nat) (.int (gh hangs u)):=λu hu=>bg (by rw[List.getElem?_map,List.getElem?_range' (by simp_all)];show some (PV.int (gh hangs (0+1*u)))=_;rw[zero_add,one_mul]);unfold wz;exact aA (aA an (aG rfl (aa rfl rfl) (aa rfl rfl) (aS (at_l u hu))) (c6 rfl)) (aG rfl (aa rfl rfl) (aa rfl rfl) (aS (at_l v hv))) (c6 (Ef hangs u hl (by lia)))
 have hρ:∀r∈ρ::rs,V.length<=r:=λr h=>Nat.le_trans (Nat.le_trans LQ.1 LO.1) (hρ r h);have K:=(LQ.trans LO).trans LN;refine cB (ti:=.rng 1 hangs.length 1) (g:=bu) (uR jf (Hv weights whole)) (List.range' 1 (hangs.length-1)) (λ_=>[("turned",.sc (.ref ρ)),("whole",.sc (.int whole)),("weights",.lst (weights.map .int)),("hangs",.lst (hangs.map .int))]) (λ_ M V'=>dm V' ρ rs (bV M)/\bT rs V3 V'/\jL hangs.length M) (lG hangs) (λ_=>rfl) rfl ?_ (bE rfl rfl (by decide) (by lia)) (by rw[length_range'];(exact lt_of_le_of_lt (sub_le ..) (lt_trans (by assumption) (by decide)))) c (λV' k c=>⟨c.sub rfl,O.keep k,k.toR,?_⟩) ?_ ?_
 ·exact cn (f:=.typ "range") (λ_ _=>rfl) rfl rfl an (aa rfl rfl) df
 ·refine⟨by rw[lG,length_map,length_range'],λxs hx=>?_⟩;obtain⟨u,_,rfl⟩:=mem_map.mp hx;rw[length_map,length_range']
 ·rintro k hk i M m V4 hi c ⟨O,kr,hM⟩;obtain⟨hk1,hk2⟩:=cj hk;have hk2:k<hangs.length:=by omega
  obtain⟨hj1,hj2⟩:=hj k hk1 hk2;obtain⟨w,hw1,hw2⟩:=hw k hk1 hk2;have hno:∀r∈rs,¬BQ A (ρ::rs) r:=λr h=>pv r (.tail _ h);unfold y5;refine aD (t:=bu (jf k)) (λ_=>rfl) rfl (aG rfl (aa rfl rfl) (aa rfl rfl) (aS (bg (by rw[List.getElem?_map,hj1];rfl)))) c λm V5 LP c=>?_;refine aD (t:=.sc (.int (Hv weights whole k))) (λ_=>rfl) rfl ?_ c λm V6 LR c=>?_
  ·have e:Hv weights whole k=Int.fdiv (2*whole) w:=by unfold Hv;rw[List.getD_eq_getElem?_getD,hw1];rfl
   rw[e];refine aA (aA an (aa rfl rfl) (c6 rfl)) (aG rfl (aa rfl rfl) (aa rfl rfl) (aS (bg (by rw[List.getElem?_map,hw1];rfl)))) (eW ?_);rcases hw2 with rfl|rfl<;>rfl
  have O:=O.keep (LP.trans LR);refine oI hM hk2 hj2 rfl rfl rfl rfl O (aa rfl rfl) (aa rfl rfl) (aa rfl rfl) (λ_=>rfl) c hno λV7 r₇ O c=>?_;refine oI (hM.put hk2 _) hj2 hk2 rfl rfl rfl rfl O (aa rfl rfl) (aa rfl rfl) (aa rfl rfl) (λ_=>rfl) c hno λV8 r₈ O c=>?_;refine oI ((hM.put hk2 _).put hj2 _) hk2 hk2 rfl rfl rfl rfl O (aa rfl rfl) (aa rfl rfl) (aa rfl rfl) (λ_=>rfl) c hno λV9 r₉ O c=>?_;refine oI (((hM.put hk2 _).put hj2 _).put hk2 _) hj2 hj2 rfl rfl rfl rfl O (aa rfl rfl) (aa rfl rfl) (aa rfl rfl) (λ_=>rfl) c hno λV' r' O c=>?_;have R:=((((LP.trans LR).toR.trans r₇).trans r₈).trans r₉).trans r';exact ak ⟨R.toA hno,.inl rfl,c.sub rfl,O,kr.trans R,(((hM.put hk2 _).put hj2 _).put hk2 _).put hj2 _⟩
 ·rintro m V4 c ⟨O,kr,_⟩;refine bI (aa rfl rfl) (c.frz (x:="turned") (t:=.mat (bV (mN hangs jf weights whole))) (λ_=>EY) rfl (wk O λr hr=>?_)) λv V5 LP r=>cN ((kr.keep K λr hr=>?_).trans LP) r
  ·exact hA _ (hρ r hr)
  ·exact hρ r (.tail _ hr)
noncomputable def cG(x y:Str):Int:=if x=y then 0 else if Txt.lower x=Txt.lower y then 1 else 2
noncomputable def dz(a b:Int):Int:=if b<a then b else a
noncomputable def bP(bc:Nat):List Nat->List Int->Int->Int->Int->List Int×Int×Int
 |[],_,_,r,mn=>([],r,mn)
 |ac::as,row,d,r,mn=>match row with
  |[]=>([],r,mn)
  |x::row=>
   let r':=dz (dz r x+2) (d+cG (ca bc) (ca ac))
   let q:=bP bc as row x r' (if r'<mn then r' else mn)
   (r'::q.1,q.2)
theorem CP{x u:Int}(hd:done.length=i):((done++x::rest).map PV.int).set i (.int u)=((done++[u])++rest).map PV.int:=by simp[<-hd]
theorem CW{x:Int}(hd:done.length=i):((done++x::rest).map PV.int)[i]?=some (.int x):=by simp[<-hd]
noncomputable def cR(as:List Nat)(mx:Int):List Nat->Int->List Int->Int->Int
 |[],_,_,res=>res
 |bc::bs,k,row,_=>
  let q:=bP bc as row (k*2) (k*2) 9223372036854775807
  if mx<q.2.2 then mx+1 else cR as mx bs (k+1) q.1 q.2.1
noncomputable def b0:List Nat->List Nat->List Nat×List Nat
 |[],ys=>([],ys)
 |x::xs,ys=>match ys with
  |[]=>(x::xs,[])
  |y::ys=>if x=y then b0 xs ys else(x::xs,y::ys)
theorem CM{α:Type}(l:List α):c9 l none none=l:=by unfold c9 eg;simp
theorem nW{l:List Nat}{x:Nat}(e:l.drop i=x::xs):l[i]?=some x/\l.drop (i+1)=xs/\i<l.length:=by
 have h:i<l.length:=by refine Nat.lt_of_not_le λh=>?_;rw[List.drop_eq_nil_of_le h]at e;cases e
 rw[List.drop_eq_getElem_cons h]at e;obtain⟨e1,e2⟩:=List.cons.inj e;exact⟨by rw[List.getElem?_eq_getElem h,e1],e2,h⟩
theorem y9(l:List Nat)(k:Nat):l.reverse.take (l.length-k)=(l.drop k).reverse:=(List.reverse_drop ..).symm
theorem CG(l:List Nat)(k:Nat)(hk:k+1<=l.length):c9 l.reverse none (some (-((k:Int)+1)))=(l.drop (k+1)).reverse:=by have:=yX l.reverse k;rw[length_reverse,y9]at this;exact this
noncomputable def oF(k:Nat):List Int:=(List.range k).map λ(j:Nat)=>(j:Int)*2+2
theorem vH:∀k:Nat,k<41->Builtin.Range.small 2 (2*((k:Int)+1)) 2=true/\cm 2 (2*((k:Int)+1)) 2=oF k:=by decide+kernel
theorem r8(k:Nat):(oF k).length=k:=by unfold oF;rw[length_map,length_range]
def fa(l:List Nat):Prop:=∀c∈l,strOk (Txt.lower (ca c))=true
theorem yV{r:Nat}{a b c:Int}{l:List Int}(e:V[r]?=some (.rng a b c))(hs:Builtin.Range.small a b c=true)(hl:cm a b c=l)(hn:l.length<=1000)(h:Q (.ref V.length) (V++[.list (l.map .int)])):Wp (bk ih T (.typ "list") [.ref r]) V Q:=by refine(?_:Wp (uX (.ref r)) V Q);unfold uX;refine Wp.lift (a:=r) rfl (Wp.getO e (Wp.lift (a:=(a,b,c)) rfl (Wp.must hs ?_)));rw[hl];exact Wp.must (decide_eq_true (by rw[length_map];exact Nat.le_trans hn (by decide))) (.eq rfl h)
noncomputable def kK(as bs:List Nat)(mx:Int):Int:=if((bs.length:Int)-as.length)*2>mx then mx+1 else cR as mx bs 0 (oF as.length) 0
noncomputable def rP(as bs:List Nat)(mx:Int):Int:=
 if as=[]∨bs=[]then 2*((as.length:Int)+bs.length)
 else if bs.length<as.length then kK bs as mx else kK as bs mx
noncomputable def dJ(as bs:List Nat)(mx:Int):Int:=
 if as=bs then 0
 else
  let p:=b0 as bs
  let q:=b0 p.1.reverse p.2.reverse
  rP q.1.reverse q.2.reverse mx
section
variable {y:Str}
theorem aB.kx(k:aB V V'):aX ρ V V':=⟨k.1,λj o _ e=>k.2 j o e⟩
theorem eB(hf:∀m V,bQ T2 sc m x V=some (v,V)):J (n+1) sc l (.Name x p) (.sc v):=λ_ V m _=>.eq (hf m V) ⟨.refl _,rfl⟩
theorem vO{y:Str}:A6 .Eq (.str x) (.str y) (decide (x=y)):=λ_=>rfl
theorem rC{x y:Int}(h:nK y=true):zG .Mult (.sc (.int x)) (.sc (.int y)) (.sc (.int (x*y))):=λ_ _ _ _ _ ha hb=>t3 (f:=hY .Mult) ha hb (Wp.must (by rw[h,Bool.or_true]) gj)
theorem qj(h:strOk (Txt.lower s)=true):m5 n (.blt "str.lower") (.sc (.str s)) (.sc (.str (Txt.lower s))):=λ_ _ _ _ ha=>qP (f:=λa=>bk (al T2 n) T2 (.blt "str.lower") [a]) ha (show Wp (eM (Txt.lower s)) _ _ from Wp.must h gj)
theorem j8{w:List Nat}(he:∀m,(al T2 (n+1)).b sc m e=lq (al T2 n) sc m e)(j:J n sc l e (.sc (.str (SL w)))):JB (n+1) sc l e (!w.isEmpty):=λA V m c=>by rw[he];exact j.bd c λv V' k _ r=>by obtain rfl:v=.str (SL w):=r;cases w<;>exact .ok ⟨k,rfl⟩
theorem vA{b1 b2 b3:Bool}(j1:JB n sc l e1 b1)(j2:JB n sc l e2 b2)(j3:b1=true->b2=true->JB n sc l e3 b3):JB (n+1) sc l (.BoolOp .And [e1,e2,e3] p) (b1&&(b2&&b3)):=λA V m c=>by
 refine bb_and ((j1 A V m c).mono λr V1 g=>?_);obtain⟨k,rfl⟩:=g;cases r with
 |false=>exact⟨k,rfl⟩
 |true=>
  refine bb_and ((j2 A V1 m (c.keep k)).mono λr V2 g=>?_);obtain⟨k',rfl⟩:=g;cases r with
  |false=>exact⟨k.trans k',rfl⟩
  |true=>
   refine bb_and ((j3 rfl rfl A V2 m (c.keep (k.trans k'))).mono λr V3 g=>?_);obtain⟨k'',rfl⟩:=g;cases r with
   |false=>exact⟨(k.trans k').trans k'',rfl⟩
   |true=>exact tq ⟨(k.trans k').trans k'',rfl⟩
theorem EW(j:JB n sc l e1 b)(j':JB n sc l e2 b'):JB (n+1) sc l (.BoolOp .Or [e1,e2] p) (b||b'):=λA V m c=>by
 refine bb_or ((j A V m c).mono λr V' g=>?_);obtain⟨k,rfl⟩:=g;cases r with
 |true=>exact⟨k,rfl⟩
 |false=>
  refine bb_or ((j' A V' m (c.keep k)).mono λr V' g=>?_);obtain⟨k',rfl⟩:=g;cases r with
  |true=>exact⟨k.trans k',rfl⟩
  |false=>exact tq ⟨k.trans k',rfl⟩
theorem Aa{u v w:Int}(hk:bq sc x=true)(hl:l.lookup x=some (.sc (.int u)))(hx:fk sc x)(j:J n sc l e (.sc (.int v)))(ho:Fw op u v w)(c:Cx A V m l)(k:∀m' V',aB V V'->Cx A V' m' ((x,.sc (.int w))::l)->Wp ((al T2 (n+1)).ss sc m' r) V' S):Wp ((al T2 (n+1)).ss sc m (.AugAssign (.Name x p) op e p'::r)) V S:=by obtain⟨u',ev,rfl⟩:=c.e x _ hl;exact ao (Ji (sL (l:=[(x,PV.int u)]) (DJ.of ⟨ev,trivial⟩) (by rw[lookup_cons,beq_self_eq_true]) hk) (hx m) ((j A V m c).mono λv' V' g=>by obtain⟨k1,rfl⟩:=g;exact .eq (ho V') (k _ _ k1 ((c.keep k1).set rfl))))
theorem Es(hx:fk sc x)(hy:fk sc y)(hc:ce e=false)(j:J n sc l e t)(c:Cx A V m l)(k:∀m' V',aB V V'->Cx A V' m' ((y,t)::(x,t)::l)->Wp ((al T2 (n+1)).ss sc m' r) V' S):Wp ((al T2 (n+1)).ss sc m (.Assign [.Name x p1,.Name y p2] e p'::r)) V S:=
 ao (xt (hx m) (λv=>congrFun (hy _) v) hc ((j A V m c).mono λ_ _ g=>k _ _ g.1 (((c.keep g.1).set g.2).set g.2)))
theorem wB(hs:pJ sc [.Name x p1,.Name y p2] [e1,e2]=true)(hx:fk sc x)(hy:fk sc y)(h1:aE e1=true)(h2:aE e2=true)(ja:J n sc l e1 ta)(jb:J n sc l e2 tb)(c:Cx A V m l)(k:∀m' V',aB V V'->Cx A V' m' ((x,ta)::(y,tb)::l)->Wp ((al T2 (n+2)).ss sc m' r) V' S):Wp ((al T2 (n+2)).ss sc m (.Assign [.Tuple [.Name x p1,.Name y p2] j1 p3] (.Tuple [e1,e2] j2 p4) p'::r)) V S:=
 ao (FE hs (λv=>congrFun (hy _) v) (λ_ v=>congrFun (hx _) v) ((ja A V m c).mono λu1 _ g=>(jb A _ m (c.keep g.1)).mono λu2 V2 g'=>
  have kn:=aB.new V2 (.tup [u1,u2]);have K:=(g.1.trans g'.1).trans kn
  k _ _ K (((c.keep K).set (g'.2.keep kn.toA)).set (g.2.keep (g'.1.trans kn).toA))) h1 h2)
theorem CE(hx:fk sc x)(hk:bq sc y=true)(hl:l.lookup y=some (.sc (.ref ρ)))(hs:sliceOf e=none)(o:V[ρ]?=some (.list vs))(hi:vs[i]?=some v)(ji:J (n+1) sc l e (.sc (.int i)))(c:Cx A V m l)(k:∀m' V',aB V V'->Cx A V' m' ((x,.sc v)::l)->Wp ((al T2 (n+3)).ss sc m' r) V' S):Wp ((al T2 (n+3)).ss sc m (.Assign [.Name x p1] (.Subscript (.Name y p2) e q) p'::r)) V S:=
 ao (cH (hx m) rfl (oq hs ((aa (n:=n) (p:=p2) hk hl A V m c).mono λa V1 g=>(ji A V1 m (c.keep g.1)).mono λb V2 g'=>by obtain⟨k1,rfl⟩:=g;obtain⟨k2,rfl⟩:=g';exact item_list ((k1.trans k2).2 _ _ o) hi (k _ _ (k1.trans k2) ((c.keep (k1.trans k2)).set rfl)))))
theorem vm(hk:bq sc y=true)(hl:l.lookup y=some (.sc (.ref ρ)))(hs:dj e2=false)(hc:ce e1=false)(j1:Wp ((al T2 (n+1)).e sc m e1) V (G A V (.sc v)))(j2:J (n+1) sc l e2 (.sc (.int i)))(o:V[ρ]?=some (.list vs))(hi:i<vs.length)(hA:¬A ρ)(c:Cx A V m l)(k:∀V',aX ρ V V'->V'[ρ]?=some (.list (vs.set i v))->Cx A V' m l->Wp ((al T2 (n+2)).ss sc m r) V' S):Wp ((al T2 (n+2)).ss sc m (.Assign [.Subscript (.Name y p2) e2 q] e1 p'::r)) V S:=
 ao (iU hs hc (j1.mono λu V1 g1=>(aa (n:=n) (p:=p2) hk hl A V1 m (c.keep g1.1)).mono λa V2 g=>(j2 A V2 m ((c.keep g1.1).keep g.1)).mono λb V3 g'=>by obtain⟨k0,rfl⟩:=g1;obtain⟨k1,rfl⟩:=g;obtain⟨k2,rfl⟩:=g';have K:=(k0.trans k1).trans k2;have kx:aX ρ V3 (V3.set ρ (.list (vs.set i u))):=.set ..;exact fP (K.2 _ _ o) hi (k _ (K.kx.trans kx) (cg (K.2 _ _ o)) ((c.keep K).keepA (kx.toA hA)))))
theorem Ct{a b d:Int}(hf:∀m V,bQ T2 sc m x V=some (.typ "list",V))(h1:aE e=true)(ja:J (n+1) sc l e (.rng a b d))(hs:Builtin.Range.small a b d=true)(hl:cm a b d=is)(hn:is.length<=1000):JF (n+2) sc l (.Call (.Name x p') [e] [] p) (.lst (is.map .int)):=λA V m c=>
 dA rfl (dc (hf m V) (aw h1 ((ja A V m c).mono λa V' g=>aO (by obtain⟨k,ρ,rfl,_,e⟩:=g;exact yV e hs hl hn ⟨⟨k.trans (.new ..),bH.new (c.keep k).a⟩,λρ e=>cY e▸k.1⟩))))
theorem vU{k:Int}{j:Nat}(ja:J (n+2) sc l e1 ta)(jb:J (n+1) sc l e2 (.sc (.int k)))(h:ES ta none (if k=0 then none else some k) t):J (n+3) sc l (.Subscript e1 (.Slice none (some (.BoolOp .Or [e2,.Constant .none j p1] p2)) none p') p) t:=λA V m c=>
 DZ ((ja A V m c).mono λa V1 g=>xD (xr (zM (Il ((jb A V1 m (c.keep g.1)).mono λv V2 g'=>by
  obtain⟨k2,rfl⟩:=g';have K:=g.1.trans k2;have h:=h A V2 a (c.keep K).a (g.2.keep k2.toA);refine .ok (Ga (λhz=>?_) λhz=>?_)
  ·rw[if_neg hz]at h;exact⟨_,rfl,.after K h⟩
  ·rw[if_pos (Decidable.of_not_not hz)]at h;exact GX (.eq rfl ⟨_,rfl,.after K h⟩))))))
theorem zA{α β:Type}{g:α->Tr}{b:List Stmt}(xs:List α)(env:β->cW)(O:Nat->β->aI->Prop)(s:β)(hx:fk sc x)(hp:aY e=true)(ji:J (n+1) sc l e ti)(hi:da ti (xs.map g))(hn:xs.length<4000)(c:Cx A V m l) (h0:∀V',aB V V'->Cx A V' m l->Cx A V' m (env s)/\O 0 s V') (step:∀a i s m V,xs[i]?=some a->Cx A V m ((x,g a)::env s)->O i s V->Wp ((al T2 (n+1)).ss sc m b) V λfm V'=>(ci A V V'/\(fm.1=.next∨fm.1=.cont)/\∃s',Cx A V' fm.2 (env s')/\O (i+1) s' V')∨∃u,fm.1=.ret u/\S (.ret u,fm.2) V') (bn:∀s m V',Cx A V' m (env s)->O xs.length s V'->Wp ((al T2 (n+2)).ss sc m r) V' S):Wp ((al T2 (n+2)).ss sc m (.For (.Name x p) e b [] p'::r)) V S:=by
 refine ao (nJ hp ((ji A V m c).mono λv V1 g1=>(hi A V1 v g1.2).mono λit V2 h=>?_));obtain⟨rfl,hs⟩:=h;obtain⟨c',o⟩:=h0 _ g1.1 (c.keep g1.1);clear h0 ji hi g1 c;have hn:xs.length<c7:=hn;have go:∀(ys:List α) (i:Nat) (s':β) (k:Nat) (it:It) (m:Loc) (V:aI),xs.drop i=ys->i+ys.length=xs.length->ys.length<k->sq A V it (ys.map g)->Cx A V m (env s')->O i s' V->Wp (jM T2 (al T2 (n+1)) sc (.Name x p) b [] k it m) V (mE T2 (n+1) sc r S):=by
  intro ys;induction ys with
  |nil=>
   intro i s' k it m V _ hl hk hs c o;cases k with
   |zero=>exact absurd hk (not_lt_zero _)
   |succ k=>have hl:i=_:=hl;exact jF hs.nil (ak (ae (bn _ _ _ c (hl▸o))))
  |cons a ys ih=>
   intro i s' k it m V hm hl hk hs c o;cases k with
   |zero=>exact absurd hk (not_lt_zero _)
   |succ k=>
   obtain⟨v,it',en,hv,hs'⟩:=hs.cons;rw[length_cons]at hl;exact dZ hx en ((step a i s' _ _ (by rw[<-Nat.add_zero i,<-List.getElem?_drop,hm];rfl) (c.set hv) o).mono λfm V' h=>h.elim (λ⟨h1,h2,s',h3,h4⟩=>.inl ⟨h2,ih _ _ k it' _ _ (by rw[<-List.drop_drop,hm];rfl) ((add_right_comm i 1 ys.length).trans hl) (lt_of_succ_lt_succ hk) (hs'.keep h1) h3 h4⟩) λ⟨u,h1,h2⟩=>.inr (.inl ⟨u,h1,h2⟩))
 exact go xs 0 s c7 it m _ rfl (zero_add _) hn hs c' o
end
theorem uM(h:(List.range' 0 n)[i]?=some a):a=i/\i<n:=by
 have hi:=(List.getElem?_eq_some_iff.mp h).1;rw[length_range']at hi;rw[List.getElem?_range' hi]at h;injection h with h
 exact⟨h.symm.trans ((zero_add _).trans (one_mul i)),hi⟩
noncomputable def J6:List Stmt:=[.If (.Compare (.Name "ch_a" (pP 9 7 11)) [.Eq] [.Name "ch_b" (pP 9 15 19)] (pP 9 7 19)) [.Return (some (.Constant (.int 0) 0 (pP 10 15 16))) (pP 10 8 16)] [] ⟨9,4,10,16⟩,.If (.Compare (.Call (.Attribute (.Name "ch_a" (pP 11 7 11)) "lower" (pP 11 7 17)) [] [] (pP 11 7 19)) [.Eq] [.Call (.Attribute (.Name "ch_b" (pP 11 23 27)) "lower" (pP 11 23 33)) [] [] (pP 11 23 35)] (pP 11 7 35)) [.Return (some (.Name "_CASE_COST" (pP 12 15 25))) (pP 12 8 25)] [] ⟨11,4,12,25⟩,.Return (some (.Name "_MOVE_COST" (pP 13 11 21))) (pP 13 4 21)]
noncomputable def KV:Scope:=⟨.function,[("ch_a",.local),("ch_b",.local),("_CASE_COST",.globalImplicit),("_MOVE_COST",.globalImplicit)],false,false,[]⟩
noncomputable def Lp:Fn:=⟨"_substitution_cost",⟨[],[⟨"ch_a",none,(pP 8 23 27)⟩,⟨"ch_b",none,(pP 8 29 33)⟩],none,[],[],none,[]⟩,J6,KV⟩
theorem Jz:T2.fn 28=some Lp:=by kernel_rfl
theorem F2:T2.prim 28=none:=by kernel_rfl
theorem IG:T2.cls 28=none:=by kernel_rfl
theorem Ah{y:Str}(hx:strOk (Txt.lower x)=true)(hy:strOk (Txt.lower y)=true):s8 (n+8) (.obj 28) (.sc (.str x)) (.sc (.str y)) (.sc (.int (cG x y))):=pA IG F2 Jz rfl λA V m c=>by change Cx A V m [("ch_b",.sc (.str y)),("ch_a",.sc (.str x))]at c;refine(?_:Wp ((al T2 (n+7)).ss KV m J6) V _);have bn:∀{v m V' i},aB V V'->dp A V' v (.sc (.int i))->cG x y=i->FL A V (.sc (.int (cG x y))) (.ret v,m) V':=λk r e=>e▸cN k r;unfold J6;refine bR (a8 rfl (aa rfl rfl) (aa rfl rfl) vO) c (λhb V1 k c=>bI an c λv V2 LO r=>cA (bn (k.trans LO) r (if_pos (of_decide_eq_true hb)))) λhb V1 k c=>ak (ae ?_);refine bR (a8 rfl (gX rfl (aa rfl rfl) (iz rfl) (qj hx)) (gX rfl (aa rfl rfl) (iz rfl) (qj hy)) vO) c (λhb' V2 k' c=>bI (eB (v:=.int 1) λ_ _=>rfl) c λv V3 LN r=>cA (bn ((k.trans k').trans LN) r ((if_neg (of_decide_eq_false hb)).trans (if_pos (of_decide_eq_true hb'))))) λhb' V2 k' c=>ak (ae ?_);exact bI (eB (v:=.int 2) λ_ _=>rfl) c λv V3 LN r=>bn ((k.trans k').trans LN) r ((if_neg (of_decide_eq_false hb)).trans (if_neg (of_decide_eq_false hb')))
noncomputable def Fg:List Stmt:=[.AugAssign (.Name "pre" (pP 19 8 11)) .Add (.Constant (.int 1) 0 (pP 19 15 16)) (pP 19 8 16)]
noncomputable def y7:Expr:=(.BoolOp .And [.Subscript (.Name "a" (pP 18 10 11)) (.Slice (some (.Name "pre" (pP 18 12 15))) none none (pP 18 12 16)) (pP 18 10 17),.Subscript (.Name "b" (pP 18 22 23)) (.Slice (some (.Name "pre" (pP 18 24 27))) none none (pP 18 24 28)) (pP 18 22 29),.Compare (.Subscript (.Name "a" (pP 18 35 36)) (.Name "pre" (pP 18 37 40)) (pP 18 35 41)) [.Eq] [.Subscript (.Name "b" (pP 18 45 46)) (.Name "pre" (pP 18 47 50)) (pP 18 45 51)] (pP 18 35 51)] (pP 18 10 52))
noncomputable def Fh:List Stmt:=[.AugAssign (.Name "post" (pP 24 8 12)) .Sub (.Constant (.int 1) 0 (pP 24 16 17)) (pP 24 8 17)]
noncomputable def Bm:Expr:=(.BoolOp .And [.Subscript (.Name "a" (pP 23 10 11)) (.Slice none (some (.BoolOp .Or [.Name "post" (pP 23 13 17),.Constant .none 0 (pP 23 21 25)] (pP 23 13 25))) none (pP 23 12 25)) (pP 23 10 26),.Subscript (.Name "b" (pP 23 31 32)) (.Slice none (some (.BoolOp .Or [.Name "post" (pP 23 34 38),.Constant .none 0 (pP 23 42 46)] (pP 23 34 46))) none (pP 23 33 46)) (pP 23 31 47),.Compare (.Subscript (.Name "a" (pP 23 53 54)) (.BinOp (.Name "post" (pP 23 55 59)) .Sub (.Constant (.int 1) 0 (pP 23 62 63)) (pP 23 55 63)) (pP 23 53 64)) [.Eq] [.Subscript (.Name "b" (pP 23 68 69)) (.BinOp (.Name "post" (pP 23 70 74)) .Sub (.Constant (.int 1) 0 (pP 23 77 78)) (pP 23 70 78)) (pP 23 68 79)] (pP 23 53 79)] (pP 23 10 80))
noncomputable def yF:List Stmt:=[.Assign [.Name "substitute" (pP 42 12 22)] (.BinOp (.Name "distance" (pP 42 25 33)) .Add (.Call (.Name "_substitution_cost" (pP 42 36 54)) [.Name "bchar" (pP 42 55 60),.Subscript (.Name "a" (pP 42 62 63)) (.Name "index" (pP 42 64 69)) (pP 42 62 70)] [] (pP 42 36 71)) (pP 42 25 71)) (pP 42 12 71),.Assign [.Name "distance" (pP 43 12 20)] (.Subscript (.Name "row" (pP 43 23 26)) (.Name "index" (pP 43 27 32)) (pP 43 23 33)) (pP 43 12 33),.Assign [.Name "insert_delete" (pP 44 12 25)] (.BinOp (.Call (.Name "min" (pP 44 28 31)) [.Name "result" (pP 44 32 38),.Name "distance" (pP 44 40 48)] [] (pP 44 28 49)) .Add (.Name "_MOVE_COST" (pP 44 52 62)) (pP 44 28 62)) (pP 44 12 62),.Assign [.Name "result" (pP 45 12 18)] (.Call (.Name "min" (pP 45 21 24)) [.Name "insert_delete" (pP 45 25 38),.Name "substitute" (pP 45 40 50)] [] (pP 45 21 51)) (pP 45 12 51),.Assign [.Subscript (.Name "row" (pP 46 12 15)) (.Name "index" (pP 46 16 21)) (pP 46 12 22)] (.Name "result" (pP 46 25 31)) (pP 46 12 31),.If (.Compare (.Name "result" (pP 47 15 21)) [.Lt] [.Name "minimum" (pP 47 24 31)] (pP 47 15 31)) [.Assign [.Name "minimum" (pP 48 16 23)] (.Name "result" (pP 48 26 32)) (pP 48 16 32)] [] ⟨47,12,48,32⟩]
noncomputable def Az:List Stmt:=[.Assign [.Name "bchar" (pP 38 8 13)] (.Subscript (.Name "b" (pP 38 16 17)) (.Name "bindex" (pP 38 18 24)) (pP 38 16 25)) (pP 38 8 25),.Assign [.Name "distance" (pP 39 8 16),.Name "result" (pP 39 19 25)] (.BinOp (.Name "bindex" (pP 39 28 34)) .Mult (.Name "_MOVE_COST" (pP 39 37 47)) (pP 39 28 47)) (pP 39 8 47),.Assign [.Name "minimum" (pP 40 8 15)] (.Constant (.int 9223372036854775807) 0 (pP 40 18 37)) (pP 40 8 37),.For (.Name "index" (pP 41 12 17)) (.Call (.Name "range" (pP 41 21 26)) [.Call (.Name "len" (pP 41 27 30)) [.Name "a" (pP 41 31 32)] [] (pP 41 27 33)] [] (pP 41 21 34)) yF [] ⟨41,8,48,32⟩,.If (.Compare (.Name "minimum" (pP 49 11 18)) [.Gt] [.Name "max_cost" (pP 49 21 29)] (pP 49 11 29)) [.Return (some (.BinOp (.Name "max_cost" (pP 50 19 27)) .Add (.Constant (.int 1) 0 (pP 50 30 31)) (pP 50 19 31))) (pP 50 12 31)] [] ⟨49,8,50,31⟩]
noncomputable def tP:List Stmt:=.Assign [.Name "row" (pP 35 4 7)] (.Call (.Name "list" (pP 35 10 14)) [.Call (.Name "range" (pP 35 15 20)) [.Name "_MOVE_COST" (pP 35 21 31),.BinOp (.Name "_MOVE_COST" (pP 35 33 43)) .Mult (.BinOp (.Call (.Name "len" (pP 35 47 50)) [.Name "a" (pP 35 51 52)] [] (pP 35 47 53)) .Add (.Constant (.int 1) 0 (pP 35 56 57)) (pP 35 47 57)) (pP 35 33 58),.Name "_MOVE_COST" (pP 35 60 70)] [] (pP 35 15 71)] [] (pP 35 10 72)) (pP 35 4 72)::.Assign [.Name "result" (pP 36 4 10)] (.Constant (.int 0) 0 (pP 36 13 14)) (pP 36 4 14)::.For (.Name "bindex" (pP 37 8 14)) (.Call (.Name "range" (pP 37 18 23)) [.Call (.Name "len" (pP 37 24 27)) [.Name "b" (pP 37 28 29)] [] (pP 37 24 30)] [] (pP 37 18 31)) Az [] ⟨37,4,50,31⟩::.Return (some (.Name "result" (pP 51 11 17))) (pP 51 4 17)::[]
noncomputable def tC:List Stmt:=.If (.Compare (.BinOp (.BinOp (.Call (.Name "len" (pP 33 8 11)) [.Name "b" (pP 33 12 13)] [] (pP 33 8 14)) .Sub (.Call (.Name "len" (pP 33 17 20)) [.Name "a" (pP 33 21 22)] [] (pP 33 17 23)) (pP 33 8 23)) .Mult (.Name "_MOVE_COST" (pP 33 27 37)) (pP 33 7 37)) [.Gt] [.Name "max_cost" (pP 33 40 48)] (pP 33 7 48)) [.Return (some (.BinOp (.Name "max_cost" (pP 34 15 23)) .Add (.Constant (.int 1) 0 (pP 34 26 27)) (pP 34 15 27))) (pP 34 8 27)] [] ⟨33,4,34,27⟩::tP
noncomputable def ua:List Stmt:=.If (.BoolOp .Or [.UnaryOp .Not (.Name "a" (pP 27 11 12)) (pP 27 7 12),.UnaryOp .Not (.Name "b" (pP 27 20 21)) (pP 27 16 21)] (pP 27 7 21)) [.Return (some (.BinOp (.Name "_MOVE_COST" (pP 28 15 25)) .Mult (.BinOp (.Call (.Name "len" (pP 28 29 32)) [.Name "a" (pP 28 33 34)] [] (pP 28 29 35)) .Add (.Call (.Name "len" (pP 28 38 41)) [.Name "b" (pP 28 42 43)] [] (pP 28 38 44)) (pP 28 29 44)) (pP 28 15 45))) (pP 28 8 45)] [] ⟨27,4,28,45⟩::.If (.BoolOp .Or [.Compare (.Call (.Name "len" (pP 29 7 10)) [.Name "a" (pP 29 11 12)] [] (pP 29 7 13)) [.Gt] [.Name "_MAX_STRING_SIZE" (pP 29 16 32)] (pP 29 7 32),.Compare (.Call (.Name "len" (pP 29 36 39)) [.Name "b" (pP 29 40 41)] [] (pP 29 36 42)) [.Gt] [.Name "_MAX_STRING_SIZE" (pP 29 45 61)] (pP 29 36 61)] (pP 29 7 61)) [.Return (some (.BinOp (.Name "max_cost" (pP 30 15 23)) .Add (.Constant (.int 1) 0 (pP 30 26 27)) (pP 30 15 27))) (pP 30 8 27)] [] ⟨29,4,30,27⟩::.If (.Compare (.Call (.Name "len" (pP 31 7 10)) [.Name "b" (pP 31 11 12)] [] (pP 31 7 13)) [.Lt] [.Call (.Name "len" (pP 31 16 19)) [.Name "a" (pP 31 20 21)] [] (pP 31 16 22)] (pP 31 7 22)) [.Assign [.Tuple [.Name "a" (pP 32 8 9),.Name "b" (pP 32 11 12)] 0 (pP 32 8 12)] (.Tuple [.Name "b" (pP 32 16 17),.Name "a" (pP 32 19 20)] 0 (pP 32 15 21)) (pP 32 8 21)] [] ⟨31,4,32,21⟩::tC
noncomputable def KO:List Stmt:=.If (.Compare (.Name "a" (pP 15 7 8)) [.Eq] [.Name "b" (pP 15 12 13)] (pP 15 7 13)) [.Return (some (.Constant (.int 0) 0 (pP 16 15 16))) (pP 16 8 16)] [] ⟨15,4,16,16⟩::.Assign [.Name "pre" (pP 17 4 7)] (.Constant (.int 0) 0 (pP 17 10 11)) (pP 17 4 11)::.While y7 Fg [] ⟨18,4,19,16⟩::.Assign [.Name "a" (pP 20 4 5)] (.Subscript (.Name "a" (pP 20 8 9)) (.Slice (some (.Name "pre" (pP 20 10 13))) none none (pP 20 10 14)) (pP 20 8 15)) (pP 20 4 15)::.Assign [.Name "b" (pP 21 4 5)] (.Subscript (.Name "b" (pP 21 8 9)) (.Slice (some (.Name "pre" (pP 21 10 13))) none none (pP 21 10 14)) (pP 21 8 15)) (pP 21 4 15)::.Assign [.Name "post" (pP 22 4 8)] (.Constant (.int 0) 0 (pP 22 11 12)) (pP 22 4 12)::.While Bm Fh [] ⟨23,4,24,17⟩::.Assign [.Name "a" (pP 25 4 5)] (.Subscript (.Name "a" (pP 25 8 9)) (.Slice none (some (.BoolOp .Or [.Name "post" (pP 25 11 15),.Constant .none 0 (pP 25 19 23)] (pP 25 11 23))) none (pP 25 10 23)) (pP 25 8 24)) (pP 25 4 24)::.Assign [.Name "b" (pP 26 4 5)] (.Subscript (.Name "b" (pP 26 8 9)) (.Slice none (some (.BoolOp .Or [.Name "post" (pP 26 11 15),.Constant .none 0 (pP 26 19 23)] (pP 26 11 23))) none (pP 26 10 23)) (pP 26 8 24)) (pP 26 4 24)::ua
noncomputable def Hc:Scope:={kind:=.function,names:=(("a",.local)::("b",.local)::("max_cost",.local)::("pre",.local)::("post",.local)::("row",.local)::("result",.local)::("bindex",.local)::("bchar",.local)::("distance",.local)::("minimum",.local)::("index",.local)::("substitute",.local)::("insert_delete",.local)::("_MOVE_COST",.globalImplicit)::("len",.globalImplicit)::("_MAX_STRING_SIZE",.globalImplicit)::("list",.globalImplicit)::("range",.globalImplicit)::("_substitution_cost",.globalImplicit)::("min",.globalImplicit)::[]),isGenerator:=false,isCoroutine:=false}
noncomputable def Lr:Fn:=⟨"_levenshtein_distance",⟨[],[⟨"a",none,(pP 14 26 27)⟩,⟨"b",none,(pP 14 29 30)⟩,⟨"max_cost",none,(pP 14 32 40)⟩],none,[],[],none,[]⟩,KO,Hc⟩
theorem J1:T2.fn 35=some Lr:=by kernel_rfl
theorem Hu:T2.prim 35=none:=by kernel_rfl
theorem HW:T2.cls 35=none:=by kernel_rfl
noncomputable def H1(as bs:List Nat)(mx:Int)(ρ:Nat):cW:=[("row",.sc (.ref ρ)),("max_cost",.sc (.int mx)),("b",.sc (.str (SL bs))),("a",.sc (.str (SL as)))]
structure Jt where
 done:List Int
 rest:List Int
 d:Int
 r:Int
 mn:Int
noncomputable def xC(as bs:List Nat)(mx:Int)(ρ bc:Nat)(s:Jt):cW:=("minimum",.sc (.int s.mn))::("result",.sc (.int s.r))::("distance",.sc (.int s.d))::("bchar",.sc (.str (SL [bc])))::H1 as bs mx ρ
structure J4(as:List Nat)(bc ρ:Nat)(V:aI)(R:List Int×Int×Int)(i:Nat)(s:Jt)(V':aI):Prop where
 hd:s.done.length=i
 hr:s.rest.length+i=as.length
 o:V'[ρ]?=some (.list ((s.done++s.rest).map .int))
 k:aX ρ V V'
 e:(s.done++(bP bc (as.drop i) s.rest s.d s.r s.mn).1,(bP bc (as.drop i) s.rest s.d s.r s.mn).2)=R
theorem Cu{R:List Int×Int×Int}{s:Jt}{T:Nat->Jt->aI->Prop}(hT:T=J4 as bc ρ V0 R)(hA:¬A ρ)(ha:fa as)(hb:strOk (Txt.lower (ca bc))=true)(hi:i<as.length)(c:Cx A V m (("index",.sc (.int i))::xC as bs mx ρ bc s))(h:J4 as bc ρ V0 R i s V):Wp ((al T2 (n+12)).ss Hc m yF) V λfm V'=>ci A V V'/\(fm.1=.next∨fm.1=.cont)/\∃s',Cx A V' fm.2 (xC as bs mx ρ bc s')/\T (i+1) s' V':=by
 obtain⟨done,rest,d,r,mn⟩:=s;obtain⟨h1,h2,o,kx,e⟩:=h;cases rest with
 |nil=>exact absurd (show 0+i=as.length from h2) (by rw[zero_add];exact ne_of_lt hi)
 |cons x rest=>
 have h1:done.length=i:=h1;have hc:as[i]?=some as[i]:=List.getElem?_eq_getElem hi;rw[List.drop_eq_getElem_cons hi]at e;unfold yF;refine aD (t:=.sc (.int (d+cG (ca bc) (ca as[i])))) (λ_=>rfl) rfl (aA (aa rfl rfl) (cn (f:=.obj 28) (λ_ _=>rfl) rfl rfl (aa rfl rfl) (aG rfl (aa rfl rfl) (aa rfl rfl) (bG (bg hc))) (Ah hb (ha _ (getElem_mem hi)))) aN) c λm V2 LO c=>?_;refine CE (λ_=>rfl) rfl rfl rfl (LO.2 _ _ o) (CW h1) (aa rfl rfl) c λm V3 LN c=>?_;refine aD (t:=.sc (.int (dz r x+2))) (λ_=>rfl) rfl (aA (cn (f:=.blt "min") (λ_ _=>rfl) rfl rfl (aa rfl rfl) (aa rfl rfl) s3) (eB (v:=.int 2) λ_ _=>rfl) aN) c λm V4 k₄ c=>?_;refine aD (t:=.sc (.int (dz (dz r x+2) (d+cG (ca bc) (ca as[i]))))) (λ_=>rfl) rfl (cn (f:=.blt "min") (λ_ _=>rfl) rfl rfl (aa rfl rfl) (aa rfl rfl) s3) c λm V5 LP c=>?_;have K:=(LO.trans LN).trans (k₄.trans LP);generalize hz:dz (dz r x+2) (d+cG (ca bc) (ca as[i]))=z at c;refine vm (i:=i) rfl rfl rfl rfl (aa rfl rfl _ _ _ c) (aa rfl rfl) (K.2 _ _ o) (by rw[length_map,List.length_append,length_cons,h1];exact Nat.lt_add_of_pos_right (succ_pos _)) hA c λV6 LR o c=>?_;rw[CP h1]at o;have bn:∀{m' mn' V'},mn'=(if z<mn then z else mn)->aB V6 V'->Cx A V' m' (xC as bs mx ρ bc ⟨done++[z],rest,x,z,mn'⟩)->ci A V V'/\(a9.next=.next∨a9.next=.cont)/\∃s',Cx A V' m' (xC as bs mx ρ bc s')/\T (i+1) s' V':=by rintro m' mn' V' rfl k c;refine⟨(K.toA.trans (LR.toA hA)).trans k.toA,.inl rfl,_,c,hT▸⟨by rw[List.length_append,h1];rfl,(add_right_comm rest.length 1 i).symm.trans h2,k.2 _ _ o,((kx.trans K.kx).trans LR).trans k.kx,?_⟩⟩;rw[<-e,<-hz];refine(?_:((done++[_])++_,_)=_);rw[List.append_assoc];rfl
 clear hz e kx K;refine bR (a8 rfl (aa rfl rfl) (aa rfl rfl) uc) c (λhb V7 LU c=>?_) λhb V7 LU c=>ak (ae (ak (bn (if_neg (of_decide_eq_false hb)).symm LU (c.sub rfl))));exact aD (λ_=>rfl) rfl (aa rfl rfl) c λm V8 k₈ c=>ak (ae (ak (bn (if_pos (of_decide_eq_true hb)).symm (LU.trans k₈) (c.sub rfl))))
structure KD(as bs:List Nat)(mx:Int)(ρ:Nat)(V:aI)(R:Int)(i:Nat)(s:List Int×Int)(V':aI):Prop where
 hr:s.1.length=as.length
 o:V'[ρ]?=some (.list (s.1.map .int))
 k:aX ρ V V'
 e:cR as mx (bs.drop i) i s.1 s.2=R
noncomputable def FN(as bs:List Nat)(mx:Int)(ρ:Nat)(s:List Int×Int):cW:=("result",.sc (.int s.2))::H1 as bs mx ρ
theorem B3{R:Int}{s:List Int×Int}{T:Nat->List Int×Int->aI->Prop}(hT:T=KD as bs mx ρ V0 R)(hA:¬A ρ)(ha:fa as)(hb:fa bs)(hn:as.length<41)(hi:i<bs.length)(c:Cx A V m (("bindex",.sc (.int i))::FN as bs mx ρ s))(h:KD as bs mx ρ V0 R i s V) (q:∀m V',aX ρ V0 V'->S (.ret (.int R),m) V'):Wp ((al T2 (n+13)).ss Hc m Az) V λfm V'=>(ci A V V'/\(fm.1=.next∨fm.1=.cont)/\∃s',Cx A V' fm.2 (FN as bs mx ρ s')/\T (i+1) s' V')∨∃u,fm.1=.ret u/\S (.ret u,fm.2) V':=by
 obtain⟨row,res⟩:=s;obtain⟨hr,o,kx,e⟩:=h;have hr:row.length=as.length:=hr;rw[List.drop_eq_getElem_cons hi]at e;unfold Az;refine aD (t:=.sc (.str (SL [bs[i]]))) (λ_=>rfl) rfl (aG rfl (aa rfl rfl) (aa rfl rfl) (bG (bg (List.getElem?_eq_getElem hi)))) c λm V1 LQ c=>?_;refine Es (t:=.sc (.int ((i:Int)*2))) (λ_=>rfl) (λ_=>rfl) rfl (aA (aa rfl rfl) (eB (v:=.int 2) λ_ _=>rfl) (rC rfl)) c λm V2 LO c=>?_;refine aD (λ_=>rfl) rfl (an (i:=9223372036854775807)) c λm V3 LN c=>?_;have K:=(LQ.trans LO).trans LN;generalize hR':bP bs[i] as row (i*2) (i*2) 9223372036854775807=R';have c:=c.sub (l':=xC as bs mx ρ bs[i] ⟨[],row,i*2,i*2,9223372036854775807⟩) rfl;refine zA (ti:=.rng 0 as.length 1) (g:=λ(j:Nat)=>.sc (.int j)) (List.range' 0 as.length) (xC as bs mx ρ bs[i]) (J4 as bs[i] ρ V3 R') ⟨[],row,i*2,i*2,9223372036854775807⟩ (λ_=>rfl) rfl (ax (f:=.typ "range") (λ_ _=>rfl) rfl (ax (f:=.blt "len") (λ_ _=>rfl) rfl (aa rfl rfl) ck) bA) (bE (a:=0) (b:=as.length) rfl rfl (by decide) (lt_trans hn (by decide))) (by rw[length_range'];exact lt_trans hn (by decide)) c (λV' k c=>⟨c,rfl,hr,k.2 _ _ (K.2 _ _ o),k.kx,hR'⟩) (λa j s m V' ha' c h=>?_) λs m V' c h=>?_
 ·obtain⟨rfl,hj⟩:=uM ha';exact(Cu rfl hA ha (hb _ (getElem_mem hi)) hj c h).mono λ_ _ h=>.inl h
 ·obtain⟨done,rest,d,r,mn⟩:=s;obtain⟨h1,h2,o,kx',e'⟩:=h;have hl:(List.range' 0 as.length).length=as.length:=length_range' ..;rw[hl]at h1 h2 e';have h2:rest.length+as.length=as.length:=h2;obtain rfl:rest=[]:=List.eq_nil_of_length_eq_zero (Nat.add_right_cancel (h2.trans (zero_add _).symm));rw[List.drop_length]at e';rw[<-e',show(done++(bP bs[i] [] [] d r mn).1)=done from append_nil done]at hR';have K₄:=(kx.trans K.kx).trans kx';have e:(if mx<mn then mx+1 else cR as mx (bs.drop (i+1)) (i+1) done r)=R:=by
   rw[<-e];show _=if mx<(bP bs[i] as row (i*2) (i*2) 9223372036854775807).2.2 then mx+1 else cR as mx (bs.drop (i+1)) (i+1) (bP bs[i] as row (i*2) (i*2) 9223372036854775807).1 (bP bs[i] as row (i*2) (i*2) 9223372036854775807).2.1
   rw[hR'];rfl
  refine bR (a8 rfl (aa rfl rfl) (aa rfl rfl) gD) c (λhb V7 LU c=>?_) λhb V7 LU c=>ak (ae (ak (.inl ⟨(K.toA.trans (kx'.toA hA)).trans LU.toA,.inl rfl,(done,r),c.sub rfl,hT▸⟨h1,?_,K₄.trans LU.kx,(if_neg (of_decide_eq_false hb)).symm.trans e⟩⟩)))
  ·exact bI (aA (aa rfl rfl) an aN) c λv V8 k₈ r=>cA (.inr ⟨v,rfl,by obtain rfl:=r;rw[if_pos (of_decide_eq_true hb)]at e;rw[e];exact q _ _ ((K₄.trans LU.kx).trans k₈.kx)⟩)
  ·rw[append_nil]at o;exact LU.2 _ _ o
theorem HO(ha:fa as)(hb:fa bs)(hla:as.length<41)(hlb:bs.length<41)(c:Cx A V m [("max_cost",.sc (.int mx)),("b",.sc (.str (SL bs))),("a",.sc (.str (SL as)))])(q:∀m V',aB V V'->S (.ret (.int (cR as mx bs 0 (oF as.length) 0)),m) V'):Wp ((al T2 (n+14)).ss Hc m tP) V S:=by
 unfold tP;refine fJ (λ_=>rfl) rfl (Ct (a:=2) (b:=2*((as.length:Int)+1)) (d:=2) (λ_ _=>rfl) rfl (lc (f:=.typ "range") (λ_ _=>rfl) rfl rfl rfl (eB λ_ _=>rfl) (aA (eB λ_ _=>rfl) (aA (ax (f:=.blt "len") (λ_ _=>rfl) rfl (aa rfl rfl) ck) an aN) (c6 rfl)) (eB λ_ _=>rfl) (og rfl)) (vH _ hla).1 (vH _ hla).2 (by rw[r8];exact Nat.le_trans (Nat.le_of_lt hla) (by decide))) c λm V1 ρ LQ hρ _ o c=>?_;refine aD (λ_=>rfl) rfl (an (i:=0)) c λm V2 LO c=>?_;refine zA (ti:=.rng 0 bs.length 1) (g:=λ(j:Nat)=>.sc (.int j)) (List.range' 0 bs.length) (FN as bs mx ρ) (KD as bs mx ρ V2 (cR as mx bs 0 (oF as.length) 0)) (oF as.length,0) (λ_=>rfl) rfl (ax (f:=.typ "range") (λ_ _=>rfl) rfl (ax (f:=.blt "len") (λ_ _=>rfl) rfl (aa rfl rfl) ck) bA) (bE (a:=0) (b:=bs.length) rfl rfl (by decide) (lt_trans hlb (by decide))) (by rw[length_range'];exact lt_trans hlb (by decide)) c (λV' k c=>⟨c.sub rfl,r8 _,k.2 _ _ (LO.2 _ _ o),k.kx,rfl⟩) (λa j s m V' ha' c h=>?_) λs m V' c h=>?_
 ·obtain⟨rfl,hj⟩:=uM ha';exact B3 rfl cT ha hb hla hj c h λm V' k=>q _ _ (k.keep (LQ.trans LO) hρ)
 ·obtain⟨_,_,kx,e⟩:=h;rw[show(List.range' 0 bs.length).length=bs.length from length_range' ..,List.drop_length]at e;have e:s.2=_:=e;exact bI (aa rfl rfl) c λv V3 LN r=>by obtain rfl:=r;rw[e];exact q _ _ ((kx.trans LN.kx).keep (LQ.trans LO) hρ)
theorem Fa(ha:fa as)(hb:fa bs)(hla:as.length<41)(hlb:bs.length<41)(c:Cx A V m [("max_cost",.sc (.int mx)),("b",.sc (.str (SL bs))),("a",.sc (.str (SL as)))])(q:∀m V',aB V V'->S (.ret (.int (kK as bs mx)),m) V'):Wp ((al T2 (n+14)).ss Hc m tC) V S:=by
 unfold tC;refine bR (a8 rfl (aA (aA (ax (f:=.blt "len") (λ_ _=>rfl) rfl (aa rfl rfl) ck) (ax (f:=.blt "len") (λ_ _=>rfl) rfl (aa rfl rfl) ck) cI) (eB λ_ _=>rfl) (rC rfl)) (aa rfl rfl) gD) c (λh V1 k c=>?_) λh V1 k c=>ak (ae (HO ha hb hla hlb c λm V' k'=>?_))
 ·have e:kK as bs mx=mx+1:=if_pos (of_decide_eq_true h);exact bI (aA (aa rfl rfl) an aN) c λv V3 LN r=>cA (by obtain rfl:=r;rw[<-e];exact q _ _ (k.trans LN))
 ·have e:kK as bs mx=_:=if_neg (of_decide_eq_false h);rw[<-e];exact q _ _ (k.trans k')
theorem Ik(ha:fa as)(hb:fa bs)(hla:as.length<41)(hlb:bs.length<41)(c:Cx A V m [("max_cost",.sc (.int mx)),("b",.sc (.str (SL bs))),("a",.sc (.str (SL as)))])(q:∀m V',aB V V'->S (.ret (.int (rP as bs mx)),m) V'):Wp ((al T2 (n+15)).ss Hc m ua) V S:=by
 have he:(!!as.isEmpty|| !!bs.isEmpty)=decide (as=[]∨bs=[]):=by cases as<;>cases bs<;>rfl
 unfold ua;refine bR (b:=decide (as=[]∨bs=[])) ((EW (uw (j8 (λ_=>rfl) (aa rfl rfl))) (uw (j8 (λ_=>rfl) (aa rfl rfl)))).to he) c (λh V1 k c=>?_) λh V1 k c=>ak (ae ?_)
 ·have e:rP as bs mx=_:=if_pos (of_decide_eq_true h);exact bI (aA (eB λ_ _=>rfl) (aA (ax (f:=.blt "len") (λ_ _=>rfl) rfl (aa rfl rfl) ck) (ax (f:=.blt "len") (λ_ _=>rfl) rfl (aa rfl rfl) ck) aN) (c6 rfl)) c λv V3 LN r=>cA (by obtain rfl:=r;rw[e]at q;exact q _ _ (k.trans LN))
 have e:rP as bs mx=_:=if_neg (of_decide_eq_false h);have hno:(decide ((40:Int)<as.length)||decide ((40:Int)<bs.length))=false:=by rw[decide_eq_false (p:=(40:Int)<as.length) λh=>not_lt.mpr (le_of_lt_succ hla) (ofNat_lt.mp h),decide_eq_false (p:=(40:Int)<bs.length) λh=>not_lt.mpr (le_of_lt_succ hlb) (ofNat_lt.mp h)];rfl
 refine bR (b:=false) ((EW (a8 rfl (ax (f:=.blt "len") (λ_ _=>rfl) rfl (aa rfl rfl) ck) (eB (v:=.int 40) λ_ _=>rfl) gD) (a8 rfl (ax (f:=.blt "len") (λ_ _=>rfl) rfl (aa rfl rfl) ck) (eB (v:=.int 40) λ_ _=>rfl) gD)).to hno) c nofun λ_ V2 LO c=>ak (ae ?_);refine bR (a8 rfl (ax (f:=.blt "len") (λ_ _=>rfl) rfl (aa rfl rfl) ck) (ax (f:=.blt "len") (λ_ _=>rfl) rfl (aa rfl rfl) ck) uc) c (λh V3 LN c=>?_) λh V3 LN c=>ak (ae ?_)
 ·rw[if_pos (ofNat_lt.mp (of_decide_eq_true h))]at e;exact wB rfl (λ_=>rfl) (λ_=>rfl) rfl rfl (aa rfl rfl) (aa rfl rfl) c λm V4 k₄ c=>ak (ae (Fa hb ha hlb hla (c.sub rfl) λm V' k'=>by rw[<-e];exact q _ _ ((((k.trans LO).trans LN).trans k₄).trans k')))
 ·rw[if_neg λh'=>of_decide_eq_false h (ofNat_lt.mpr h')]at e;exact Fa ha hb hla hlb c λm V' k'=>by rw[<-e];exact q _ _ (((k.trans LO).trans LN).trans k')
noncomputable def Be(as bs:List Nat)(i:Nat):Bool:=!(as.drop i).isEmpty&&(!(bs.drop i).isEmpty&&decide ([as.getD i 0]=[bs.getD i 0]))
theorem zn{l r:List Nat}{x:Nat}(e:l.drop i=x::r):l.getD i 0=x/\l.drop (i+1)=r/\i<l.length:=by obtain⟨h1,h2,h3⟩:=nW e;exact⟨by rw[List.getD_eq_getElem?_getD,h1];rfl,h2,h3⟩
theorem BZ:(Be as bs i=true->b0 (as.drop i) (bs.drop i)=b0 (as.drop (i+1)) (bs.drop (i+1))/\i<as.length/\i<bs.length)/\(Be as bs i=false->b0 (as.drop i) (bs.drop i)=(as.drop i,bs.drop i)):=by
 unfold Be;cases h1:as.drop i with
 |nil=>exact⟨nofun,λ_=>rfl⟩
 |cons x xs=>
  cases h2:bs.drop i with
  |nil=>exact⟨nofun,λ_=>rfl⟩
  |cons y ys=>
   obtain⟨a1,a2,a3⟩:=zn h1;obtain⟨b1,b2,b3⟩:=zn h2;rw[a1,b1,a2,b2];refine⟨λh=>?_,λh=>?_⟩
   ·obtain rfl:x=y:=List.head_eq_of_cons_eq (of_decide_eq_true h);exact⟨if_pos rfl,a3,b3⟩
   ·exact if_neg λe=>of_decide_eq_false h (congrArg (λz=>[z]) e)
theorem k4{l:List Nat}(h:(!(l.drop i).isEmpty)=true):i<l.length/\l[i]?=some (l.getD i 0):=by
 cases e:l.drop i with
 |nil=>rw[e]at h;cases h
 |cons x r=>obtain⟨h1,_,h3⟩:=nW e;exact⟨h3,by rw[List.getD_eq_getElem?_getD,h1];rfl⟩
theorem sf{env:Nat->cW}{b:List Stmt}(as bs:List Nat)(hT:∀i,i<=as.length->i<=bs.length->JB (n+1) sc (env i) e (Be as bs i))(hb:∀i m V,Cx A V m (env i)->Wp ((al T2 (n+1)).ss sc m b) V λfm V'=>fm.1=.next/\aB V V'/\Cx A V' fm.2 (env (i+1)))(hl:as.length<4000)(c:Cx A V m (env 0)) (bn:∀i m V',aB V V'->Cx A V' m (env i)->i<=as.length->i<=bs.length->b0 as bs=(as.drop i,bs.drop i)->Wp ((al T2 (n+2)).ss sc m r) V' S):Wp ((al T2 (n+2)).ss sc m (.While e b [] p::r)) V S:=by
 refine ao (vp (nV (λj m V'=>∃i,j+i=as.length/\i<=bs.length/\aB V V'/\b0 as bs=b0 (as.drop i) (bs.drop i)/\Cx A V' m (env i)) ?_ as.length c7 m V hl ⟨0,rfl,zero_le _,.refl _,rfl,c⟩));rintro j m V1 ⟨i,hj,hi,k,e,c⟩;have hi':i<=as.length:=hj▸le_add_left i j;refine(hT i hi' hi A V1 m c).mono λr V2 g=>?_;obtain⟨k2,rfl⟩:=g;obtain⟨h1,h2⟩:=BZ (as:=as) (bs:=bs) (i:=i);by_cases h:Be as bs i=true
 ·obtain⟨q1,q2,q3⟩:=h1 h;cases j with
  |zero=>exact absurd ((zero_add i).symm.trans hj) (ne_of_lt q2)
  |succ j=>exact(if_pos h).mpr ⟨j,rfl,(hb i m V2 (c.keep k2)).mono λfm V3 g=>⟨g.1,i+1,(add_right_comm j 1 i).symm.trans hj,q3,(k.trans k2).trans g.2.1,e.trans q1,g.2.2⟩⟩
 ·exact(if_neg h).mpr (ak (ae (bn i m V2 (k.trans k2) (c.keep k2) hi' hi (e.trans (h2 (eq_false_iff.mpr h))))))
theorem kT{l:List Nat}:ES (.sc (.str (SL l))) (some (i:Int)) none (.sc (.str (SL (l.drop i)))):=by have:=@oY l (some i) none;rw[qd]at this;exact this
theorem oU{l:List Nat}(h:i<=l.length):ES (.sc (.str (SL l.reverse))) none (if(-(i:Int))=0 then none else some (-(i:Int))) (.sc (.str (SL (l.drop i).reverse))):=by
 have:=@oY l.reverse none (if(-(i:Int))=0 then none else some (-(i:Int)));cases i with
 |zero=>rw[if_pos (show-((0:Nat):Int)=0 from rfl),CM]at this;exact this
 |succ i=>rw[if_neg (show¬-((i+1:Nat):Int)=0 from λh=>nomatch(show Int.negSucc i=0 from h))]at this⊢;rw[show-((i+1:Nat):Int)= -((i:Int)+1)from rfl]at this⊢;rw[CG l i h]at this;exact this
theorem BH{l:List Nat}(h:l[k]?=some c):At l.reverse (-(k:Int)-1) c:=by have hlt:k<l.length:=(List.getElem?_eq_some_iff.mp h).1;unfold At;rw[length_reverse,show-(k:Int)-1= -((k:Int)+1)from Int.neg_add.symm,jX hlt];exact(List.getElem?_reverse' (sub_add_cancel hlt)).trans h
theorem wl(l:List Nat):(!l.reverse.isEmpty)=!l.isEmpty:=by rw[List.isEmpty_reverse]
noncomputable def IT(as bs:List Nat)(mx:Int)(x:Str)(k:Int):cW:=[(x,.sc (.int k)),("max_cost",.sc (.int mx)),("b",.sc (.str (SL bs))),("a",.sc (.str (SL as)))]
theorem za(ha:fa as)(hb:fa bs)(hla:as.length<41)(hlb:bs.length<41):Hw (n+18) (.obj 35) (.sc (.str (SL as))) (.sc (.str (SL bs))) (.sc (.int mx)) (.sc (.int (dJ as bs mx))):=Ac HW Hu J1 rfl λA V m c=>by
 change Cx A V m [("max_cost",.sc (.int mx)),("b",.sc (.str (SL bs))),("a",.sc (.str (SL as)))]at c;refine(?_:Wp ((al T2 (n+17)).ss Hc m KO) V _);have q:∀{i v m V'},aB V V'->dJ as bs mx=i->v=.int i->FL A V (.sc (.int (dJ as bs mx))) (.ret v,m) V':=λk e r=>cN k (r.trans (congrArg PV.int e.symm));unfold KO;refine bR (a8 rfl (aa rfl rfl) (aa rfl rfl) dD) c (λh V1 k c=>bI an c λv V2 LO r=>cA (q (k.trans LO) (if_pos (of_decide_eq_true h)) r)) λh V1 k c=>ak (ae ?_);have el:dJ as bs mx=_:=if_neg (of_decide_eq_false h);refine aD (λ_=>rfl) rfl (an (i:=0)) c λm V2 LO c=>?_;refine sf (env:=λi=>IT as bs mx "pre" (i:Nat)) as bs (λi _ _=>?_) (λi m V c=>?_) (lt_trans hla (by decide)) c λi m V3 LN c _ _ e=>?_
 ·unfold y7;refine vA (j8 (λ_=>rfl) (xQ (aa rfl rfl) (aa rfl rfl) kT)) (j8 (λ_=>rfl) (xQ (aa rfl rfl) (aa rfl rfl) kT)) λh1 h2=>a8 rfl (aG rfl (aa rfl rfl) (aa rfl rfl) (bG (bg (k4 h1).2))) (aG rfl (aa rfl rfl) (aa rfl rfl) (bG (bg (k4 h2).2))) dD
 ·unfold Fg;exact Aa (u:=i) (v:=1) (w:=(i+1:Nat)) rfl rfl (λ_=>rfl) an (λ_=>rfl) c λm V k c=>ak ⟨rfl,k,c.sub rfl⟩
 rw[e]at el;refine aD (λ_=>rfl) rfl (xQ (aa rfl rfl) (aa rfl rfl) kT) c λm V4 k₄ c=>?_;refine aD (λ_=>rfl) rfl (xQ (aa rfl rfl) (aa rfl rfl) kT) c λm V5 LP c=>?_;refine aD (λ_=>rfl) rfl (an (i:=0)) c λm V6 LR c=>?_;obtain⟨xs,hx⟩:∃xs,xs=(as.drop i).reverse:=⟨_,rfl⟩;obtain⟨ys,hy⟩:∃ys,ys=(bs.drop i).reverse:=⟨_,rfl⟩;have hx':as.drop i=xs.reverse:=by rw[hx,List.reverse_reverse]
 have hy':bs.drop i=ys.reverse:=by rw[hy,List.reverse_reverse]
 have el:dJ as bs mx=rP (b0 xs ys).1.reverse (b0 xs ys).2.reverse mx:=by rw[hx,hy];exact el
 rw[hx',hy']at c;have lx:fa xs/\xs.length<41:=by rw[hx];exact⟨λz h=>ha z (mem_of_mem_drop (mem_reverse.mp h)),by rw[length_reverse,length_drop];exact lt_of_le_of_lt (sub_le ..) hla⟩
 have ly:fa ys/\ys.length<41:=by rw[hy];exact⟨λz h=>hb z (mem_of_mem_drop (mem_reverse.mp h)),by rw[length_reverse,length_drop];exact lt_of_le_of_lt (sub_le ..) hlb⟩
 have K:=((k.trans LO).trans LN).trans ((k₄.trans LP).trans LR);clear hx hy hx' hy' k LO LN k₄ LP LR e h;refine sf (env:=λi=>IT xs.reverse ys.reverse mx "post" (-(i:Nat))) xs ys (λi hi hj=>?_) (λi m V c=>?_) (lt_trans lx.2 (by decide)) (c.sub rfl) λi m V7 LU c hi hj e=>?_
 ·unfold Bm;refine vA ((j8 (λ_=>rfl) (vU (aa rfl rfl) (aa rfl rfl) (oU hi))).to (wl _)) ((j8 (λ_=>rfl) (vU (aa rfl rfl) (aa rfl rfl) (oU hj))).to (wl _)) λh1 h2=>a8 rfl (aG rfl (aa rfl rfl) (aA (aa rfl rfl) an cI) (bG (BH (k4 h1).2))) (aG rfl (aa rfl rfl) (aA (aa rfl rfl) an cI) (bG (BH (k4 h2).2))) dD
 ·unfold Fh;exact Aa (u:= -(i:Nat)) (v:=1) (w:= -((i+1:Nat):Int)) rfl rfl (λ_=>rfl) an (λ_=>by refine(?_:some (PV.int (-(i:Int)-1),_)=_);rw[show-(i:Int)-1= -((i+1:Nat):Int)from Int.neg_add.symm]) c λm V k c=>ak ⟨rfl,k,c.sub rfl⟩
 rw[e]at el;refine aD (λ_=>rfl) rfl (vU (aa rfl rfl) (aa rfl rfl) (oU hi)) c λm V8 k₈ c=>?_;refine aD (λ_=>rfl) rfl (vU (aa rfl rfl) (aa rfl rfl) (oU hj)) c λm V9 k₉ c=>?_;have ld:∀{zs:List Nat},fa zs/\zs.length<41->fa (zs.drop i).reverse/\(zs.drop i).reverse.length<41:=λh=>⟨λz hz=>h.1 z (mem_of_mem_drop (mem_reverse.mp hz)),by rw[length_reverse,length_drop];exact lt_of_le_of_lt (sub_le ..) h.2⟩;exact Ik (ld lx).1 (ld ly).1 (ld lx).2 (ld ly).2 (c.sub rfl) λm V' k'=>q (((K.trans LU).trans (k₈.trans k₉)).trans k') el rfl
theorem yo(h1:aE e1=true)(ja:J n sc l e1 (.sc v))(jb:J (n+1) sc l e2 (.sc (.int k)))(hk:k<=1000):JF (n+2) sc l (.BinOp (.List [e1] p') .Mult e2 p) (.lst (List.replicate k v)):=λA V m c=>
 uQ ((gu (p:=p') h1 ja A V m c).mono λa V1 g=>(jb A V1 m (c.keep g.1.1)).mono λb V2 g'=>by obtain⟨⟨k1,ρ,rfl,_,e⟩,_⟩:=g;obtain⟨k2,rfl⟩:=g';refine Ab (k2.2 _ _ e) (by rw[toNat_natCast,length_singleton,one_mul];exact hk) (lt_of_le_of_lt hk (by decide)) ?_;rw[toNat_natCast,List.flatten_replicate_singleton];have kk:=k1.trans k2;exact⟨⟨kk.trans (.new ..),bH.new (c.keep kk).a⟩,λρ e=>cY e▸kk.1⟩)
section
variable {y:Str}{xs:List PV}
theorem DS(ja:J n sc l e1 (.lst xs))(jb:J n sc l e2 (.lst ys))(h:xs.length+ys.length<=1000):JF (n+1) sc l (.BinOp e1 .Add e2 p) (.lst (xs++ys)):=λA V m c=>
 uQ ((ja A V m c).mono λa V1 g=>(jb A V1 m (c.keep g.1)).mono λb V2 g'=>by obtain⟨k1,ρ,rfl,_,e⟩:=g;obtain⟨k2,ρ',rfl,_,e'⟩:=g';have kk:=k1.trans k2;exact lL (k2.2 _ _ e) e' h ⟨⟨kk.trans (.new ..),bH.new (c.keep kk).a⟩,λρ e=>cY e▸kk.1⟩)
theorem Em(hx:fk sc x)(hy:fk sc y)(hz:fk sc z)(hc:ce e=false)(j:J n sc l e t)(c:Cx A V m l)(k:∀m' V',aB V V'->Cx A V' m' ((z,t)::(y,t)::(x,t)::l)->Wp ((al T2 (n+1)).ss sc m' r) V' S):Wp ((al T2 (n+1)).ss sc m (.Assign [.Name x p1,.Name y p2,.Name z p3] e p'::r)) V S:=by refine ao (g0 rfl rfl hc ((j A V m c).mono λv V' g=>.eq (a:=((m.set x v).set y v).set z v) (V':=V') ?_ (k _ _ g.1 ((((c.keep g.1).set g.2).set g.2).set g.2))));refine(?_:bd (lift (aV sc m x v)) _ V'=_);rw[hx];refine(?_:bd (lift (aV sc (m.set x v) y v)) _ V'=_);rw[hy];refine(?_:bd (lift (aV sc ((m.set x v).set y v) z v)) _ V'=_);rw[hz];rfl
theorem jq{fs:List (Str×PV)}(hk:bq sc y=true)(hl:l.lookup y=some (.sc (.ref ρ)))(hc:ce e=false)(hx:(attrOk x&&(T2.cls C).isSome&&decide (fs.length<=100))=true)(o:V[ρ]?=some (.inst C fs))(hA:¬A ρ)(h:Wp ((al T2 (n+1)).e sc m e) V λv V'=>aB V V'/\R v V')(c:Cx A V m l) (k:∀v V1 V',R v V1->aX ρ V1 V'->aX ρ V V'->V'[ρ]?=some (.inst C (gM fs x v))->Cx A V' m l->Wp ((al T2 (n+2)).ss sc m r) V' S):Wp ((al T2 (n+2)).ss sc m (.Assign [.Attribute (.Name y p2) x q] e p'::r)) V S:=
 ao (ik rfl hc (h.mono λv V1 g=>(aa (n:=n) (p:=p2) hk hl A V1 m (c.keep g.1)).mono λa V2 g'=>by obtain⟨k2,rfl⟩:=g';have K:=g.1.trans k2;have kx:aX ρ V2 (V2.set ρ (.inst C (gM fs x v))):=.set ..;exact i7 (K.2 _ _ o) hx (k v V1 _ g.2 (k2.kx.trans kx) (K.kx.trans kx) (cg (K.2 _ _ o)) ((c.keep K).keepA (kx.toA hA)))))
theorem J.val{u:PV}(j:J n sc l e (.sc u))(c:Cx A V m l):Wp ((al T2 n).e sc m e) V λv V'=>aB V V'/\v=u:=j A V m c
theorem BI(hk:bq sc y=true)(hl:l.lookup y=some (.sc (.ref ρ)))(hs:sliceOf e=none)(o:V[ρ]?=some (.list xs))(hi:xs[i]?=some v)(ji:J (n+1) sc l e (.sc (.int i)))(c:Cx A V m l):Wp ((al T2 (n+2)).e sc m (.Subscript (.Name y p2) e q)) V (G A V (.sc v)):=
 oq hs ((aa (n:=n) (p:=p2) hk hl A V m c).mono λa V1 g=>(ji A V1 m (c.keep g.1)).mono λb V2 g'=>by obtain⟨k1,rfl⟩:=g;obtain⟨k2,rfl⟩:=g';exact item_list ((k1.trans k2).2 _ _ o) hi ⟨k1.trans k2,rfl⟩)
theorem vG{y':Str}(hf:∀m V,bQ T2 sc m y V=some (.obj C,V))(ha:∀V,dW T2 (.obj C) y' V=some (v,V)):J (n+2) sc l (.Attribute (.Name y p) y' q) (.sc v):=λ_ V m _=>iF rfl (dc (hf m V) (.eq (ha V) ⟨.refl _,rfl⟩))
end
theorem yt:m5 n (.typ "tuple") (.lst vs) (.tup vs):=λ_ _ _ hA ⟨_,ha,_,e⟩=>qP (f:=λa=>bk (al T2 n) T2 (.typ "tuple") [a]) ha (uu e ⟨.new ..,bH.new hA⟩)
noncomputable def tL:List Stmt:=[.If (.Compare (.Name "ch" (pP 167 15 17)) [.Eq] [.Name "S" (pP 167 21 22)] (pP 167 15 22)) [.Assign [.Name "n" (pP 168 16 17)] (.BinOp (.Name "n" (pP 168 20 21)) .Add (.Constant (.int 1) 0 (pP 168 24 25)) (pP 168 20 25)) (pP 168 16 25),.Assign [.Name "b" (pP 169 16 17)] (.BinOp (.Name "b" (pP 169 20 21)) .Add (.Constant (.int 1) 0 (pP 169 24 25)) (pP 169 20 25)) (pP 169 16 25)] [.If (.Compare (.Name "ch" (pP 170 17 19)) [.Eq] [.Name "T" (pP 170 23 24)] (pP 170 17 24)) [.Assign [.Name "n" (pP 171 16 17)] (.BinOp (.Name "n" (pP 171 20 21)) .Add (.Constant (.int 1) 0 (pP 171 24 25)) (pP 171 20 25)) (pP 171 16 25),.Assign [.Name "nt" (pP 172 16 18)] (.BinOp (.Name "nt" (pP 172 21 23)) .Add (.Constant (.int 1) 0 (pP 172 26 27)) (pP 172 21 27)) (pP 172 16 27),.If (.Compare (.Name "b" (pP 173 19 20)) [.GtE] [.Call (.Name "len" (pP 173 24 27)) [.Name "count" (pP 173 28 33)] [] (pP 173 24 34)] (pP 173 19 34)) [.Assign [.Name "count" (pP 174 20 25)] (.BinOp (.Name "count" (pP 174 28 33)) .Add (.BinOp (.List [.Constant (.int 0) 0 (pP 174 37 38)] (pP 174 36 39)) .Mult (.BinOp (.BinOp (.Name "b" (pP 174 43 44)) .Sub (.Call (.Name "len" (pP 174 47 50)) [.Name "count" (pP 174 51 56)] [] (pP 174 47 57)) (pP 174 43 57)) .Add (.Constant (.int 1) 0 (pP 174 60 61)) (pP 174 43 61)) (pP 174 36 62)) (pP 174 28 62)) (pP 174 20 62)] [] ⟨173,16,174,62⟩,.Assign [.Subscript (.Name "count" (pP 175 16 21)) (.Name "b" (pP 175 22 23)) (pP 175 16 24)] (.BinOp (.Subscript (.Name "count" (pP 175 27 32)) (.Name "b" (pP 175 33 34)) (pP 175 27 35)) .Add (.Constant (.int 1) 0 (pP 175 38 39)) (pP 175 27 39)) (pP 175 16 39),.Assign [.Name "b" (pP 176 16 17)] (.Constant (.int 0) 0 (pP 176 20 21)) (pP 176 16 21)] [.Break (pP 178 16 21)] ⟨170,12,178,21⟩] ⟨167,12,178,21⟩]
noncomputable def Ge:List Stmt:=[.Assign [.Attribute (.Name "self" (pP 162 8 12)) "raw" (pP 162 8 16)] (.Name "ws" (pP 162 19 21)) (pP 162 8 21),.Assign [.Tuple [.Name "S" (pP 163 8 9),.Name "T" (pP 163 11 12)] 0 (pP 163 8 12)] (.Tuple [.Attribute (.Name "Whitespace" (pP 163 16 26)) "S" (pP 163 16 28),.Attribute (.Name "Whitespace" (pP 163 30 40)) "T" (pP 163 30 42)] 0 (pP 163 15 43)) (pP 163 8 43),.Assign [.Name "count" (pP 164 8 13)] (.List [] (pP 164 16 18)) (pP 164 8 18),.Assign [.Name "b" (pP 165 8 9),.Name "n" (pP 165 12 13),.Name "nt" (pP 165 16 18)] (.Constant (.int 0) 0 (pP 165 21 22)) (pP 165 8 22),.For (.Name "ch" (pP 166 12 14)) (.Attribute (.Name "self" (pP 166 18 22)) "raw" (pP 166 18 26)) tL [] ⟨166,8,178,21⟩,.Assign [.Attribute (.Name "self" (pP 179 8 12)) "n" (pP 179 8 14)] (.Name "n" (pP 179 17 18)) (pP 179 8 18),.Assign [.Attribute (.Name "self" (pP 180 8 12)) "nt" (pP 180 8 15)] (.Name "nt" (pP 180 18 20)) (pP 180 8 20),.Assign [.Attribute (.Name "self" (pP 181 8 12)) "norm" (pP 181 8 17)] (.Tuple [.Call (.Name "tuple" (pP 181 21 26)) [.Name "count" (pP 181 27 32)] [] (pP 181 21 33),.Name "b" (pP 181 35 36)] 0 (pP 181 20 37)) (pP 181 8 37),.Assign [.Attribute (.Name "self" (pP 182 8 12)) "is_simple" (pP 182 8 22)] (.Compare (.Call (.Name "len" (pP 182 25 28)) [.Name "count" (pP 182 29 34)] [] (pP 182 25 35)) [.LtE] [.Constant (.int 1) 0 (pP 182 39 40)] (pP 182 25 40)) (pP 182 8 40)]
noncomputable def yT:Scope:=⟨.function,[("self",.local),("ws",.local),("S",.local),("T",.local),("count",.local),("b",.local),("n",.local),("nt",.local),("ch",.local),("Whitespace",.globalImplicit),("len",.globalImplicit),("tuple",.globalImplicit)],false,false,[]⟩
noncomputable def JH:Fn:=⟨"Whitespace.__init__",⟨[],[⟨"self",none,(pP 161 17 21)⟩,⟨"ws",none,(pP 161 23 25)⟩],none,[],[],none,[]⟩,Ge,yT⟩
theorem Jl:T2.fn 213=some JH:=by kernel_rfl
theorem BY:T2.prim 213=none:=by kernel_rfl
noncomputable def Cd(r ρ b:Nat)(x:Int)(nt:Nat):cW:=[("nt",.sc (.int nt)),("n",.sc (.int x)),("b",.sc (.int b)),("count",.sc (.ref ρ)),("T",.sc (.str (SL [9]))),("S",.sc (.str (SL [32]))),("self",.sc (.ref r))]
def ge(k:Nat)(V V':aI):Prop:=V.length<=V'.length/\∀j o,j<k->V[j]?=some o->V'[j]?=some o
theorem ge.trans(x:ge k V V')(y:ge k V' V''):ge k V V'':=⟨Nat.le_trans x.1 y.1,λj o h e=>y.2 j o h (x.2 j o h e)⟩
theorem aB.toB(x:aB V V'):ge k V V':=⟨x.1,λj o _ e=>x.2 j o e⟩
theorem aX.toB(x:aX ρ V V')(h:k<=ρ):ge k V V':=⟨x.1,λj o hj e=>x.2 j o (ne_of_lt (lt_of_lt_of_le hj h)) e⟩
theorem ge.succ(x:ge (k+1) V V'):ge k V V':=⟨x.1,λj o h e=>x.2 j o (Nat.lt_succ_of_lt h) e⟩
section
variable {r:Nat}
theorem DU{b nt:Nat}{x:Int}{cnt:List Nat}{rr:List Stmt}{p0 p7 p8 p9 q0 q1 q2 q3 q4 q5 q6:Pos}(hB:∀j,r<j->B j)(hb:b<=200)(hc:cnt.length<=201)(hr:r<ρ)(c:Cx (Rm B ρ) V m (Cd r ρ b x nt))(o:V[ρ]?=some (.list (aq cnt))) (k:∀m' V' ρ',r<ρ'->ge (r+1) V V'->Cx (Rm B ρ') V' m' (Cd r ρ' b x nt)->V'[ρ']?=some (.list (aq (yj cnt b)))->Wp ((al T2 (n+10)).ss yT m' rr) V' S):Wp ((al T2 (n+10)).ss yT m (.If (.Compare (.Name "b" p0) [.GtE] [.Call (.Name "len" p1) [.Name "count" p2] [] p3] p4) [.Assign [.Name "count" p5] (.BinOp (.Name "count" p6) .Add (.BinOp (.List [.Constant (.int 0) j1 p7] p8) .Mult (.BinOp (.BinOp (.Name "b" p9) .Sub (.Call (.Name "len" q0) [.Name "count" q1] [] q2) q3) .Add (.Constant (.int 1) j2 q4) q5) q6) p0) p1] [] p2::rr)) V S:=by
 have lr:=bN o;have c0:=c;have c:=(c.frz (x:="count") (t:=.lst (aq cnt)) (λ_=>tp) rfl ⟨ρ,rfl,hB _ hr,o⟩);have hl:(aq cnt).length=cnt.length:=cS _;refine bR (a8 rfl (aa rfl rfl) (ax (f:=.blt "len") (λ_ _=>rfl) rfl (aa rfl rfl) fK) mq) c (λh V1 LQ c=>?_) λh V1 LQ c=>ak (ae ?_)
 ·have h:cnt.length<=b:=ofNat_le.mp (hl▸of_decide_eq_true h);have e:yj cnt b=cnt++List.replicate (b-cnt.length+1) 0:=if_pos h;refine fJ (λ_=>rfl) rfl (DS (ys:=List.replicate (b-cnt.length+1) (.int 0)) (aa rfl rfl) (JF.j (yo rfl an ((aA (aA (aa rfl rfl) (ax (f:=.blt "len") (λ_ _=>rfl) rfl (aa rfl rfl) fK) cI) an aN).to ?_) ?_)) ?_) c λm V2 ρ' LO hρ a o c=>ak (ae (k _ _ ρ' (lt_of_lt_of_le (lt_trans hr lr) (Nat.le_trans LQ.1 hρ)) (LQ.trans LO).toB (c.sub rfl) ?_))
  ·rw[hl,<-Int.ofNat_sub h];rfl
  ·exact Nat.le_trans (succ_le_succ (Nat.le_trans (sub_le ..) hb)) (by decide)
  ·rw[hl,List.length_replicate];exact Nat.le_trans (add_le_add hc (succ_le_succ (Nat.le_trans (sub_le ..) hb))) (by decide)
  ·rw[e,<-nI,<-xo];exact o
 ·have e:yj cnt b=cnt:=if_neg λh'=>of_decide_eq_false h (hl▸ofNat_le.mpr h');exact k _ _ ρ hr LQ.toB (c0.keep LQ) (by rw[e];exact LQ.2 _ _ o)
theorem IJ(hB:∀j,r<j->B j):∀(rest cnt:List Nat) (b nt ρ:Nat) (x:Int) (k:Nat) (m:Loc) (V:aI),rest.length<k->b+rest.length<=200->cnt.length<=201->r<ρ->Cx (Rm B ρ) V m (Cd r ρ b x nt)->V[ρ]?=some (.list (aq cnt))->(∀m' V' ρ',r<ρ'->ge (r+1) V V'->Cx (Rm B ρ') V' m' (Cd r ρ' (jK rest cnt b nt).2.1 (x+(gp rest:Nat)) (jK rest cnt b nt).2.2)->V'[ρ']?=some (.list (aq (jK rest cnt b nt).1))->S (.next,m') V')->Wp (jM T2 (al T2 (n+12)) yT (.Name "ch" p) tL [] k (.vals (rest.map λc=>.str (ca c))) m) V S:=by
 intro rest;induction rest with
 |nil=>
  intro cnt b nt ρ x k m V hk _ _ hr c o bn;cases k with
  |zero=>exact absurd hk (not_lt_zero _)
  |succ k=>have e:x+((gp []:Nat):Int)=x:=add_zero x;rw[e]at bn;exact jF rfl (ak (bn _ _ ρ hr ⟨le_refl _,λ_ _ _ e=>e⟩ c o))
 |cons ch rest ih=>
  intro cnt b nt ρ x k m V hk hb hc hr c o bn;cases k with
  |zero=>exact absurd hk (not_lt_zero _)
  |succ k=>
  have hk:=lt_of_succ_lt_succ hk;rw[length_cons]at hb;have hb':b<=200:=Nat.le_trans (le_add_right ..) hb;refine dZ (λ_=>rfl) rfl ?_;have c:=c.set (x:="ch") (t:=.sc (.str (SL [ch]))) (v:=.str (ca ch)) rfl;have one:∀y:Int,y+((gp rest+1:Nat):Int)=y+1+(gp rest:Nat):=λy=>by rw[Int.natCast_add,Int.add_comm ((gp rest:Nat):Int),<-Int.add_assoc];rfl
  unfold tL;refine bR (a8 rfl (aa rfl rfl) (aa rfl rfl) dD) c (λh V1 LQ c=>?_) λh V1 LQ c=>?_
  ·have h:ch=32:=(List.cons.inj (of_decide_eq_true h)).1;rw[jK,if_pos h,gp,if_pos h,one]at bn;refine aD (λ_=>rfl) rfl (aA (aa rfl rfl) an aN) c λm V2 LO c=>aD (t:=.sc (.int (b+1:Nat))) (λ_=>rfl) rfl (aA (aa rfl rfl) an aN) c λm V3 LN c=>ak (ae (ak (.inl ⟨.inl rfl,?_⟩)));have K:=(LQ.trans LO).trans LN;exact ih cnt (b+1) nt ρ (x+1) k _ _ hk (by rw[Nat.add_assoc,add_comm 1];exact hb) hc hr (c.sub rfl) (K.2 _ _ o) λm' V' ρ' h1 h2=>bn m' V' ρ' h1 (K.toB.trans h2)
  have h:¬ch=32:=λe=>of_decide_eq_false h (congrArg (λz=>[z]) e);rw[jK,if_neg h,gp,if_neg h]at bn;refine bR (a8 rfl (aa rfl rfl) (aa rfl rfl) dD) c (λh9 V2 LO c=>?_) λh9 V2 LO c=>?_
  ·have h9:ch=9:=(List.cons.inj (of_decide_eq_true h9)).1;rw[if_pos h9,if_pos h9,one]at bn;refine aD (λ_=>rfl) rfl (aA (aa rfl rfl) an aN) c λm V3 LN c=>aD (t:=.sc (.int (nt+1:Nat))) (λ_=>rfl) rfl (aA (aa rfl rfl) an aN) c λm V4 k₄ c=>?_;have K:=(LQ.trans LO).trans (LN.trans k₄);refine DU hB hb' hc hr (c.sub rfl) (K.2 _ _ o) λm V5 ρ' hr' LP c o=>?_;obtain⟨g1,g2⟩:=u3 cnt b;refine vm rfl rfl rfl rfl (v:=.int ((yj cnt b).getD b 0+1:Nat)) (uQ ((BI rfl rfl rfl o (de g1) (aa rfl rfl) c).mono λa V g=>(an (i:=1) (l:=[]) _ V _ (.nil (c.keep g.1).a)).mono λb' V' g'=>?_)) (aa rfl rfl) o (by rw[cS];exact g1) cT c λV6 LR o c=>?_
   ·obtain⟨k1,rfl⟩:=g;obtain⟨k2,rfl⟩:=g';exact .ok ⟨k1.trans k2,rfl⟩
   rw[xE]at o;refine aD (t:=.sc (.int (0:Nat))) (λ_=>rfl) rfl an c λm V7 LU c=>ak (ae (ak (ae (ak (.inl ⟨.inl rfl,?_⟩)))));refine ih _ 0 (nt+1) ρ' (x+1) k _ _ hk (by rw[zero_add];exact Nat.le_trans (Nat.le_trans (le_succ _) (le_add_left ..)) hb) (by rw[length_set];exact g2.elim (λh=>Nat.le_trans h (succ_le_succ hb')) λh=>h▸hc) hr' (c.sub rfl) (LU.2 _ _ o) λm' V' ρ'' h1 h2=>bn m' V' ρ'' h1 ((K.toB.trans LP).trans (((LR.toB hr').trans LU.toB).trans h2))
  ·have h9:¬ch=9:=λe=>of_decide_eq_false h9 (congrArg (λz=>[z]) e);rw[if_neg h9,if_neg h9]at bn;have e:x+((0:Nat):Int)=x:=add_zero x;rw[e]at bn;have K:=LQ.trans LO;exact ao (.eq (a:=(.brk,_)) rfl (fq (fq (.inr (.inr ⟨rfl,bn _ _ ρ hr K.toB (c.sub rfl) (K.2 _ _ o)⟩)))))
end
theorem CB{r:Nat}{l:List Nat}(hA:∀j,r<=j->A j)(hl:l.length<=200)(hr:V.length=r+1)(e:V[r]?=some (.inst 258 []))(q:∀V',qv A r l V'->V.length<=V'.length->(∀j o,j<r->V[j]?=some o->V'[j]?=some o)->Q .none V'):Wp ((al T2 (n+20)).call 213 [.ref r,.str (SL l)]) V Q:=by
 refine dF BY Jl rfl ?_;have hB:∀j,r<j->Rm A r j:=λj hj=>⟨hA j (Nat.le_of_lt hj),ne_of_gt hj⟩;have c:Cx (Rm A r) V _ [("ws",.sc (.str (SL l))),("self",.sc (.ref r))]:=((Cx.nil (m:=λ_=>none) λj hj=>hB j (lt_of_lt_of_le (by rw[hr];exact lt_succ_self r) hj)).set (x:="self") (t:=.sc (.ref r)) (v:=.ref r) rfl).set (x:="ws") (t:=.sc (.str (SL l))) (v:=.str (SL l)) rfl;generalize hS:(λ(fm:a9×Loc) (V':aI)=>∃v,lU fm.1=some v/\Q v V')=S;have q:∀m V',qv A r l V'->ge r V V'->S (.next,m) V':=λm V' w k=>hS▸⟨.none,rfl,q V' w k.1 k.2⟩;clear hS;refine(?_:Wp ((al T2 (n+19)).ss yT _ Ge) V S);unfold Ge;refine jq rfl rfl rfl rfl e cT (J.val (aa rfl rfl) c) c λv _ V1 hv _ LQ e c=>?_;subst hv;refine wB rfl (λ_=>rfl) (λ_=>rfl) rfl rfl (vG (v:=.str (SL [32])) (λ_ _=>rfl) λ_=>rfl) (vG (v:=.str (SL [9])) (λ_ _=>rfl) λ_=>rfl) c λm V2 LO c=>?_;refine fJ (λ_=>rfl) rfl dr c λm V3 ρ LN hρ _ o c=>?_;refine Em (λ_=>rfl) (λ_=>rfl) (λ_=>rfl) rfl (an (i:=0)) c λm V4 k₄ c=>?_;have lr:r<ρ:=lt_of_lt_of_le (lt_of_lt_of_le (by rw[hr];exact lt_succ_self r) (Nat.le_trans LQ.1 LO.1)) hρ;have K:=LQ.toB (le_refl r)|>.trans (((LO.trans LN).trans k₄).toB);have e:=((LO.trans LN).trans k₄).2 _ _ e;refine ao (nJ rfl (iF rfl ((aa rfl rfl _ _ _ c).mono λa V5 g=>?_)));obtain⟨LP,rfl⟩:=g;refine cC (LP.2 _ _ e) rfl rfl (Bk (IJ (n:=n+6) hB l [] 0 0 ρ 0 c7 m V5 (lt_of_le_of_lt hl (by decide)) (by rw[zero_add];exact hl) (zero_le _) lr ((c.keep LP).sub rfl) (LP.2 _ _ (k₄.2 _ _ o)) λm V6 ρ' hr' LR c o=>ae ?_));have e:=LR.2 _ _ (lt_succ_self r) (LP.2 _ _ e);have K:=(K.trans LP.toB).trans LR.succ;have c:=c.frz (x:="count") (t:=.lst (aq (jK l [] 0 0).1)) (λ_=>tp) rfl ⟨ρ',rfl,hB _ hr',o⟩;rw[Int.zero_add]at c;clear LQ LO LN k₄ LP LR o;refine jq rfl rfl rfl rfl e cT (J.val (aa rfl rfl) c) c λv _ V7 hv _ LU e c=>?_;subst hv;refine jq rfl rfl rfl rfl e cT (J.val (aa rfl rfl) c) c λv _ V8 hv _ k₈ e c=>?_;subst hv;refine jq (R:=λv V'=>∃t u,v=.ref t/\Rm A r t/\Rm A r u/\V'[t]?=some (.tup [.ref u,.int (jK l [] 0 0).2.1])/\V'[u]?=some (.tup (aq (jK l [] 0 0).1))) rfl rfl rfl rfl e cT (jC rfl rfl ((ax (n:=n+15) (f:=.typ "tuple") (λ_ _=>rfl) rfl (aa rfl rfl) yt _ _ _ c).mono λu1 V9 g=>(aa rfl rfl _ _ _ (c.keep g.1)).mono λu2 V' g'=>?_)) c λv V9 V10 hv k₉ k10 e c=>?_
 ·obtain⟨k1,u,rfl,au,eu⟩:=g;obtain⟨k2,rfl⟩:=g';exact⟨(k1.trans k2).trans (.new ..),_,u,rfl,((c.keep k1).keep k2).a _ (le_refl _),au,cD ..,bZ (k2.2 _ _ eu)⟩
 obtain⟨t,u,rfl,at_,au,et,eu⟩:=hv;refine jq rfl rfl rfl rfl e cT (J.val (zb rfl (ax (f:=.blt "len") (λ_ _=>rfl) rfl (aa rfl rfl) fK) an BN) c) c λv _ V11 hv _ k11 e c=>?_;subst hv;have k12:=k₉.trans k11;exact ak (q _ _ (.mk _ t u (hA _ (le_refl _)) at_.1 au.1 e rfl (k12.2 _ _ at_.2 et) (k12.2 _ _ au.2 eu) rfl rfl rfl ⟨rfl,rfl,rfl,trivial⟩) ((K.trans ((LU.trans k₈).toB (le_refl r))).trans ((k10.trans k11).toB (le_refl r))))
section
variable {y:Str}
theorem Ej{e5:Expr}{a b:PV}(hx:∀(m:Loc) v,aV sc m x v=some (m.set x v))(hy:∀(m:Loc) v,aV sc m y v=some (m.set y v))(hs:sliceOf e3=none)(h1:aE e1=true)(h2:aE e2=true)(h4:aE e4=true)(h5:aE e5=true)(ja:J n sc l e1 (.sc a))(jb:J n sc l e2 (.sc b))(ja':J n sc l e4 (.sc b))(jb':J n sc l e5 (.sc a))(ji:J (n+2) sc l e3 (.sc (.int i)))(hi:i<2)(c:Cx A V m l) (k:∀m' V',aB V V'->Cx A V' m' ((y,.sc (if i=0 then b else a))::(x,.sc (if i=0 then a else b))::l)->Wp ((al T2 (n+4)).ss sc m' r) V' S):Wp ((al T2 (n+4)).ss sc m (.Assign [.Tuple [.Name x p1,.Name y p2] j1 p3] (.Subscript (.List [.Tuple [e1,e2] j2 p4,.Tuple [e4,e5] j3 p5] p) e3 q) p'::r)) V S:=by
 refine ao (np rfl (hx m) (λ_=>hy _) rfl (oq hs (lE (aw rfl (jC h1 h2 ((ja A V m c).mono λv1 V1 g1=>(jb A V1 m (c.keep g1.1)).mono λv2 V2 g2=>?_))))));have K:=(g1.1.trans g2.1).trans (aB.new V2 (.tup [v1,v2]));refine aw rfl (jC h4 h5 ((ja' A _ m (c.keep K)).mono λv3 V3 g3=>(jb' A V3 m ((c.keep K).keep g3.1)).mono λv4 V4 g4=>?_));have K2:=(g3.1.trans g4.1).trans (aB.new V4 (.tup [v3,v4]));refine aO (Wp.must (b:=decide (2<=lim)) (g:=λ_=>fH (.list [.ref V2.length,.ref V4.length])) rfl (.eq rfl ?_));have K3:=aB.new (V4++[.tup [v3,v4]]) (.list [.ref V2.length,.ref V4.length]);refine(ji A _ m ((c.keep (K.trans K2)).keep K3)).mono λv5 V5 g5=>?_;obtain⟨k5,rfl⟩:=g5;have e1:=(K2.trans (K3.trans k5)).2 _ _ (cD V2 (.tup [v1,v2]));have e2:=(K3.trans k5).2 _ _ (cD V4 (.tup [v3,v4]));have K5:=(K.trans (K2.trans K3)).trans k5;have c:=c.keep K5;rcases(by decide:∀i,i<2->i=0∨i=1) i hi with rfl|rfl
 ·exact item_list (k5.2 _ _ (cD ..)) rfl ⟨_,_,_,rfl,e1,ae (k _ _ K5 ((c.set (t:=.sc a) g1.2).set (t:=.sc b) g2.2))⟩
 ·exact item_list (k5.2 _ _ (cD ..)) rfl ⟨_,_,_,rfl,e2,ae (k _ _ K5 ((c.set (t:=.sc b) g3.2).set (t:=.sc a) g4.2))⟩
theorem get_own{j:Nat}{u:PV}(hk:bq sc x=true)(hl:l.lookup x=some (.sc (.ref ρ)))(hs:sliceOf e1=none)(hs2:sliceOf e2=none)(O:dm V ρ rs vss)(ji:J (n+1) sc l e1 (.sc (.int i)))(hi:vss[i]?=some vs)(jj:J (n+2) sc l e2 (.sc (.int j)))(hj:vs[j]?=some u)(c:Cx A V m l):Wp ((al T2 (n+3)).e sc m (.Subscript (.Subscript (.Name x p) e1 q) e2 q')) V (G A V (.sc u)):=
 oq hs2 (oN hk hl hs O ji hi c λb V1 hb hm k1 O c hr=>(jj A V1 m c).mono λv2 V2 g=>by obtain⟨k2,rfl⟩:=g;exact item_list (k2.2 _ _ hr) hj ⟨k1.trans k2,rfl⟩)
theorem yn{f:PV}(hf:∀m V,bQ T2 sc m x V=some (f,V))(h1:aE e1=true)(h2:aE e2=true)(h3:aE e3=true)(ja:J (n+1) sc l e1 ta)(jb:J (n+1) sc l e2 tb)(c:Cx A V m l)(jc:∀V',aB V V'->Cx A V' m l->Wp ((al T2 (n+1)).e sc m e3) V' (G A V' tc))(h:Hw (n+1) f ta tb tc t):Wp ((al T2 (n+2)).e sc m (.Call (.Name x p') [e1,e2,e3] [] p)) V (G A V t):=
 dA rfl (dc (hf m V) (aw h1 ((ja A V m c).mono λa _ g=>aw h2 ((jb A _ m (c.keep g.1)).mono λb V2 g'=>aw h3 ((jc V2 (g.1.trans g'.1) (c.keep (g.1.trans g'.1))).mono λd V' g''=>aO (.after ((g.1.trans g'.1).trans g''.1) (h A V' a b d (c.keep ((g.1.trans g'.1).trans g''.1)).a (g.2.keep (g'.1.trans g''.1).toA) (g'.2.keep g''.1.toA) g''.2)))))))
end
noncomputable def v7:Expr:=(.BinOp (.List [.Constant (.int 0) 0 (pP 262 14 15)] (pP 262 13 16)) .Mult (.Call (.Name "len" (pP 262 19 22)) [.Name "spelled" (pP 262 23 30)] [] (pP 262 19 31)) (pP 262 13 31))
noncomputable def CL:List Expr:=[]
noncomputable def B9:Scope:=⟨.function,[(".0",.local),("word",.local),("len",.globalImplicit),("spelled",.free)],false,false,[]⟩
noncomputable def zv:List Stmt:=[.Assign [.Tuple [.Name "one" (pP 265 12 15),.Name "other" (pP 265 17 22)] 0 (pP 265 12 22)] (.Subscript (.List [.Tuple [.Subscript (.Name "spelled" (pP 265 27 34)) (.Name "u" (pP 265 35 36)) (pP 265 27 37),.Subscript (.Name "spelled" (pP 265 39 46)) (.Name "v" (pP 265 47 48)) (pP 265 39 49)] 0 (pP 265 26 50),.Tuple [.Subscript (.Name "spelled" (pP 265 53 60)) (.Name "v" (pP 265 61 62)) (pP 265 53 63),.Subscript (.Name "spelled" (pP 265 65 72)) (.Name "u" (pP 265 73 74)) (pP 265 65 75)] 0 (pP 265 52 76)] (pP 265 25 77)) (.BinOp (.BinOp (.Name "u" (pP 265 79 80)) .Add (.Name "v" (pP 265 83 84)) (pP 265 79 84)) .Mod (.Constant (.int 2) 0 (pP 265 88 89)) (pP 265 78 89)) (pP 265 25 90)) (pP 265 12 90),.Assign [.Subscript (.Subscript (.Name "table" (pP 266 12 17)) (.Name "u" (pP 266 18 19)) (pP 266 12 20)) (.Name "v" (pP 266 21 22)) (pP 266 12 23)] (.Call (.Name "_levenshtein_distance" (pP 266 26 47)) [.Name "one" (pP 266 48 51),.Name "other" (pP 266 53 58),.Name "whole" (pP 266 60 65)] [] (pP 266 26 66)) (pP 266 12 66),.Assign [.Subscript (.Subscript (.Name "table" (pP 267 12 17)) (.Name "v" (pP 267 18 19)) (pP 267 12 20)) (.Name "u" (pP 267 21 22)) (pP 267 12 23)] (.Call (.Name "_levenshtein_distance" (pP 267 26 47)) [.Name "other" (pP 267 48 53),.Name "one" (pP 267 55 58),.BinOp (.Subscript (.Subscript (.Name "table" (pP 267 60 65)) (.Name "u" (pP 267 66 67)) (pP 267 60 68)) (.Name "v" (pP 267 69 70)) (pP 267 60 71)) .Sub (.Constant (.int 1) 0 (pP 267 74 75)) (pP 267 60 75)] [] (pP 267 26 76)) (pP 267 12 76)]
noncomputable def AX:List Stmt:=[.For (.Name "v" (pP 264 12 13)) (.Call (.Name "range" (pP 264 17 22)) [.BinOp (.Name "u" (pP 264 23 24)) .Add (.Constant (.int 1) 0 (pP 264 27 28)) (pP 264 23 28)] [] (pP 264 17 29)) zv [] ⟨264,8,267,76⟩]
noncomputable def Hs:List Stmt:=[.Assign [.Name "table" (pP 262 4 9)] (.ListComp v7 [{target:=.Name "word" (pP 262 36 40),iter:=.Name "spelled" (pP 262 44 51),ifs:=CL,is_async:=0}] B9 (pP 262 12 52)) (pP 262 4 52),.For (.Name "u" (pP 263 8 9)) (.Call (.Name "range" (pP 263 13 18)) [.Call (.Name "len" (pP 263 19 22)) [.Name "spelled" (pP 263 23 30)] [] (pP 263 19 31)] [] (pP 263 13 32)) AX [] ⟨263,4,267,76⟩,.Return (some (.Name "table" (pP 268 11 16))) (pP 268 4 16)]
noncomputable def Iq:Scope:={kind:=.function,names:=[("spelled",.cell),("whole",.local),("table",.local),("u",.local),("v",.local),("one",.local),("other",.local),("range",.globalImplicit),("len",.globalImplicit),("_levenshtein_distance",.globalImplicit)],isGenerator:=false,isCoroutine:=false,more:=[("fast",.str "spelled"),("fast",.str "whole"),("fast",.str "word"),("fast",.str "table"),("fast",.str "u"),("fast",.str "v"),("fast",.str "one"),("fast",.str "other")]}
noncomputable def Kw:Fn:=⟨"_law_table",⟨[],[⟨"spelled",none,(pP 261 15 22)⟩,⟨"whole",none,(pP 261 24 29)⟩],none,[],[],none,[]⟩,Hs,Iq⟩
theorem HR:T2.fn 298=some Kw:=by kernel_rfl
theorem Ed:T2.prim 298=none:=by kernel_rfl
theorem FG:T2.cls 298=none:=by kernel_rfl
noncomputable def sF(i:Nat)(a b:List Nat):List Nat:=if i=0 then a else b
noncomputable def ui(ls:List (List Nat))(whole:Int)(u:Nat)(M:List (List Int))(v:Nat):List (List Int):=
 let a:=sF ((u+v)%2) (ls.getD u []) (ls.getD v [])
 let b:=sF ((u+v)%2) (ls.getD v []) (ls.getD u [])
 let M1:=putAt M u v (dJ a b whole)
 putAt M1 v u (dJ b a (gy M1 u v-1))
noncomputable def Bu(ls:List (List Nat))(whole:Int):List (List Int):=(List.range' 0 ls.length).foldl (λM u=>(List.range' 0 (u+1)).foldl (ui ls whole u) M) (ls.map λ_=>List.replicate ls.length 0)
theorem AP{a b:List Nat}:Tr.sc (if i=0 then .str (SL a)else .str (SL b))=.sc (.str (SL (sF i a b))):=by unfold sF;split<;>rfl
theorem E8{a b:List Nat}{P:List Nat->Prop}(ha:P a)(hb:P b):P (sF i a b):=by unfold sF;split<;>assumption
theorem vu{j:Nat}(hM:jL N M)(hi:i<N)(v:Int):(bV M).set i (((M.getD i []).map PV.int).set j (.int v))=bV (putAt M i j v):=by unfold putAt;rw[<-qB,map_set]
theorem jL.at(hM:jL N M)(hi:i<N):(bV M)[i]?=some ((M.getD i []).map .int):=by obtain⟨xs,e,e',_⟩:=hM.row hi;unfold bV;rw[List.getElem?_map,e,e'];rfl
theorem jL.len(hM:jL N M)(hi:i<N):((M.getD i []).map PV.int).length=N:=by obtain⟨xs,e,e',h⟩:=hM.row hi;rw[length_map,e',h]
theorem jL.get{j:Nat}(hM:jL N M)(hi:i<N)(hj:j<N):((M.getD i []).map PV.int)[j]?=some (.int (gy M i j)):=by obtain⟨xs,e,e',h⟩:=hM.row hi;unfold gy;rw[List.getElem?_map,e',List.getD_eq_getElem?_getD,List.getElem?_eq_getElem (h▸hj)];rfl
theorem gT{j:Nat}(h:j<ls.length):At (ls.map λl=>PV.str (SL l)) (j:Nat) (.str (SL (ls.getD j []))):=bg (by rw[List.getElem?_map,List.getD_eq_getElem?_getD,List.getElem?_eq_getElem h];rfl)
theorem yq(hl:ls.length<1000)(hw:∀w∈ls,fa w/\w.length<41):s8 (n+30) (.obj 298) (.lst (ls.map λl=>.str (SL l))) (.sc (.int whole)) (.mat (bV (Bu ls whole))):=pA FG Ed HR rfl λA V m c=>by
 change Cx A V m [("whole",.sc (.int whole)),("spelled",.lst (ls.map λl=>.str (SL l)))]at c;have hA:=c.a;have hN:(ls.map λl=>PV.str (SL l)).length=ls.length:=length_map ..;have hget:∀j,j<ls.length->ls.getD j []∈ls:=λj h=>by rw[List.getD_eq_getElem?_getD,List.getElem?_eq_getElem h];exact getElem_mem _
 refine(?_:Wp ((al T2 (n+29)).ss Iq m Hs) V _);unfold Hs;refine vy (vss:=bV (ls.map λ_=>List.replicate ls.length 0)) (λ_=>rfl) ?_ c λm V1 ρ rs LQ hρ O c=>?_
 ·have e:(ls.filter λ_=>true).map (λ_=>List.replicate ls.length (PV.int 0))=bV (ls.map λ_=>List.replicate ls.length 0):=by rw[eY,bV,map_map];exact map_congr_left λu _=>(map_replicate ..).symm
  rw[<-e];refine Fi (xs:=ls) (g:=λl=>.sc (.str (SL l))) (l':=[("spelled",.lst (ls.map λl=>.str (SL l)))]) rfl (by kernel_rfl) (aa rfl rfl) cO rfl (by(exact Nat.le_trans (by assumption) (le_add_left ..))) (by exact rfl) (λ_ _=>lW) (λw hw _=>?_) c;unfold v7;refine yo rfl an ?_ (by(exact Nat.le_of_lt (by assumption)));apply J.to
  ·exact ax (f:=.blt "len") (λ_ _=>rfl) rfl (aa rfl rfl) fK
  ·rw[hN]
 refine cB (ti:=.rng 0 ls.length 1) (g:=bu) (λM u=>(List.range' 0 (u+1)).foldl (ui ls whole u) M) (List.range' 0 ls.length) (λ_=>[("table",.sc (.ref ρ)),("whole",.sc (.int whole)),("spelled",.lst (ls.map λl=>.str (SL l)))]) (λ_ M V'=>dm V' ρ rs (bV M)/\bT rs V1 V'/\jL ls.length M) (ls.map λ_=>List.replicate ls.length 0) (λ_=>rfl) rfl ?_ (bE (a:=0) (b:=ls.length) rfl rfl (by decide) (by(exact Nat.le_trans (by assumption) (le_add_left ..)))) (by rw[length_range'];lia) c (λV' k c=>⟨c.sub rfl,O.keep k,k.toR,length_map ..,λxs hx=>?_⟩) ?_ ?_
 ·apply J.to
  ·exact ax (f:=.typ "range") (λ_ _=>rfl) rfl (ax (f:=.blt "len") (λ_ _=>rfl) rfl (aa rfl rfl) fK) bA
  ·rw[hN]
 ·obtain⟨_,_,rfl⟩:=mem_map.mp hx;exact List.length_replicate
 ·rintro u hu _ M m V2 _ c ⟨O,kr,hM⟩;have hu:u<ls.length:=zero_add ls.length▸(cj hu).2;unfold AX;refine cB (ti:=.rng 0 ((u:Int)+1) 1) (g:=bu) (ui ls whole u) (List.range' 0 (u+1)) (λ_=>[("u",bu u),("table",.sc (.ref ρ)),("whole",.sc (.int whole)),("spelled",.lst (ls.map λl=>.str (SL l)))]) (λ_ M V'=>dm V' ρ rs (bV M)/\bT rs V2 V'/\jL ls.length M) M (λ_=>rfl) rfl ?_ (bE (a:=0) (b:=u+1) rfl rfl (by decide) (by lia)) (by rw[length_range'];lia) c (λV' k c=>⟨c.sub rfl,O.keep k,k.toR,hM⟩) ?_ ?_
  ·exact ax (f:=.typ "range") (λ_ _=>rfl) rfl (aA (aa rfl rfl) an aN) bA
  ·rintro v hv _ M m V3 _ c ⟨O,kr,hM⟩;have hv:v<ls.length:=by have:=(cj hv).2;lia
   have hno:∀r∈rs,¬BQ A (ρ::rs) r:=λr h=>pv r (.tail _ h);unfold zv;refine Ej (i:=(u+v)%2) (λ_ _=>rfl) (λ_ _=>rfl) rfl rfl rfl rfl rfl (aG rfl (aa rfl rfl) (aa rfl rfl) (aS (gT hu))) (aG rfl (aa rfl rfl) (aa rfl rfl) (aS (gT hv))) (aG rfl (aa rfl rfl) (aa rfl rfl) (aS (gT hv))) (aG rfl (aa rfl rfl) (aa rfl rfl) (aS (gT hu))) ?_ (Nat.mod_lt _ (by decide)) c λm V4 k₄ c=>?_
   ·rw[show(((u+v)%2:Nat):Int)=Int.fmod ((u:Int)+v) 2 from ofNat_fmod (u+v) 2];exact aA (aA (aa rfl rfl) (aa rfl rfl) aN) an (du rfl)
   rw[AP,AP]at c;obtain⟨l1,n1⟩:=E8 (i:=(u+v)%2) (P:=λw=>fa w/\w.length<41) (hw _ (hget u hu)) (hw _ (hget v hv));obtain⟨l2,n2⟩:=E8 (i:=(u+v)%2) (P:=λw=>fa w/\w.length<41) (hw _ (hget v hv)) (hw _ (hget u hu));have O:=O.keep k₄;refine uU (n:=n+24) (v:=dJ (sF ((u+v)%2) (ls.getD u []) (ls.getD v [])) (sF ((u+v)%2) (ls.getD v []) (ls.getD u [])) whole) rfl rfl rfl rfl rfl O (aa rfl rfl) (hM.at hu) (aa rfl rfl) (by rw[hM.len hu];exact hv) (lc (f:=.obj 35) (λ_ _=>rfl) rfl rfl rfl (aa rfl rfl) (aa rfl rfl) (aa rfl rfl) (za (n:=n+7) l1 l2 n1 n2) _ _ _ c) c hno λV5 LP O c=>?_;rw[vu hM hu]at O;have hM:=hM.put (j:=v) hu (dJ (sF ((u+v)%2) (ls.getD u []) (ls.getD v [])) (sF ((u+v)%2) (ls.getD v []) (ls.getD u [])) whole);refine uU (n:=n+24) (v:=dJ (sF ((u+v)%2) (ls.getD v []) (ls.getD u [])) (sF ((u+v)%2) (ls.getD u []) (ls.getD v [])) (gy (putAt M u v (dJ (sF ((u+v)%2) (ls.getD u []) (ls.getD v [])) (sF ((u+v)%2) (ls.getD v []) (ls.getD u [])) whole)) u v-1)) rfl rfl rfl rfl rfl O (aa rfl rfl) (hM.at hv) (aa rfl rfl) (by rw[hM.len hv];exact hu) (yn (f:=.obj 35) (tc:=.sc (.int (gy _ u v-1))) (λ_ _=>rfl) rfl rfl rfl (aa rfl rfl) (aa rfl rfl) c (λV' k c=>uQ ((get_own (n:=n+21) rfl rfl rfl rfl (O.keep k) (aa rfl rfl) (hM.at hu) (aa rfl rfl) (hM.get hu hv) c).mono λa V6 g=>?_)) (za (n:=n+7) l2 l1 n2 n1)) c hno λV6 LR O c=>?_
   ·obtain⟨k6,rfl⟩:=g;exact(an (n:=n+23) (p:=⟨267,74,267,75⟩) (j:=0) _ V6 m (c.keep k6)).mono λb V7 g=>by obtain⟨k7,rfl⟩:=g;exact .ok ⟨k6.trans k7,rfl⟩
   rw[vu hM hv]at O;have R:=(k₄.toR.trans LP).trans LR;exact ak ⟨R.toA hno,.inl rfl,c.sub rfl,O,kr.trans R,hM.put hv _⟩
  ·rintro m V3 c ⟨O,kr',hM⟩;exact ak ⟨kr'.toA λr h=>pv r (.tail _ h),.inl rfl,c.sub rfl,O,kr.trans kr',hM⟩
 ·rintro m V2 c ⟨O,kr,_⟩;refine bI (aa rfl rfl) (c.frz (x:="table") (t:=.mat (bV (Bu ls whole))) (λ_=>EY) rfl (wk O λr hr=>hA _ (hρ r hr))) λv V5 LP r=>cN ((kr.keep LQ λr hr=>hρ r (.tail _ hr)).trans LP) r
noncomputable def He:List Stmt:=[.Assign [.Tuple [.Name "count" (pP 185 8 13),.Name "trailing" (pP 185 15 23)] 0 (pP 185 8 23)] (.Attribute (.Name "self" (pP 185 26 30)) "norm" (pP 185 26 35)) (pP 185 8 35),.Return (some (.Call (.Name "max" (pP 186 15 18)) [.BinOp (.Call (.Name "len" (pP 186 19 22)) [.Name "count" (pP 186 23 28)] [] (pP 186 19 29)) .Sub (.Constant (.int 1) 0 (pP 186 32 33)) (pP 186 19 33),.Name "trailing" (pP 186 35 43)] [] (pP 186 15 44))) (pP 186 8 44)]
noncomputable def IW:Scope:=⟨.function,[("self",.local),("count",.local),("trailing",.local),("max",.globalImplicit),("len",.globalImplicit)],false,false,[]⟩
noncomputable def JN:Fn:=⟨"Whitespace.longest_run_of_spaces",⟨[],[⟨"self",none,(pP 184 30 34)⟩],none,[],[],none,[]⟩,He,IW⟩
noncomputable def Gq:List Stmt:=[.If (.Compare (.Call (.Attribute (.Name "self" (pP 208 15 19)) "indent_level" (pP 208 15 32)) [.Name "ts" (pP 208 33 35)] [] (pP 208 15 36)) [.GtE] [.Call (.Attribute (.Name "other" (pP 208 40 45)) "indent_level" (pP 208 40 58)) [.Name "ts" (pP 208 59 61)] [] (pP 208 40 62)] (pP 208 15 62)) [.Return (some (.Constant (.bool false) 0 (pP 209 23 28))) (pP 209 16 28)] [] ⟨208,12,209,28⟩]
noncomputable def F1:List Stmt:=[.If (.Compare (.Attribute (.Name "self" (pP 202 11 15)) "n" (pP 202 11 17)) [.GtE] [.Attribute (.Name "other" (pP 202 21 26)) "n" (pP 202 21 28)] (pP 202 11 28)) [.Return (some (.Constant (.bool false) 0 (pP 203 19 24))) (pP 203 12 24)] [] ⟨202,8,203,24⟩,.If (.BoolOp .And [.Attribute (.Name "self" (pP 204 11 15)) "is_simple" (pP 204 11 25),.Attribute (.Name "other" (pP 204 30 35)) "is_simple" (pP 204 30 45)] (pP 204 11 45)) [.Return (some (.Compare (.Attribute (.Name "self" (pP 205 19 23)) "nt" (pP 205 19 26)) [.LtE] [.Attribute (.Name "other" (pP 205 30 35)) "nt" (pP 205 30 38)] (pP 205 19 38))) (pP 205 12 38)] [] ⟨204,8,205,38⟩,.Assign [.Name "n" (pP 206 8 9)] (.BinOp (.Call (.Name "max" (pP 206 12 15)) [.Call (.Attribute (.Name "self" (pP 206 16 20)) "longest_run_of_spaces" (pP 206 16 42)) [] [] (pP 206 16 44),.Call (.Attribute (.Name "other" (pP 206 46 51)) "longest_run_of_spaces" (pP 206 46 73)) [] [] (pP 206 46 75)] [] (pP 206 12 76)) .Add (.Constant (.int 1) 0 (pP 206 79 80)) (pP 206 12 80)) (pP 206 8 80),.For (.Name "ts" (pP 207 12 14)) (.Call (.Name "range" (pP 207 18 23)) [.Constant (.int 2) 0 (pP 207 24 25),.BinOp (.Name "n" (pP 207 27 28)) .Add (.Constant (.int 1) 0 (pP 207 31 32)) (pP 207 27 32)] [] (pP 207 18 33)) Gq [] ⟨207,8,209,28⟩,.Return (some (.Constant (.bool true) 0 (pP 210 15 19))) (pP 210 8 19)]
noncomputable def Ca:Scope:=⟨.function,[("self",.local),("other",.local),("n",.local),("ts",.local),("max",.globalImplicit),("range",.globalImplicit)],false,false,[]⟩
noncomputable def Kg:Fn:=⟨"Whitespace.less",⟨[],[⟨"self",none,(pP 201 13 17)⟩,⟨"other",none,(pP 201 19 24)⟩],none,[],[],none,[]⟩,F1,Ca⟩
theorem Ig:T2.fn 220=some JN:=by kernel_rfl
theorem Dg:T2.prim 220=none:=by kernel_rfl
theorem FJ:T2.cls 220=none:=by kernel_rfl
theorem Fx:T2.cls 227=none:=by kernel_rfl
theorem I9:T2.fn 248=some Kg:=by kernel_rfl
theorem EA:T2.prim 248=none:=by kernel_rfl
theorem Hp:T2.cls 248=none:=by kernel_rfl
theorem sn:iJ.meth "longest_run_of_spaces"=some 220:=by kernel_rfl
theorem qI:iJ.meth "less"=some 248:=by kernel_rfl
noncomputable def nx(l:List Nat):List Nat:=(jK l [] 0 0).1
noncomputable def zq(l:List Nat):Nat:=(jK l [] 0 0).2.1
noncomputable def H3(l:List Nat):Nat:=(jK l [] 0 0).2.2
noncomputable def Js(l:List Nat):Bool:=decide (((aq (nx l)).length:Int)<=1)
section
variable {y:Str}{w:List Nat}
def IA(w:List Nat)(x:Str)(v:PV):Prop:=∀(A:Nat->Prop) (r:Nat) (V:aI),qv A r w V->∃fs,V[r]?=some (.inst 258 fs)/\(attrOk x&&(T2.cls 258).isSome)=true/\(fs.lookup x).bind eO=some v
theorem B7:IA w "n" (.int (gp w:Nat)):=λ_ _ _ h=>by cases h with|mk fs t u _ _ _ e _ _ _ _ hN _ _=>exact⟨fs,e,by kernel_rfl,by rw[show(List.lookup ("n":Str) fs)=_ from hN];rfl⟩
theorem Aw:IA w "nt" (.int (H3 w:Nat)):=λ_ _ _ h=>by cases h with|mk fs t u _ _ _ e _ _ _ hnt _ _ _=>exact⟨fs,e,by kernel_rfl,by rw[show(List.lookup ("nt":Str) fs)=_ from hnt];rfl⟩
theorem yY:IA w "is_simple" (.bool (Js w)):=λ_ _ _ h=>by cases h with|mk fs t u _ _ _ e _ _ _ _ _ hs _=>exact⟨fs,e,by kernel_rfl,by rw[show(List.lookup ("is_simple":Str) fs)=_ from hs];rfl⟩
theorem kf(ho:aH e=true)(j:J n sc l e (.ws w))(h:IA w x v):J (n+1) sc l (.Attribute e x p) (.sc v):=λA V m c=>iF ho ((j A V m c).mono λa V' g=>by obtain⟨k,r,rfl,hw⟩:=g;obtain⟨fs,h1,h2,h3⟩:=h A r V' hw;exact cC h1 h2 h3 ⟨k,rfl⟩)
theorem yU(ho:aH e=true)(j:J n sc l e (.ws w))(h:IA w x (.bool b)):JB (n+2) sc l (.Attribute e x p) b:=lf (λ_=>rfl) (kf ho j h)
theorem AS{a:Addr}(hx:∀fs:List (Str×PV),m1 (λx=>fs.lookup x=none) [Str.ofString "indent_level",Str.ofString "longest_run_of_spaces",Str.ofString "less"]->fs.lookup x=none)(hm:iJ.meth x=some a):Me (.ws w) x (.obj a):=λA V b h=>by
 obtain⟨r,rfl,hw⟩:=h;cases hw with|mk fs t u _ _ _ e _ _ _ _ _ _ hi=>
 obtain⟨v,V',e,rfl,rfl⟩:=dG (T:=T2) (Q:=λv V'=>v=.obj a/\V'=V) e (by rw[hx fs hi];rfl) nv hm ⟨rfl,rfl⟩;exact e
theorem zr:Me (.ws w) "indent_level" (.obj 227):=AS (λ_ h=>h.1) ul
theorem wq:Me (.ws w) "longest_run_of_spaces" (.obj 220):=AS (λ_ h=>h.2.1) sn
theorem Di:Me (.ws w) "less" (.obj 248):=AS (λ_ h=>h.2.2.1) qI
theorem wH(hx:∀(m:Loc) v,aV sc m x v=some (m.set x v))(hy:∀(m:Loc) v,aV sc m y v=some (m.set y v))(ho:aH e=true)(j:J n sc l e (.ws w))(c:Cx A V m l)(k:∀m' V',aB V V'->Cx A V' m' ((y,.sc (.int (zq w:Nat)))::(x,.tup (aq (nx w)))::l)->Wp ((al T2 (n+2)).ss sc m' r) V' S):Wp ((al T2 (n+2)).ss sc m (.Assign [.Tuple [.Name x p1,.Name y p2] j1 p3] (.Attribute e "norm" p) p'::r)) V S:=by
 refine ao (np rfl (hx m) (λ_=>hy _) rfl (iF ho ((j A V m c).mono λa V' g=>?_)));obtain⟨k1,r',rfl,hw⟩:=g;cases hw with|mk fs t u ar a1 a2 e hn ht hu hnt hN hs hi=>
 exact cC e (by kernel_rfl) (by rw[show(List.lookup ("norm":Str) fs)=_ from hn];rfl) ⟨t,_,_,rfl,ht,ae (k _ V' k1 (((c.keep k1).set (t:=.tup (aq (nx w))) ⟨u,rfl,a2,hu⟩).set rfl))⟩
end
noncomputable def bY(w:List Nat):Int:=if((aq (nx w)).length:Int)-1<(zq w:Nat)then(zq w:Nat)else((aq (nx w)).length:Int)-1
theorem vr{w:List Nat}:m5 (n+20) (.obj 220) (.ws w) (.sc (.int (bY w))):=l9 FJ Dg Ig rfl λA V m c=>by change Cx A V m [("self",.ws w)]at c;refine(?_:Wp ((al T2 (n+19)).ss IW m He) V _);unfold He;refine wH (λ_ _=>rfl) (λ_ _=>rfl) rfl (aa rfl rfl) c λm V1 LQ c=>?_;refine bI ?_ c λv V3 LN r=>cN (LQ.trans LN) r;unfold bY;exact cn (f:=.blt "max") (λ_ _=>rfl) rfl rfl (aA (ax (f:=.blt "len") (λ_ _=>rfl) rfl (aa rfl rfl) wG) an cI) (aa rfl rfl) Bs
noncomputable def JG(cnt:List Nat)(w:Nat):Nat:=(List.range' w (cnt.length-w)).foldl (λil i=>il+i/w*cnt.getD i 0) 0
noncomputable def xP(l:List Nat)(w:Nat):Nat:=zq l+w*(JG (nx l) w+H3 l)
theorem yD{l:List Nat}(hw:w≠0)(hw':w<1000)(hc:(nx l).length<1000):s8 (n+20) (.obj 227) (.ws l) (.sc (.int w)) (.sc (.int (xP l w:Nat))):=pA Fx CJ I8 rfl λA V m c=>by
 change Cx A V m [("tabsize",bu w),("self",.ws l)]at c;refine(?_:Wp ((al T2 (n+19)).ss IF m Go) V _);unfold Go;have hN:=cS (nx l);refine wH (λ_ _=>rfl) (λ_ _=>rfl) rfl (aa rfl rfl) c λm V1 LQ c=>?_;refine aD (t:=bu 0) (λ_=>rfl) rfl an c λm V2 LO c=>?_;refine cB (ti:=.rng w (nx l).length 1) (g:=bu) (λil i=>il+i/w*(nx l).getD i 0) (List.range' w ((nx l).length-w)) (λil=>[("il",bu il),("trailing",bu (zq l)),("count",.tup (aq (nx l))),("tabsize",bu w),("self",.ws l)]) (λ_ _ V'=>aB V V') 0 (λ_=>rfl) rfl ?_ (bE rfl rfl (lt_trans (show w<1000 from hw') (by decide)) (lt_trans hc (by decide))) (iV (lt_trans hc (by decide))) c (λV' k c=>⟨c.sub rfl,(LQ.trans LO).trans k⟩) ?_ ?_
 ·apply J.to
  ·exact cn (f:=.typ "range") (λ_ _=>rfl) rfl rfl (aa rfl rfl) (ax (f:=.blt "len") (λ_ _=>rfl) rfl (aa rfl rfl) wG) df
  ·rw[hN]
 ·intro i hi _ il m V3 _ c k;have hi:=(gZ hi).2;unfold zZ;refine aD (t:=bu (il+i/w*(nx l).getD i 0)) (λ_=>rfl) rfl ?_ c λm V4 k₄ c=>ak ⟨k₄.toA,.inl rfl,c.sub rfl,k.trans k₄⟩;refine J.to (t':=.sc (.int ((il:Int)+Int.fdiv i w*((nx l).getD i 0:Nat)))) (aA (aa rfl rfl) (aA (aA (aa rfl rfl) (aa rfl rfl) (eW (decide_eq_true ⟨λe=>hw (Int.ofNat_inj.mp e),lt_trans (show w<1000 from hw') (by decide)⟩))) (aG rfl (aa rfl rfl) (aa rfl rfl) (gV (bg (de hi)))) (c6 ?_)) aN) (by rw[<-ofNat_fdiv];rfl);rw[<-ofNat_fdiv];exact decide_eq_true (lt_of_le_of_lt (Nat.div_le_self ..) (lt_trans hi (lt_trans hc (by decide))))
 ·intro m V3 c k;refine bI (aA (aa rfl rfl) (aA (aa rfl rfl) (aA (aa rfl rfl) (kf rfl (aa rfl rfl) Aw) aN) (c6 (decide_eq_true (lt_trans (show w<1000 from hw') (by decide))))) aN) c λv V4 k₄ r=>cN (k.trans k₄) r
theorem Cx.skip(c:Cx A V m ((x,t)::l))(h:l.lookup x=none):Cx A V m l:=⟨c.a,λy u e=>c.e y u (by rw[lookup_cons,beq_eq_false_iff_ne.mpr λq=>by rw[q,h]at e;cases e];exact e)⟩
theorem GQ{α:Type}{j:Nat}{g:α->Tr}{q:α->Bool}(xs:List α)(hx:fk sc x)(hp:aY e=true)(hl:l.lookup x=none)(ji:J (n+3) sc l e ti)(hi:da ti (xs.map g))(hn:xs.length<4000)(c:Cx A V m l) (h:∀a∈xs,JB (n+2) sc ((x,g a)::l) e1 (q a))(k1:xs.any q=true->∀m V',aB V V'->S (.ret (.bool b),m) V')(k2:xs.any q=false->∀m V',aB V V'->Wp ((al T2 (n+4)).ss sc m r) V' S):Wp ((al T2 (n+4)).ss sc m (.For (.Name x p) e [.If e1 [.Return (some (.Constant (.bool b) j p1)) p2] [] p3] [] p'::r)) V S:=by
 refine ao (nJ hp ((ji A V m c).mono λv V1 g1=>(hi A V1 v g1.2).mono λit V2 h'=>?_));obtain⟨rfl,hs⟩:=h';have go:∀(ys:List α) (it:It) (k:Nat) (m:Loc) (V':aI),(∀a∈ys,a∈xs)->ys.any q=xs.any q->ys.length<k->sq A V' it (ys.map g)->aB V V'->Cx A V' m l->Wp (jM T2 (al T2 (n+3)) sc (.Name x p) [.If e1 [.Return (some (.Constant (.bool b) j p1)) p2] [] p3] [] k it m) V' (mE T2 (n+3) sc r S):=by
  intro ys;induction ys with
  |nil=>
   intro it k m V' _ hq hk hs kk c;cases k with
   |zero=>exact absurd hk (not_lt_zero _)
   |succ k=>exact jF hs.nil (ak (ae (k2 hq.symm _ _ kk)))
  |cons a ys ih=>
   intro it k m V' hm hq hk hs kk c;cases k with
   |zero=>exact absurd hk (not_lt_zero _)
   |succ k=>
   obtain⟨v,it',en,hv,hs'⟩:=hs.cons;refine dZ hx en (bR (h a (hm a (.head _))) (c.set hv) (λha V'' k' c=>?_) λha V'' k' c=>?_)
   ·refine ao (EZ (Wp.ok (cA (cA (.inr (.inl ⟨_,rfl,cA (k1 ?_ _ _ (kk.trans k'))⟩))))));rw[<-hq,List.any_cons,ha];rfl
   ·refine ak (ae (ak (.inl ⟨.inl rfl,ih it' k _ V'' (λb hb=>hm b (.tail _ hb)) ?_ (lt_of_succ_lt_succ hk) (hs'.keep k'.toA) (kk.trans k') (c.skip hl)⟩)));rw[<-hq,List.any_cons,ha];rfl
 exact go xs it c7 m _ (λ_ h=>h) rfl hn hs g1.1 (c.keep g1.1)
noncomputable def dq(a b:List Nat):Bool:=
 if(gp b:Int)<=(gp a:Nat)then false
 else if(Js a&&Js b)=true then decide ((H3 a:Int)<=(H3 b:Nat))
 else !(List.range' 2 (((if bY a<bY b then bY b else bY a)+1+1).toNat-2)).any λts=>decide ((xP b ts:Int)<=(xP a ts:Nat))
theorem Do{a b:List Nat}(ha:(nx a).length<100/\zq a<100)(hb:(nx b).length<100/\zq b<100):s8 (n+40) (.obj 248) (.ws a) (.ws b) (.sc (.bool (dq a b))):=pA Hp EA I9 rfl λA V m c=>by
 change Cx A V m [("other",.ws b),("self",.ws a)]at c;refine(?_:Wp ((al T2 (n+39)).ss Ca m F1) V _);unfold F1 dq;have js {k:Nat} {p:Pos} {l:cW} (h:l.lookup ("self":Str)=some (.ws a)):J (k+1) Ca l (.Name "self" p) (.ws a):=aa rfl h;have jo {k:Nat} {p:Pos} {l:cW} (h:l.lookup ("other":Str)=some (.ws b)):J (k+1) Ca l (.Name "other" p) (.ws b):=aa rfl h;refine bR (a8 rfl (kf rfl (js rfl) B7) (kf rfl (jo rfl) B7) mq) c (λh V1 LQ c=>?_) λh V1 LQ c=>?_
 ·rw[if_pos (of_decide_eq_true h)];exact bI uk c λv V2 LO r=>cA (cN (LQ.trans LO) r)
 rw[if_neg (of_decide_eq_false h)];refine ak (ae (bR (o3 (yU rfl (js rfl) yY) (yU rfl (jo rfl) yY)) c (λh V2 LO c=>?_) λh V2 LO c=>?_))
 ·rw[if_pos h];exact bI (zb rfl (kf rfl (js rfl) Aw) (kf rfl (jo rfl) Aw) BN) c λv V3 LN r=>cA (cN ((LQ.trans LO).trans LN) r)
 rw[if_neg (by rw[h];exact Bool.false_ne_true)];refine ak (ae (aD (t:=.sc (.int ((if bY a<bY b then bY b else bY a)+1))) (λ_=>rfl) rfl ?_ c λm V3 LN c=>?_))
 ·exact aA (cn (x:="max") (f:=.blt "max") (λ_ _=>rfl) rfl rfl (gX rfl (js rfl) wq vr) (gX rfl (jo rfl) wq vr) Bs) an aN
 have hlong:∀w,(nx w).length<100/\zq w<100->0<=bY w/\bY w<100:=λw h=>by unfold bY;rw[cS];split<;>lia
 have h1:=hlong a ha;have h2:=hlong b hb;have hM:0<=(if bY a<bY b then bY b else bY a)/\(if bY a<bY b then bY b else bY a)<100:=by split<;>assumption
 generalize (if bY a<bY b then bY b else bY a)=M at c hM⊢;obtain⟨M,rfl⟩:=Int.eq_ofNat_of_zero_le hM.1;have hM:=Nat.add_lt_add_right (ofNat_lt.mp hM.2) 2;rw[show((M:Int)+1+1).toNat=M+2 from rfl];have K:=(LQ.trans LO).trans LN;refine GQ (ti:=.rng 2 (M+1+1) 1) (g:=bu) (q:=λts=>decide ((xP b ts:Int)<=(xP a ts:Nat))) (List.range' 2 (M+2-2)) (λ_=>rfl) rfl rfl ?_ (bE (a:=2) (b:=M+2) rfl rfl (by decide) (lt_trans hM (by decide))) (iV (lt_trans hM (by decide))) c (λts ht=>?_) (λh m V4 k₄=>?_) λh m V4 k₄=>?_
 ·exact cn (f:=.typ "range") (λ_ _=>rfl) rfl rfl an (aA (aa rfl rfl) an aN) df
 ·have ht:=gZ ht;have t0:ts≠0:=ne_of_gt (lt_of_lt_of_le (by decide) ht.1);have t1:ts<1000:=lt_trans ht.2 (lt_trans hM (by decide));exact a8 rfl (gR rfl rfl rfl (js rfl) (aa rfl rfl) zr (yD t0 t1 (lt_trans ha.1 (by decide)))) (gR rfl rfl rfl (jo rfl) (aa rfl rfl) zr (yD t0 t1 (lt_trans hb.1 (by decide)))) mq
 ·rw[h];exact cN (K.trans k₄) rfl
 ·rw[h];exact bI uk (l:=[]) (.nil λj hj=>c.a j (Nat.le_trans k₄.1 hj)) λv V5 LP r=>cN ((K.trans k₄).trans LP) r
theorem rZ{l:List Nat}(hl:l.length<=200):m5 (n+20) (.obj 258) (.sc (.str (SL l))) (.ws l):=λA V v hA r=>by obtain rfl:v=.str (SL l):=r;refine vw nv rE su (CB (A:=A) hA hl (by rw[List.length_append];rfl) (cD ..) λV' w k k'=>⟨rfl,⟨by rw[List.length_append]at k;exact Nat.le_of_succ_le k,λj o e=>k' j o (bN e) (bZ e)⟩,_,rfl,w⟩)
noncomputable def ko(ps:List cv):List (Str×Str):=ps.map λp=>(SL p.1,SL p.2)
noncomputable def gk(ps:List cv):Nat:=(ps.map λp=>p.1.length+p.2.length).sum
noncomputable def be(ps:List cv):List Nat:=(ps.map λp=>p.1++p.2).flatten
noncomputable def t9:x7:=(T2.cls 192).getD ⟨none,λ_=>none,λ_=>none,false⟩
theorem nE:T2.cls 192=some t9:=by kernel_rfl
def Short(ps:List cv):Prop:=ps.length<=100/\∀p∈ps,p.1.length<=10/\p.2.length<=10
def AM(x:Str)(p:List PV->Mo PV):Prop:=∃a,t9.meth x=some a/\T2.prim a=some p/\T2.cls a=none/\(T2.fn a).isSome=true/\(CA.lookup x).isNone=true
theorem uY:AM "push" (nr aR):=⟨136,by kernel_rfl,by kernel_rfl,by kernel_rfl,by kernel_rfl,by kernel_rfl⟩
theorem sB:AM "pop" (zB aR):=⟨152,by kernel_rfl,by kernel_rfl,by kernel_rfl,by kernel_rfl,by kernel_rfl⟩
theorem sx:AM "pop_from" (gJ aR):=⟨144,by kernel_rfl,by kernel_rfl,by kernel_rfl,by kernel_rfl,by kernel_rfl⟩
theorem rk:AM "reset" (iI aR):=⟨174,by kernel_rfl,by kernel_rfl,by kernel_rfl,by kernel_rfl,by kernel_rfl⟩
theorem xH:AM "is_onlyws" (jw aR):=⟨181,by kernel_rfl,by kernel_rfl,by kernel_rfl,by kernel_rfl,by kernel_rfl⟩
theorem Ay:AM "part_count" (gv aR):=⟨189,by kernel_rfl,by kernel_rfl,by kernel_rfl,by kernel_rfl,by kernel_rfl⟩
section
variable {xs:List PV}
theorem pairs_at(h:bo (λv p=>bH A V (.tup (m9 p)) v) xs ps):fz V xs=some (ko ps):=by
 induction h with
 |nil=>rfl
 |cons x _ ih=>obtain⟨r,rfl,_,h⟩:=x;refine(?_:((V[r]?).bind asPair).bind _=_);rw[h,ih];rfl
theorem pk(k:aB V V')(h:aU B c ps V):aU B c ps V':=h.mono (λi o a e=>⟨a,k.2 _ _ e⟩) λ_ e=>k.2 _ _ e
theorem oT{xs:List PV}(e:V[c]?=some (.acc 192 CA ys))(o:PO)(h:bo (λv p=>bH B V (.tup (m9 p)) v) xs ps):bo (λv p=>bH B (V.set c o) (.tup (m9 p)) v) xs ps:=
 h.mono λ_ _ ⟨r,e1,a,e2⟩=>⟨r,e1,a,eQ e2 λq=>by rw[q,e2]at e;cases e⟩
theorem dM{α:Type}{R:α->aI->Prop}{g:Addr×List (Str×PV)×List PV->Mo α}(e:V[c]?=some (.acc 192 CA xs))(h:Wp (g (192,CA,xs)) V R):Wp (bd (c3 aR c) g) V R:=
 Wp.bd (Wp.getO e (Wp.must (by kernel_rfl) (.ok h)))
theorem j7{o o':PO}(e:V[c]?=some o)(h:R v (V.set c o')):Wp (bd (ek c o') λ_=>ok v) V R:=by refine Wp.bd (.eq (a:=()) ?_ (.ok h));unfold ek;rw[if_pos (bN e)]
theorem vW{a b:List Nat}(hB:∀j,V.length<=j->B j)(h:aU B c ps V)(hl:ps.length<=100)(q:∀V',aX c V V'->aU B c (ps++[(a,b)]) V'->Q .none V'):Wp (nr aR [.ref c,.str (SL a),.str (SL b)]) V Q:=by
 obtain⟨xs,e,r⟩:=h;refine dM e (Wp.must (by rw[decide_eq_true (by rw[r.length];(exact Nat.le_trans (by assumption) (le_add_left ..)))];rfl) (Wp.bd (.eq rfl (j7 (bZ e) (q _ ⟨?_,?_⟩ ⟨_,cg (bZ e),?_⟩)))))
 ·rw[length_set,List.length_append];exact le_add_right ..
 ·exact λj o hj e=>eQ (bZ e) (Ne.symm hj)
 ·exact oT (bZ e) _ ((r.mono λ_ _ h=>h.mono λi o a e=>⟨a,bZ e⟩).append (.one ⟨V.length,rfl,hB _ (le_refl _),cD ..⟩))
noncomputable def cX(ps:List cv):cv:=ps.getLast?.getD ([],[])
theorem m8{α β:Type}{R:α->β->Prop}{as:List α}{bs:List β}(h:bo R as bs):bo R as.dropLast bs.dropLast:=by rw[List.dropLast_eq_take,List.dropLast_eq_take,h.length];exact h.take _
theorem tI(hB:∀j,V.length<=j->B j)(h:aU B c ps V)(hl:ps.length<=100)(q:∀r V',aX c V V'->aU B c ps.dropLast V'->bH B V' (.tup (m9 (cX ps))) (.ref r)->Q (.ref r) V'):Wp (zB aR [.ref c]) V Q:=by
 obtain⟨xs,e,r⟩:=h;refine dM e (Wp.must (by rw[decide_eq_true (by rw[r.length];lia)];rfl) ?_);have hlen:=r.length;rcases hx:xs.getLast? with _|v
 ·obtain rfl:=List.getLast?_eq_none_iff.mp hx;obtain rfl:=List.eq_nil_of_length_eq_zero hlen.symm;exact .eq rfl (q _ _ (aB.new ..).kx (pk (.new ..) ⟨[],e,.nil⟩) (bH.new hB))
 ·obtain⟨i,hi⟩:∃i,i=xs.length-1:=⟨_,rfl⟩;rw[List.getLast?_eq_getElem?,<-hi]at hx;obtain⟨p,hp⟩:∃p,ps[i]?=some p:=by have:=(List.getElem?_eq_some_iff.mp hx).1;exact⟨_,List.getElem?_eq_getElem (by simp_all)⟩
  obtain⟨v',e1,r1⟩:=r.get hp;rw[hx]at e1;injection e1 with e1
  subst e1;obtain⟨ρ,rfl,a,er⟩:=r1;refine j7 e (q ρ _ (.set ..) ⟨_,cg e,oT e _ (m8 r)⟩ ⟨ρ,rfl,a,?_⟩);have ht:cX ps=p:=by unfold cX;rw[List.getLast?_eq_getElem?,<-hlen,<-hi,hp];rfl
  rw[ht];exact eQ er λq=>by rw[q,er]at e;cases e
theorem uD{j:Nat}(hB:∀j,V.length<=j->B j)(h:aU B c ps V)(hj:j<=ps.length)(hl:ps.length<=100)(q:∀r V',V.length<=r->aX c V V'->aU B c (ps.take j) V'->(∃ys,bH B V' (.list ys) (.ref r)/\bo (λv p=>bH B V' (.tup (m9 p)) v) ys (ps.drop j))->Q (.ref r) V'):Wp (gJ aR [.ref c,.int j]) V Q:=by obtain⟨xs,e,r⟩:=h;have hlen:=r.length;refine dM e (Wp.must (decide_eq_true ⟨natCast_nonneg j,by rw[toNat_natCast];simp_all,by lia⟩) ?_);rw[toNat_natCast];have r':=r.mono λ_ _ h=>h.mono λi o a e=>(⟨a,bZ (o':=.list (xs.drop j)) e⟩:B i/\_);have r':=oT (bZ e) (.acc 192 CA (xs.take j)) r';have ne:c≠V.length:=ne_of_lt (bN e);exact Wp.bd (.eq rfl (j7 (bZ e) (q _ _ (le_refl _) ((aB.new ..).kx.trans (.set ..)) ⟨_,cg (bZ e),r'.take j⟩ ⟨_,⟨_,rfl,hB _ (le_refl _),eQ (cD ..) ne⟩,r'.drop j⟩)))
theorem A4(h:aU B c ps V)(hl:ps.length<=100)(q:∀V',aX c V V'->aU B c [] V'->Q .none V'):Wp (iI aR [.ref c]) V Q:=by obtain⟨xs,e,r⟩:=h;exact dM e (Wp.must (decide_eq_true ⟨(by decide:1<=10),by rw[r.length];lia⟩) (j7 e (q _ (.set ..) ⟨[],cg e,.nil⟩)))
theorem wV{l:Nat}(h:aU B c ps V)(hl:ps.length<=100)(hq:qs.length<=100)(hy:∃ys,bH B V (.list ys) (.ref l)/\bo (λv p=>bH B V (.tup (m9 p)) v) ys qs)(q:∀V',aX c V V'->aU B c qs V'->Q .none V'):Wp (iI aR [.ref c,.ref l]) V Q:=by obtain⟨xs,e,r⟩:=h;obtain⟨ys,⟨_,el,_,eo⟩,r'⟩:=hy;cases cY el;exact dM e (Wp.must (decide_eq_true ⟨(by decide:1<=10),by rw[r.length];lia⟩) (Wp.getO eo (Wp.must (decide_eq_true (by rw[r'.length];lia)) (j7 e (q _ (.set ..) ⟨ys,cg e,oT e _ r'⟩)))))
theorem Bw(h:aU B c ps V)(hl:ps.length<=100)(q:Q (.int ps.length) V):Wp (gv aR [.ref c]) V Q:=by obtain⟨xs,e,r⟩:=h;exact dM e (Wp.must (decide_eq_true (by rw[r.length];lia)) (.ok (by rw[r.length];exact q)))
theorem u9{α:Type}{g:Int->Mo α}{R:α->aI->Prop}(h:Wp (g 0) V R):Wp (bd (lA CA) g) V R:=Wp.bd (.eq (a:=0) rfl h)
theorem wA{R:Int->aI->Prop}(h:aU B c ps V)(hs:Short ps)(q:R ((gk ps:Nat):Int) V):Wp (kl aR c) V R:=by
 obtain⟨xs,e,r⟩:=h;refine dM e (Wp.must (decide_eq_true (by rw[r.length];exact Nat.le_trans hs.1 (by decide))) ?_);refine Wp.bd (.eq (a:=ko ps) (V':=V) (by unfold pairsOf;rw[pairs_at r];rfl) (Wp.must ?_ (u9 (.ok ?_))))
 ·refine all_eq_true.mpr λq hq=>?_;obtain⟨p,hp,rfl⟩:=mem_map.mp hq;exact decide_eq_true ⟨Nat.le_trans (hs.2 p hp).1 (by decide),Nat.le_trans (hs.2 p hp).2 (by decide)⟩
 ·have:di (ko ps)=gk ps:=by unfold di ko gk;rw[map_map];rfl
  rw[this,add_zero];exact q
theorem wJ{R:Str->aI->Prop}(h:aU B c ps V)(hs:Short ps)(q:R (SL (be ps)) V):Wp (n7 aR c) V R:=by
 have j2:∀p:cv,Txt.join ⟨#[]⟩ [SL p.1,SL p.2]=SL (p.1++p.2):=λp=>by have:=join_nil [p.1,p.2];rw[flatten_cons,flatten_cons,List.flatten_nil,append_nil]at this;exact this
 have hm:((ko ps).map λp=>Txt.join ⟨#[]⟩ [p.1,p.2])=(ps.map λp=>p.1++p.2).map SL:=by unfold ko;rw[map_map,map_map];exact map_congr_left λp _=>j2 p
 have hj:Txt.join ⟨#[]⟩ ((ko ps).map λp=>Txt.join ⟨#[]⟩ [p.1,p.2])=SL (be ps):=by rw[hm];exact join_nil _
 have hsum:∀qs:List cv,(∀p∈qs,p.1.length<=10/\p.2.length<=10)->(((qs.map λp=>p.1++p.2).map SL).map (·.length)).sum<=qs.length*20:=by
  intro qs;induction qs with
  |nil=>exact λ_=>le_refl _
  |cons q qs ih=>intro h;have a:=ih λp hp=>h p (.tail _ hp);obtain⟨x,y⟩:=h q (.head _);have e1:(SL (q.1++q.2)).length=q.1.length+q.2.length:=(pj _).trans (List.length_append ..);rw[map_cons,map_cons,map_cons,sum_cons,e1,length_cons];lia
 have s1:=hsum ps hs.2;have hl:=hs.1;obtain⟨xs,e,r⟩:=h;refine dM e (Wp.must (decide_eq_true (by rw[r.length];exact Nat.le_trans hs.1 (by decide))) ?_);refine Wp.bd (.eq (a:=ko ps) (V':=V) (by unfold pairsOf;rw[pairs_at r];rfl) (Wp.must ?_ (Wp.must ?_ (.ok ?_))))
 ·refine all_eq_true.mpr λq hq=>?_;obtain⟨p,hp,rfl⟩:=mem_map.mp hq;obtain⟨x,y⟩:=hs.2 p hp;rw[j2,dL (by show(SL p.1).length+((SL p.2).length+0)+_*0<=_;rw[pj,pj];lia)];exact tO (n:=(p.1++p.2).length) rfl (by rw[List.length_append];lia)
 ·rw[hj,hm,dL (by show _+_*0<=_;lia)];refine decide_eq_true ?_;have:(be ps).length=(((ps.map λp=>p.1++p.2).map SL).map (·.length)).sum:=by unfold be;rw[length_flatten,map_map,map_map,map_map];rfl
  rw[pj,this];exact Nat.le_trans s1 (Nat.le_trans (Nat.mul_le_mul_right _ hl) (by decide))
 ·rw[hj];exact q
end
section
variable {pr:List PV->Mo PV}
theorem fg(am:AM x pr)(P:aU B c ps V)(k:∀a,T2.prim a=some pr->T2.cls a=none->(T2.fn a).isSome=true->R (.obj a) V):Wp (bx T2 (.ref c) x) V R:=by obtain⟨a,h1,h2,h3,h4,h5⟩:=am;obtain⟨xs,e,_⟩:=P;refine Wp.getO e (Wp.must h5 ?_);refine(?_:Wp (lift ((T2.cls 192).bind λc=>(c.meth x).map PV.obj)) V R);rw[nE];refine(?_:Wp (lift ((t9.meth x).map PV.obj)) V R);rw[h1];exact .ok (k a h2 h3 h4)
theorem iX{a:Addr}{as:List PV}(hp:T2.prim a=some pr)(hc:T2.cls a=none)(hf:(T2.fn a).isSome=true)(h:Wp (pr as) V Q):Wp (bk (al T2 (n+1)) T2 (.obj a) as) V Q:=by refine eG hc hf ?_;refine(?_:Wp (dX T2 (al T2 n) a as) V Q);unfold dX;rw[hp];exact h
theorem pO(am:AM x pr)(ho:(aH o&&decide (ap.endLine=p.line))=true)(jo:J (n+1) sc l o (.sc (.ref c)))(C:Cx A V m l)(P:aU B c ps V)(k:∀V',aB V V'->aU B c ps V'->Cx A V' m l->Wp (pr [.ref c]) V' Q):Wp ((al T2 (n+2)).e sc m (.Call (.Attribute o x ap) [] [] p)) V Q:=
 dy rfl rfl (by rw[ho];rfl) ((jo A V m C).mono λv V' g=>by obtain⟨k1,rfl⟩:=g;exact fg am (pk k1 P) λa h2 h3 h4=>aO (iX h2 h3 h4 (k V' k1 (pk k1 P) (C.keep k1))))
theorem Bx(am:AM x pr)(ho:(aH o&&decide (ap.endLine=p.line))=true)(hs:eT [e1]=none)(h1:aE e1=true)(jo:J (n+1) sc l o (.sc (.ref c)))(j1:J (n+1) sc l e1 t)(C:Cx A V m l)(P:aU B c ps V)(k:∀v V',aB V V'->aU B c ps V'->Cx A V' m l->dp A V' v t->Wp (pr [.ref c,v]) V' Q):Wp ((al T2 (n+2)).e sc m (.Call (.Attribute o x ap) [e1] [] p)) V Q:=
 dy hs rfl (by rw[ho];rfl) ((jo A V m C).mono λv V' g=>by obtain⟨k1,rfl⟩:=g;exact fg am (pk k1 P) λa h2 h3 h4=>aw h1 ((j1 A V' m (C.keep k1)).mono λw V2 g2=>aO (iX h2 h3 h4 (k w V2 (k1.trans g2.1) (pk (k1.trans g2.1) P) (C.keep (k1.trans g2.1)) g2.2))))
theorem kb{a b:List Nat}(ho:(aH o&&decide (ap.endLine=p.line))=true)(hs:0=0)(h1:aE e1=true)(h2:aE e2=true)(jo:J (n+1) sc l o (.sc (.ref c)))(j1:J (n+1) sc l e1 (.sc (.str (SL a))))(j2:J (n+1) sc l e2 (.sc (.str (SL b))))(C:Cx A V m l)(P:aU B c ps V)(hB:∀j,V.length<=j->B j)(hl:ps.length<=100) (q:∀V',aX c V V'->aU B c (ps++[(a,b)]) V'->Q .none V'):Wp ((al T2 (n+2)).e sc m (.Call (.Attribute o "push" ap) [e1,e2] [] p)) V Q:=
 dy rfl hs (by rw[ho];rfl) ((jo A V m C).mono λv V' g=>by obtain⟨k1,rfl⟩:=g;refine fg uY (pk k1 P) λa' g2 g3 g4=>aw h1 ((j1 A V' m (C.keep k1)).mono λw V2 i1=>aw h2 ((j2 A V2 m ((C.keep k1).keep i1.1)).mono λw' V3 i2=>aO (iX g2 g3 g4 ?_)));obtain rfl:w=.str (SL a):=i1.2;obtain rfl:w'=.str (SL b):=i2.2;have k:=(k1.trans i1.1).trans i2.1;exact vW (λj hj=>hB j (Nat.le_trans k.1 hj)) (pk k P) hl λV' kx P=>q V' (k.kx.trans kx) P)
theorem y6{f:Addr}{k:x7}{as:List PV}(hc:T2.cls 192=some k)(hi:k.init=some f)(ha:k.isAcc=true)(h:Wp ((al T2 n).call f (.ref V.length::as)) (V++[.acc 192 [] []]) λv V'=>v=.none/\Q (.ref V.length) V'):Wp (bk (al T2 n) T2 (.obj 192) as) V Q:=by show Wp (match T2.cls 192 with|some c=>jA (al T2 n) 192 c as|none=>do must (T2.fn 192).isSome;(al T2 n).call 192 as) V Q;rw[hc];refine(?_:Wp (jA (al T2 n) 192 k as) V Q);unfold jA;rw[ha,hi];refine Wp.bd (.eq (a:=.ref V.length) (V':=V++[.acc 192 [] []]) rfl (Wp.bd (h.mono λv V' h=>?_)));obtain⟨rfl,h⟩:=h;exact .ok h
theorem uZ(P:aU B c ps V)(hs:Short ps)(h:Q (.str (SL (be ps))) V):Wp (bk ih T2 (.typ "str") [.ref c]) V Q:=by obtain⟨xs,e,r⟩:=id P;exact show Wp (bd (getO c) λo=>bd (must (zf o)) λ_=>T2.strA c) V Q from Wp.getO e (Wp.must rfl (Wp.bd (wJ P hs (.ok h))))
theorem AZ(es:List PV)(he:es=[]∨es=[.int 0])(q:∀V',aB V V'->V.length<V'.length->V'[V.length]?=some (.acc 192 CA [])->Q (.ref V.length) V'):Wp (bk (al T2 (n+1)) T2 (.obj 192) es) V Q:=by
 have e:=cD V (PO.acc 192 [] []);have k:aB V ((V++[PO.acc 192 [] []]).set V.length (.acc 192 CA [])):=⟨by rw[length_set,List.length_append];exact le_add_right ..,λj o h=>eQ (bZ h) (ne_of_gt (bN h))⟩;have bn:Wp (wE aR V.length 0) (V++[.acc 192 [] []]) λv V'=>v=.none/\Q (.ref V.length) V':=
  Wp.bd (Wp.getO e (Wp.must (by kernel_rfl) (.ok (Wp.must rfl (j7 e ⟨rfl,q _ k (by rw[length_set,List.length_append];exact lt_succ_self _) (cg e)⟩)))))
 refine y6 (f:=129) nE (by kernel_rfl) (by kernel_rfl) ?_;refine(?_:Wp (dX T2 (al T2 n) 129 (.ref V.length::es)) _ _);unfold dX;rw[show T2.prim 129=some (sj aR)from by kernel_rfl];rcases he with rfl|rfl
 ·exact bn
 ·exact bn
theorem sA{t:Str}{a b x y:List Nat}(hx:s=SL x)(hy:t=SL y)(hxl:x.length<=10)(hyl:y.length<=10)(hb:behindInMarks .NotEq (.Tuple [.Constant (.str s) j1 p1,.Constant (.str t) j2 p2] j3 p3)=false)(ja:J (n+2) sc l e1 (.tup (m9 (a,b)))):JB (n+3) sc l (.Compare e1 [.NotEq] [.Tuple [.Constant (.str s) j1 p1,.Constant (.str t) j2 p2] j3 p3] p) (!(decide (a=x)&&decide (b=y))):=λA V m c=>by
 refine wu hb ((ja A V m c).mono λv V1 g=>jC rfl rfl (b9 hx (by(exact Nat.le_trans (by assumption) (le_add_left ..))) (b9 hy (by lia) ?_)));obtain⟨k,i,rfl,_,e⟩:=g;have hij:i≠V1.length:=ne_of_lt (bN e);refine .eq (a:=.bool (!(decide (a=x)&&decide (b=y)))) (V':=V1++[.tup [.str (SL x),.str (SL y)]]) ?_ (.ok ⟨k.trans (.new ..),rfl⟩);have h:nY 4 (V1++[.tup [.str (SL x),.str (SL y)]]) (.ref i) (.ref V1.length)=some (decide (SL a=SL x)&&(decide (SL b=SL y)&&true)):=by show(if i=V1.length then none else _)=_;rw[if_neg hij,bZ e,cD];rfl
 refine(?_:(nY 4 _ _ _).map _=_);rw[h,Bool.and_true,decide_eq_decide.mpr (⟨mj,congrArg SL⟩:SL a=SL x↔a=x),decide_eq_decide.mpr (⟨mj,congrArg SL⟩:SL b=SL y↔b=y)];rfl
end
theorem mu:∀(l cnt:List Nat) (b nt:Nat),(jK l cnt b nt).1.length<=cnt.length+b+l.length+1/\(jK l cnt b nt).2.1<=b+l.length
 |[],cnt,b,nt=>⟨Nat.le_trans (le_add_right cnt.length b) (le_succ _),le_refl _⟩
 |c::r,cnt,b,nt=>by
  rw[jK,length_cons];have h1:=mu r cnt (b+1) nt;have h2:=mu r ((yj cnt b).set b ((yj cnt b).getD b 0+1)) 0 (nt+1);have h3:=u3 cnt b;rw[length_set]at h2;split
  ·lia
  ·split
   ·lia
   ·exact⟨Nat.le_trans (Nat.le_trans (le_add_right cnt.length b) (le_add_right ..)) (le_succ _),le_add_right ..⟩
theorem rF{l:List Nat}(h:l.length<=90):(nx l).length<100/\zq l<100:=by have:=mu l [] 0 0;unfold nx zq;rw[List.length_nil]at this;lia
noncomputable def AU:List Stmt:=[.Assign [.Name "top" (pP 255 12 15)] (.Call (.Attribute (.Name "pile" (pP 255 18 22)) "pop" (pP 255 18 26)) [] [] (pP 255 18 28)) (pP 255 12 28)]
noncomputable def uJ:Expr:=(.BoolOp .And [.Compare (.Name "top" (pP 254 14 17)) [.NotEq] [.Tuple [.Constant (.str "") 0 (pP 254 22 24),.Constant (.str "") 0 (pP 254 26 28)] 0 (pP 254 21 29)] (pP 254 14 29),.UnaryOp .Not (.Call (.Attribute (.Call (.Name "Whitespace" (pP 254 39 49)) [.Subscript (.Name "top" (pP 254 50 53)) (.Constant (.int 0) 0 (pP 254 54 55)) (pP 254 50 56)] [] (pP 254 39 57)) "less" (pP 254 39 62)) [.Name "here" (pP 254 63 67)] [] (pP 254 39 68)) (pP 254 35 68)] (pP 254 14 69))
noncomputable def un:List Stmt:=[.Assign [.Name "here" (pP 252 8 12)] (.Call (.Name "Whitespace" (pP 252 15 25)) [.Name "line" (pP 252 26 30)] [] (pP 252 15 31)) (pP 252 8 31),.Assign [.Name "top" (pP 253 8 11)] (.Call (.Attribute (.Name "pile" (pP 253 14 18)) "pop" (pP 253 14 22)) [] [] (pP 253 14 24)) (pP 253 8 24),.While uJ AU [] ⟨254,8,255,28⟩,.If (.Compare (.Name "top" (pP 256 11 14)) [.NotEq] [.Tuple [.Constant (.str "") 0 (pP 256 19 21),.Constant (.str "") 0 (pP 256 23 25)] 0 (pP 256 18 26)] (pP 256 11 26)) [.Expr (.Call (.Attribute (.Name "pile" (pP 257 12 16)) "push" (pP 257 12 21)) [.Subscript (.Name "top" (pP 257 22 25)) (.Constant (.int 0) 0 (pP 257 26 27)) (pP 257 22 28),.Subscript (.Name "top" (pP 257 30 33)) (.Constant (.int 1) 0 (pP 257 34 35)) (pP 257 30 36)] [] (pP 257 12 37)) (pP 257 12 37)] [] ⟨256,8,257,37⟩,.Expr (.Call (.Attribute (.Name "pile" (pP 258 8 12)) "push" (pP 258 8 17)) [.Subscript (.Name "line" (pP 258 18 22)) (.Slice none (some (.Attribute (.Name "here" (pP 258 24 28)) "n" (pP 258 24 30))) none (pP 258 23 30)) (pP 258 18 31),.Call (.Attribute (.Subscript (.Name "line" (pP 258 33 37)) (.Attribute (.Name "here" (pP 258 38 42)) "n" (pP 258 38 44)) (pP 258 33 45)) "upper" (pP 258 33 51)) [] [] (pP 258 33 53)] [] (pP 258 8 54)) (pP 258 8 54),.Expr (.Call (.Attribute (.Name "ways" (pP 259 8 12)) "append" (pP 259 8 19)) [.Call (.Name "str" (pP 259 20 23)) [.Name "pile" (pP 259 24 28)] [] (pP 259 20 29)] [] (pP 259 8 30)) (pP 259 8 30)]
noncomputable def GN:List Stmt:=[.Assign [.Name "pile" (pP 249 4 8)] (.Call (.Name "_Accumulator" (pP 249 11 23)) [] [] (pP 249 11 25)) (pP 249 4 25),.Assign [.Name "ways" (pP 250 4 8)] (.List [] (pP 250 11 13)) (pP 250 4 13),.For (.Name "line" (pP 251 8 12)) (.Name "page" (pP 251 16 20)) un [] ⟨251,4,259,30⟩,.Return (some (.Name "ways" (pP 260 11 15))) (pP 260 4 15)]
noncomputable def FU:Scope:=⟨.function,[("page",.local),("pile",.local),("ways",.local),("line",.local),("here",.local),("top",.local),("_Accumulator",.globalImplicit),("Whitespace",.globalImplicit),("str",.globalImplicit)],false,false,[]⟩
noncomputable def Ke:Fn:=⟨"_law_ways",⟨[],[⟨"page",none,(pP 248 14 18)⟩],none,[],[],none,[]⟩,GN,FU⟩
theorem Jk:T2.fn 293=some Ke:=by kernel_rfl
theorem Dw:T2.prim 293=none:=by kernel_rfl
theorem Fl:T2.cls 293=none:=by kernel_rfl
noncomputable def iR(w:List Nat)(s:List cv×cv):Bool:=!(decide (s.2.1=[])&&decide (s.2.2=[]))&& !(dq s.2.1 w)
noncomputable def eN(s:List cv×cv):List cv×cv:=(s.1.dropLast,cX s.1)
noncomputable def hV(w:List Nat):Nat->List cv×cv->List cv×cv
 |0,s=>s
 |k+1,s=>if iR w s=true then hV w k (eN s)else s
noncomputable def ju(w:List Nat)(ps:List cv):List cv×cv:=hV w (ps.length+1) (ps.dropLast,cX ps)
noncomputable def fY(s:List cv×cv):List cv:=if(!(decide (s.2.1=[])&&decide (s.2.2=[])))=true then s.1++[s.2]else s.1
noncomputable def iZ(w:List Nat)(ps:List cv):List cv:=fY (ju w ps)++[(w.take (gp w),[w.getD (gp w) 0-32])]
noncomputable def ur(s:List cv×List (List Nat))(w:List Nat):List cv×List (List Nat):=(iZ w s.1,s.2++[be (iZ w s.1)])
theorem oh{w:List Nat}{s:List cv×cv}(h:iR w s=false):∀k,hV w k s=s
 |0=>rfl
 |_+1=>if_neg (by rw[h];exact Bool.false_ne_true)
theorem vx(w:List Nat):∀(k:Nat) (s:List cv×cv),s.1.length<k->∃j,j<=k/\om eN j s=hV w k s/\(∀i,i<j->iR w (om eN i s)=true)/\iR w (hV w k s)=false
 |0,_,h=>absurd h (not_lt_zero _)
 |k+1,s,h=>by
  by_cases ht:iR w s=true
  ·have e:hV w (k+1) s=hV w k (eN s):=if_pos ht;rw[e];have step:∀j,j<=k->om eN j (eN s)=hV w k (eN s)->(∀i,i<j->iR w (om eN i (eN s))=true)->iR w (hV w k (eN s))=false->∃j,j<=k+1/\om eN j s=hV w k (eN s)/\(∀i,i<j->iR w (om eN i s)=true)/\iR w (hV w k (eN s))=false:=
    λj h1 h2 h3 h4=>⟨j+1,succ_le_succ h1,h2,λi hi=>by
     cases i with
     |zero=>exact ht
     |succ i=>exact h3 i (lt_of_succ_lt_succ hi),h4⟩
   obtain⟨ps,t⟩:=s;rcases nil_or_pos ps with rfl|hp
   ·have hf:iR w (eN ([],t))=false:=rfl;exact step 0 (zero_le _) (oh hf k).symm (λi hi=>absurd hi (not_lt_zero _)) (by rw[oh hf];exact hf)
   ·obtain⟨j,h1,h2,h3,h4⟩:=vx w k (eN (ps,t)) (by refine(?_:ps.dropLast.length<k);have h:ps.length<k+1:=h;rw[length_dropLast];exact lt_of_lt_of_le (sub_lt hp Nat.one_pos) (le_of_lt_succ h));exact step j h1 h2 h3 h4
  ·have e:hV w (k+1) s=s:=if_neg ht;rw[e];exact⟨0,zero_le _,rfl,λi hi=>absurd hi (not_lt_zero _),eq_false_iff.mpr ht⟩
where nil_or_pos (ps:List cv):ps=[]∨0<ps.length:=by cases ps;exact .inl rfl;exact .inr (succ_pos _)
structure Dx(s:List cv×cv):Prop where
 a:Short s.1
 b:s.2.1.length<=10/\s.2.2.length<=10
theorem sO(h:Short ps):Dx (ps.dropLast,cX ps):=by
 refine⟨⟨by rw[length_dropLast];exact Nat.le_trans (sub_le ..) h.1,λp hp=>h.2 p (List.dropLast_subset _ hp)⟩,?_⟩;refine(?_:(cX ps).1.length<=10/\(cX ps).2.length<=10);unfold cX;rcases e:ps.getLast? with _|p
 ·exact⟨zero_le _,zero_le _⟩
 ·exact h.2 p (List.mem_of_getLast? e)
theorem Fc:∀(j:Nat) {s:List cv×cv},Dx s->Dx (om eN j s)/\(om eN j s).1.length<=s.1.length
 |0,_,h=>⟨h,le_refl _⟩
 |j+1,s,h=>by obtain⟨h1,h2⟩:=Fc j (s:=eN s) (sO h.a);exact⟨h1,Nat.le_trans h2 (by show s.1.dropLast.length<=_;rw[length_dropLast];exact sub_le ..)⟩
structure sY(w:List Nat):Prop where
 l:w.length<=90
 n:gp w<=10
 c:∃c,w[gp w]?=some c/\Txt.upper (SL [c])=SL [c-32]
theorem CX{w:List Nat}(h:sY w):At w (gp w:Nat) (w.getD (gp w) 0)/\Txt.upper (SL [w.getD (gp w) 0])=SL [w.getD (gp w) 0-32]:=by
 obtain⟨c,e,hu⟩:=h.c;have:w.getD (gp w) 0=c:=by rw[List.getD_eq_getElem?_getD,e];rfl
 rw[this];exact⟨bg e,hu⟩
noncomputable def aJ(ls:List (List Nat)):List PV:=ls.map λl=>.str (SL l)
structure I1(B:Nat->Prop)(V:aI)(π ρ i:Nat)(s:List cv×List (List Nat))(V':aI):Prop where
 p:aU B π s.1 V'
 w:V'[ρ]?=some (.list (aJ s.2))
 k:aB V V'
 sh:Short s.1
 l:s.1.length<=2*i/\s.2.length<=i
set_option maxHeartbeats 800000 in
theorem D5(hl:ls.length<=40)(hw:∀w∈ls,sY w):m5 (n+60) (.obj 293) (.lst (aJ ls)) (.lst (aJ (ls.foldl ur ([],[])).2)):=l9 Fl Dw Jk rfl λA V m c=>by
 change Cx A V m [("page",.lst (aJ ls))]at c;have hA:=c.a;refine(?_:Wp ((al T2 (n+59)).ss FU m GN) V _);unfold GN;refine ao (cH rfl rfl (dA rfl (dc (v:=.obj 192) rfl (aO (AZ [] (.inl rfl) λV1 LQ LZ eπ=>ae ?_)))));have c:=(c.own LQ (le_refl _) LZ).set (x:="pile") (t:=.sc (.ref V.length)) rfl;generalize hπ:V.length=π at*;refine fJ (λ_=>rfl) rfl dr c λm V2 ρ LO hρ aρ o c=>?_;have hρ':V.length<=ρ:=Nat.le_trans LQ.1 hρ;have hne:π≠ρ:=ne_of_lt (lt_of_lt_of_le (bN eπ) hρ);have noπ:¬Rm (Rm A π) ρ π:=λh=>h.1.2 rfl;refine cB (g:=λw=>.sc (.str (SL w))) ur ls (λ_=>[("ways",.sc (.ref ρ)),("pile",.sc (.ref π)),("page",.lst (aJ ls))]) (I1 (Rm (Rm A π) ρ) V π ρ) ([],[]) (λ_=>rfl) rfl (aa rfl rfl) cO (by(exact lt_of_le_of_lt (by assumption) (by decide))) c (λV' k c=>⟨c.sub rfl,⟨[],k.2 _ _ (LO.2 _ _ eπ),.nil⟩,k.2 _ _ o,(LQ.trans LO).trans k,⟨zero_le _,λ_ h=>nomatch h⟩,le_refl 0,le_refl 0⟩) ?_ ?_
 ·rintro w hm i ⟨ps,out⟩ m V3 hi c ⟨P,ow,kk,hs,hl1,hl2⟩;have hi:i<40:=lt_of_lt_of_le hi hl;have hs:Short ps:=hs;have hl1:ps.length<=2*i:=hl1;have hl2:out.length<=i:=hl2;obtain⟨L1,L2,_⟩:=hw w hm;obtain⟨a1,a2⟩:=CX (hw w hm);have T0:=sO hs;unfold un;refine aD (t:=.ws w) (λ_=>rfl) rfl (ax (f:=.obj 258) (λ_ _=>rfl) rfl (aa rfl rfl) (rZ (by(exact Nat.le_trans (by assumption) (le_add_left ..))))) c λm V4 k₄ c=>?_;refine ao (cH rfl rfl (pO sB rfl (aa rfl rfl) c (pk k₄ P) λV5 LP P c=>tI c.a P hs.1 λr V6 LR P rt=>ae ?_));have K₆:=(k₄.trans LP).toA.trans (LR.toA noπ);have c:=(c.keepA (LR.toA noπ)).set (x:="top") (t:=.tup (m9 (cX ps))) rt;obtain⟨j,j1,j2,j3,j4⟩:=vx w (ps.length+1) (ps.dropLast,cX ps) (lt_succ_of_le (by show ps.dropLast.length<=_;rw[length_dropLast];exact sub_le ..));have ok:=Fc j T0;refine qO (T:=iR w) (F:=eN) (λs=>[("top",.tup (m9 s.2)),("here",.ws w),("line",.sc (.str (SL w))),("ways",.sc (.ref ρ)),("pile",.sc (.ref π)),("page",.lst (aJ ls))]) (λs V'=>aU (Rm (Rm A π) ρ) π s.1 V'/\aX π V3 V') Dx j (ps.dropLast,cX ps) (by lia) (λs V V' k h=>⟨pk k h.1,h.2.trans k.kx⟩) T0 (λs h=>?_) (λs h _=>sO h.a) j3 (by rw[j2];exact j4) (c.sub rfl) ⟨P,(k₄.trans LP).kx.trans LR⟩ (λs m V h ht c O=>?_) (λm V7 c O=>?_) ⟨_,rfl⟩
  ·unfold uJ;refine o3 (sA rfl rfl (by decide) (by decide) rfl (aa rfl rfl)) (uw (lf (λ_=>rfl) (gR rfl rfl rfl (ax (f:=.obj 258) (λ_ _=>rfl) rfl (aG rfl (aa rfl rfl) an (gV rfl)) (rZ ?_)) (aa rfl rfl) Di (Do (rF ?_) (rF L1)))))
   ·have:=h.b.1;(exact Nat.le_trans (by assumption) (le_add_left ..))
   ·have:=h.b.1;(exact Nat.le_trans (by assumption) (le_add_left ..))
  ·unfold AU;exact ao (cH rfl rfl (pO sB rfl (aa rfl rfl) c O.1 λV5 LP P c=>tI c.a P h.a.1 λr V6 LR P rt=>ae (ak ⟨rfl,((c.keepA (LR.toA noπ)).set (x:="top") (t:=.tup (m9 (cX s.1))) rt).sub rfl,P,(O.2.trans LP.kx).trans LR⟩)))
  ·rw[j2]at c O ok;have e:ju w ps=hV w (ps.length+1) (ps.dropLast,cX ps):=rfl;rw[<-e]at c O ok;have hd:ps.dropLast.length<=ps.length:=by rw[length_dropLast];exact sub_le ..
   have hlen:(fY (ju w ps)).length<=ps.length+1:=by
    have:=ok.2;unfold fY;split
    ·rw[List.length_append,length_singleton];exact succ_le_succ (Nat.le_trans this hd)
    ·exact le_succ_of_le (Nat.le_trans this hd)
   have hput:Short (fY (ju w ps)):=⟨by lia,λp hp=>by
    unfold fY at hp;split at hp
    ·rcases mem_append.mp hp with h|h
     ·exact ok.1.a.2 p h
     ·rw[mem_singleton.mp h];exact ok.1.b
    ·exact ok.1.a.2 p hp⟩
   have bn:∀m V',aX π V3 V'->aU (Rm (Rm A π) ρ) π (fY (ju w ps)) V'->Cx (Rm (Rm A π) ρ) V' m [("top",.tup (m9 (ju w ps).2)),("here",.ws w),("line",.sc (.str (SL w))),("ways",.sc (.ref ρ)),("pile",.sc (.ref π)),("page",.lst (aJ ls))]->Wp ((al T2 (n+58)).ss FU m (un.drop 4)) V' λfm V'=>ci (Rm (Rm A π) ρ) V3 V'/\(fm.1=.next∨fm.1=.cont)/\Cx (Rm (Rm A π) ρ) V' fm.2 [("ways",.sc (.ref ρ)),("pile",.sc (.ref π)),("page",.lst (aJ ls))]/\I1 (Rm (Rm A π) ρ) V π ρ (i+1) (ur (ps,out) w) V':=λm V8 K P c=>by
    have hwp:Short (iZ w ps):=⟨by unfold iZ;rw[List.length_append,length_singleton];lia,λp hp=>by
     rcases mem_append.mp hp with h|h
     ·exact hput.2 p h
     ·rw[mem_singleton.mp h];exact⟨Nat.le_trans (List.length_take_le ..) L2,(by decide:1<=10)⟩⟩
    refine ao (dY rfl (kb (a:=w.take (gp w)) (b:=[w.getD (gp w) 0-32]) rfl rfl rfl rfl (aa rfl rfl) (J.to (JO (aa rfl rfl) (kf rfl (aa rfl rfl) B7) oY) (by rw[Gk])) (gX rfl (aG rfl (aa rfl rfl) (kf rfl (aa rfl rfl) B7) (bG a1)) (iz rfl) (Bp a2 (le_of_ble_eq_true rfl))) c P c.a hput.1 λV9 k₉ P=>ae ?_));have c:=c.keepA (k₉.toA noπ);have ow:=k₉.2 _ _ (Ne.symm hne) (K.2 _ _ (Ne.symm hne) ow);have K:=K.trans k₉;have P:aU (Rm (Rm A π) ρ) π (iZ w ps) V9:=P;refine wO (t:=.sc (.str (SL (be (iZ w ps))))) rfl rfl rfl rfl ow (by rw[aJ,length_map];lia) cT rfl (λV' k c=>dA rfl (dc rfl (aw rfl ((aa rfl rfl _ V' m c).mono λv V10 g=>aO ?_)))) c λV10 v k10 o' r c=>?_
    ·obtain⟨k',rfl⟩:=g;exact uZ (pk (k.trans k') P) hwp ⟨k',rfl⟩
    ·obtain rfl:v=_:=r;have P:aU (Rm (Rm A π) ρ) π (iZ w ps) V10:=P.mono (λi o a e=>⟨a,k10.2 _ _ (λq=>a.2 q) e⟩) λo e=>k10.2 _ _ hne e;refine ak ⟨(K.toA noπ).trans (k10.toA cT),.inl rfl,c.sub rfl,P,?_,k10.keep (K.keep kk (by(exact le_of_eq (by assumption)))) hρ',hwp,?_,?_⟩
     ·rw[o',aJ,aJ,ur,map_append];rfl
     ·refine(?_:(fY (ju w ps)++[_]).length<=2*(i+1));rw[List.length_append,length_singleton];exact succ_le_succ (Nat.le_trans hlen (succ_le_succ hl1))
     ·refine(?_:(out++[_]).length<=i+1);rw[List.length_append];exact succ_le_succ hl2
   refine bR (b:=!(decide ((ju w ps).2.1=[])&&decide ((ju w ps).2.2=[]))) (sA rfl rfl (by decide) (by decide) rfl (aa rfl rfl)) c (λhb V8 k₈ c=>?_) λhb V8 k₈ c=>?_
   ·refine ao (dY rfl (kb (a:=(ju w ps).2.1) (b:=(ju w ps).2.2) rfl rfl rfl rfl (aa rfl rfl) (aG rfl (aa rfl rfl) an (gV (vs:=m9 (ju w ps).2) rfl)) (aG rfl (aa rfl rfl) an (gV (vs:=m9 (ju w ps).2) rfl)) c (pk k₈ O.1) c.a ok.1.a.1 λV9 k₉ P=>ae (ak (ae (bn _ _ ((O.2.trans k₈.kx).trans k₉) ?_ (c.keepA (k₉.toA noπ)))))));unfold fY;rw[if_pos hb];exact P
   ·refine ak (ae (bn _ _ (O.2.trans k₈.kx) ?_ c));unfold fY;rw[if_neg (by rw[hb];exact Bool.false_ne_true)];exact pk k₈ O.1
 ·rintro m V3 c ⟨_,o,kk,_⟩;exact bI (aa rfl rfl) (c.frz (x:="ways") (t:=.lst (aJ (ls.foldl ur ([],[])).2)) (λ_ h=>h.1.1) rfl ⟨ρ,rfl,aρ.1,o⟩) λv V4 k₄ r=>cN (kk.trans k₄) r
section
variable {w:Int}
theorem qC(ho:aH e=true)(j:J n sc l e (.fmt f L c w sg ls ps))(hx:(attrOk x&&(T2.cls 108).isSome)=true)(hv:((KT w sg L c).lookup x).bind eO=some v):J (n+1) sc l (.Attribute e x p) (.sc v):=λA V m C=>iF ho ((j A V m C).mono λa V' g=>by obtain⟨k,rfl,h⟩:=g;exact cC h.f hx hv ⟨k,rfl⟩)
theorem qt(ho:aH e=true)(j:J n sc l e (.fmt f L c w sg ls ps)):J (n+1) sc l (.Attribute e "_current_line" p) (.sc (.ref c)):=qC ho j (by kernel_rfl) rfl
theorem jU(ho:aH e=true)(j:J n sc l e (.fmt f L c w sg ls ps))(C:Cx A V m l)(k:∀V',aB V V'->Cx A V' m l->aU A c ps V'->Q (.ref c) V'):Wp ((al T2 (n+1)).e sc m (.Attribute e "_current_line" p)) V Q:=iF ho ((j A V m C).mono λa V' g=>by obtain⟨k1,rfl,h⟩:=g;exact cC h.f (by kernel_rfl) rfl (k V' k1 (C.keep k1) h.c))
theorem qm(hf:∀m V,bQ T2 sc m "len" V=some (.blt "len",V))(ho:aH e=true)(hs:Short ps)(j:J (n+1) sc l e (.fmt f L c w sg ls ps)):J (n+3) sc l (.Call (.Name "len" p') [.Attribute e "_current_line" p1] [] p) (.sc (.int (gk ps:Nat))):=λA V m C=>
 dA rfl (dc (hf m V) (aw rfl (jU ho j C λV' k C P=>aO (show Wp (y4 T2 (.ref c)) V' _ by obtain⟨xs,e,_⟩:=id P;exact Wp.getO e (Wp.bd (wA P hs (.ok ⟨k,rfl⟩)))))))
theorem rY(hf:∀m V,bQ T2 sc m "str" V=some (.typ "str",V))(ho:aH e=true)(hs:Short ps)(j:J (n+1) sc l e (.fmt f L c w sg ls ps)):J (n+3) sc l (.Call (.Name "str" p') [.Attribute e "_current_line" p1] [] p) (.sc (.str (SL (be ps)))):=λA V m C=>
 dA rfl (dc (hf m V) (aw rfl (jU ho j C λV' k C P=>aO (uZ P hs ⟨k,rfl⟩))))
theorem JA(ho:aH e=true)(hp:decide (ap.endLine=p.line)=true)(hs:ps.length<=100)(j:J (n+1) sc l e (.fmt f L c w sg ls ps)):J (n+3) sc l (.Call (.Attribute (.Attribute e "_current_line" p1) "part_count" ap) [] [] p) (.sc (.int ps.length)):=λA V m C=>
 dy rfl rfl (by rw[hp];rfl) (jU ho j C λV' k C P=>fg Ay P λa h2 h3 h4=>aO (iX h2 h3 h4 (Bw P hs ⟨k,rfl⟩)))
theorem IP{q:cv}(ho:aH e=true)(hs:sliceOf e1=none)(j:J n sc l e (.fmt f L c w sg ls ps))(ji:J (n+1) sc l e1 (.sc (.int i)))(h:ps[i]?=some q):J (n+2) sc l (.Subscript (.Attribute e "_current_line" p1) e1 p) (.tup (m9 q)):=λA V m C=>
 oq hs (jU ho j C λV1 k C P=>(ji A V1 m C).mono λb V2 g=>by obtain⟨k2,rfl⟩:=g;obtain⟨xs,e,r⟩:=pk k2 P;obtain⟨v,e1,h1⟩:=r.get h;refine fB rfl (Wp.getO e ?_);unfold zk;exact Wp.must (by rw[decide_eq_true (natCast_nonneg i),show(T2.cls 192).any (·.isAcc)=true from by kernel_rfl];rfl) (o7 (g8 (List.getElem?_eq_some_iff.mp e1).1) e1 ⟨k.trans k2,h1⟩))
theorem tY:m5 n (.blt "str.isspace") (.sc (.str s)) (.sc (.bool (Txt.isspace s))):=λ_ _ _ _ ha=>qP (f:=λa=>bk (al T2 n) T2 (.blt "str.isspace") [a]) ha gj
theorem EG{s:List Nat}(he:∀m,(al T2 (n+1)).b sc m e=lq (al T2 n) sc m e)(j:J n sc l e (.sc (.str (SL s)))):JB (n+1) sc l e (decide (s.length≠0)):=λA V m C=>by rw[he];exact j.bd C λv V' k _ r=>by obtain rfl:v=_:=r;exact .ok ⟨k,rfl⟩
theorem Cx.obj(C:Cx A V m ((x,t)::l))(hs:m1 (λp=>∃v,p.2=.sc v) l)(hl:V.length<=V'.length)(r:∀v,dp A V v t->dp A V' v t'):Cx A V' m ((x,t')::l):=⟨λj hj=>C.a j (Nat.le_trans hl hj),λy u e=>by
 rw[lookup_cons]at e;by_cases hy:y=x
 ·rw[beq_iff_eq.mpr hy]at e;injection e with e
  obtain⟨v,e1,e2⟩:=C.e x t (by rw[lookup_cons,beq_self_eq_true]);exact⟨v,hy▸e1,e▸r v e2⟩
 ·have hb:(y==x)=false:=beq_eq_false_iff_ne.mpr hy;rw[hb]at e;obtain⟨v,e1,e2⟩:=C.e y u (by rw[lookup_cons,hb];exact e);refine⟨v,e1,?_⟩;have:∃v,u=.sc v:=by
   clear C e1 e2;induction l with
   |nil=>nomatch e
   |cons p r ih=>
    rw[lookup_cons]at e;by_cases hq:y=p.1
    ·rw[beq_iff_eq.mpr hq]at e;injection e with e
     exact e▸hs.1
    ·rw[beq_eq_false_iff_ne.mpr hq]at e;exact ih hs.2 e
  obtain⟨w,rfl⟩:=this;exact e2⟩
theorem mU.pile(h:mU A f L c w sg ls ps V)(k:aX c V V')(P:aU A c qs V'):mU A f L c w sg ls qs V':=by obtain⟨xs,e,_⟩:=h.c;exact⟨h.a,k.2 _ _ (λq=>by have:=h.f;rw[q,e]at this;cases this) h.f,k.2 _ _ (λq=>by have:=h.l;rw[q,e]at this;cases this) h.l,P⟩
noncomputable def J5:PO->Bool
 | .list _=>false
 |_=>true
theorem mU.line{s:List Nat}(h:mU A f L c w sg ls ps V)(k:aX L V V')(e:V'[L]?=some (.list ((ls.map λl=>.str (SL l))++[.str (SL s)]))):mU A f L c w sg (ls++[s]) ps V':=
 have ne:∀{i:Nat} {o:PO},V[i]?=some o->J5 o=true->i≠L:=λe1 ho q=>by rw[q,h.l]at e1;cases e1;cases ho
 let⟨xs,e1,r⟩:=h.c
 ⟨h.a,k.2 _ _ (ne h.f rfl) h.f,by rw[e,map_append];rfl,xs,k.2 _ _ (ne e1 rfl) e1,r.mono λ_ _ ⟨ρ,h1,h2,h3⟩=>⟨ρ,h1,h2,k.2 _ _ (ne h3 rfl) h3⟩⟩
end
noncomputable def sK:List Stmt:=[.If (.Call (.Attribute (.Name "ch" (pP 100 23 25)) "isspace" (pP 100 23 33)) [] [] (pP 100 23 35)) [.Assign [.Name "fws" (pP 101 24 27)] (.Subscript (.Subscript (.Attribute (.Name "self" (pP 101 30 34)) "_current_line" (pP 101 30 48)) (.Name "i" (pP 101 49 50)) (pP 101 30 51)) (.Constant (.int 0) 0 (pP 101 52 53)) (pP 101 30 54)) (pP 101 24 54),.If (.BoolOp .And [.Name "fws" (pP 102 27 30),.Compare (.Subscript (.Name "fws" (pP 102 35 38)) (.Constant (.int 0) 0 (pP 102 39 40)) (pP 102 35 41)) [.Eq] [.Name "ch" (pP 102 45 47)] (pP 102 35 47)] (pP 102 27 47)) [.Break (pP 103 28 33)] [] ⟨102,24,103,33⟩] [] ⟨100,20,103,33⟩,.Assign [.Name "prevpart" (pP 104 20 28)] (.Subscript (.Subscript (.Attribute (.Name "self" (pP 104 31 35)) "_current_line" (pP 104 31 49)) (.BinOp (.Name "i" (pP 104 50 51)) .Sub (.Constant (.int 1) 0 (pP 104 54 55)) (pP 104 50 55)) (pP 104 31 56)) (.Constant (.int 1) 0 (pP 104 57 58)) (pP 104 31 59)) (pP 104 20 59),.If (.BoolOp .And [.Name "prevpart" (pP 105 23 31),.Compare (.Subscript (.Name "prevpart" (pP 105 36 44)) (.UnaryOp .USub (.Constant (.int 1) 0 (pP 105 46 47)) (pP 105 45 47)) (pP 105 36 48)) [.Eq] [.Name "ch" (pP 105 52 54)] (pP 105 36 54)] (pP 105 23 54)) [.Break (pP 106 24 29)] [] ⟨105,20,106,29⟩]
noncomputable def tU:List Stmt:=[.For (.Name "i" (pP 99 20 21)) (.Call (.Name "range" (pP 99 25 30)) [.BinOp (.Call (.Attribute (.Attribute (.Name "self" (pP 99 31 35)) "_current_line" (pP 99 31 49)) "part_count" (pP 99 31 60)) [] [] (pP 99 31 62)) .Sub (.Constant (.int 1) 0 (pP 99 65 66)) (pP 99 31 66),.Constant (.int 0) 0 (pP 99 68 69),.UnaryOp .USub (.Constant (.int 1) 0 (pP 99 72 73)) (pP 99 71 73)] [] (pP 99 25 74)) sK [.Continue (pP 108 20 28)] ⟨99,16,108,28⟩,.Break (pP 109 16 21)]
noncomputable def CT:List Stmt:=[.Expr (.Call (.Attribute (.Attribute (.Name "self" (pP 96 8 12)) "_current_line" (pP 96 8 26)) "push" (pP 96 8 31)) [.Name "fws" (pP 96 32 35),.Name "string" (pP 96 37 43)] [] (pP 96 8 44)) (pP 96 8 44),.If (.Compare (.Call (.Name "len" (pP 97 11 14)) [.Attribute (.Name "self" (pP 97 15 19)) "_current_line" (pP 97 15 33)] [] (pP 97 11 34)) [.Gt] [.Attribute (.Name "self" (pP 97 37 41)) "_maxlen" (pP 97 37 49)] (pP 97 11 49)) [.For (.Name "ch" (pP 98 16 18)) (.Attribute (.Name "self" (pP 98 22 26)) "_splitchars" (pP 98 22 38)) tU [.Assign [.Tuple [.Name "fws" (pP 111 16 19),.Name "part" (pP 111 21 25)] 0 (pP 111 16 25)] (.Call (.Attribute (.Attribute (.Name "self" (pP 111 28 32)) "_current_line" (pP 111 28 46)) "pop" (pP 111 28 50)) [] [] (pP 111 28 52)) (pP 111 16 52),.If (.Compare (.Attribute (.Attribute (.Name "self" (pP 112 19 23)) "_current_line" (pP 112 19 37)) "_initial_size" (pP 112 19 51)) [.Gt] [.Constant (.int 0) 0 (pP 112 54 55)] (pP 112 19 55)) [.Expr (.Call (.Attribute (.Name "self" (pP 113 20 24)) "newline" (pP 113 20 32)) [] [] (pP 113 20 34)) (pP 113 20 34),.If (.UnaryOp .Not (.Name "fws" (pP 114 27 30)) (pP 114 23 30)) [.Assign [.Name "fws" (pP 115 24 27)] (.Constant (.str " ") 0 (pP 115 30 33)) (pP 115 24 33)] [] ⟨114,20,115,33⟩] [] ⟨112,16,115,33⟩,.Expr (.Call (.Attribute (.Attribute (.Name "self" (pP 116 16 20)) "_current_line" (pP 116 16 34)) "push" (pP 116 16 39)) [.Name "fws" (pP 116 40 43),.Name "part" (pP 116 45 49)] [] (pP 116 16 50)) (pP 116 16 50),.Return none (pP 117 16 22)] ⟨98,12,117,22⟩,.Assign [.Name "remainder" (pP 118 12 21)] (.Call (.Attribute (.Attribute (.Name "self" (pP 118 24 28)) "_current_line" (pP 118 24 42)) "pop_from" (pP 118 24 51)) [.Name "i" (pP 118 52 53)] [] (pP 118 24 54)) (pP 118 12 54),.Expr (.Call (.Attribute (.Attribute (.Name "self" (pP 119 12 16)) "_lines" (pP 119 12 23)) "append" (pP 119 12 30)) [.Call (.Name "str" (pP 119 31 34)) [.Attribute (.Name "self" (pP 119 35 39)) "_current_line" (pP 119 35 53)] [] (pP 119 31 54)] [] (pP 119 12 55)) (pP 119 12 55),.Expr (.Call (.Attribute (.Attribute (.Name "self" (pP 120 12 16)) "_current_line" (pP 120 12 30)) "reset" (pP 120 12 36)) [.Name "remainder" (pP 120 37 46)] [] (pP 120 12 47)) (pP 120 12 47)] [] ⟨97,8,120,47⟩]
noncomputable def xL:Scope:=⟨.function,[("self",.local),("fws",.local),("string",.local),("ch",.local),("i",.local),("prevpart",.local),("part",.local),("remainder",.local),("len",.globalImplicit),("range",.globalImplicit),("str",.globalImplicit)],false,false,[]⟩
noncomputable def JC:Fn:=⟨"_ValueFormatter._append_chunk",⟨[],[⟨"self",none,(pP 95 22 26)⟩,⟨"fws",none,(pP 95 28 31)⟩,⟨"string",none,(pP 95 33 39)⟩],none,[],[],none,[]⟩,CT,xL⟩
theorem EK:T2.fn 105=some JC:=by kernel_rfl
theorem CV:T2.prim 105=none:=by kernel_rfl
noncomputable def IE(ps:List cv)(i:Nat):Nat:=(ps.getD i ([],[])).1.getD 0 0
noncomputable def dB(ps:List cv)(ch:Nat):Nat->Option Nat
 |0=>none
 |j+1=>if IE ps (j+1)=ch then some (j+1)else dB ps ch j
theorem o8{ps:List cv}{ch i:Nat}:∀{j:Nat},dB ps ch j=some i->i<=j
 |0,h=>nomatch h
 |j+1,h=>by
  unfold dB at h;split at h
  ·cases h;exact le_refl _
  ·exact le_succ_of_le (o8 h)
noncomputable def Bz:Nat->List Int
 |0=>[]
 |j+1=>((j+1:Nat):Int)::Bz j
theorem Bf:∀j:Nat,j<20->Builtin.Range.small (j:Int) 0 (-1)=true/\cm (j:Int) 0 (-1)=Bz j:=by decide+kernel
structure Ex(ps:List cv):Prop where
 h:∀i,1<=i->i<ps.length->∃a r,(ps.getD i ([],[])).1=a::r
 w:∀i,i<ps.length->∃r a,(ps.getD i ([],[])).2=r++[a]/\a≠32/\a≠9
theorem GB{r:List Nat}:At (r++[a]) (-1) a:=by unfold At;rw[List.length_append,length_singleton,show(-1:Int)= -(((0:Nat):Int)+1)from rfl,jX (succ_pos _)];refine(?_:(r++[a])[r.length]?=some a);rw[List.getElem?_append_right (le_refl _),sub_self];rfl
theorem Lk(h:ch=32∨ch=9):Txt.isspace (SL [ch])=true:=by rcases h with rfl|rfl<;>kernel_rfl
theorem BR{w:Int}(hch:ch=32∨ch=9)(hps:Ex ps){pi pc:Pos}:∀(j k:Nat) (m:Loc) (V:aI),j<ps.length->j<k->Cx A V m [("ch",.sc (.str (SL [ch]))),("self",.fmt f L c w sg ls ps)]->(∀i m' V',dB ps ch j=some i->aB V V'->Cx A V' m' [("i",bu i),("self",.fmt f L c w sg ls ps)]->S (.next,m') V')->(dB ps ch j=none->∀m' V',aB V V'->Cx A V' m' [("self",.fmt f L c w sg ls ps)]->S (.cont,m') V')->Wp (jM T2 (al T2 (n+20)) xL (.Name "i" pi) sK [.Continue pc] k (.vals ((Bz j).map PV.int)) m) V S:=by
 intro j;induction j with
 |zero=>
  intro k m V hj hk C q1 q2;cases k with
  |zero=>exact absurd hk (not_lt_zero _)
  |succ k=>exact jF rfl (ao (.ok (ny (q2 rfl m V (.refl _) (C.sub rfl)))))
 |succ j ih=>
  intro k m V hj hk C q1 q2;cases k with
  |zero=>exact absurd hk (not_lt_zero _)
  |succ k=>
  obtain⟨a,r,ea⟩:=hps.h (j+1) (succ_pos _) hj;obtain⟨r',b,eb,hb⟩:=hps.w j (lt_of_succ_lt hj);have e1:ps[j+1]?=some (ps.getD (j+1) ([],[])):=by rw[List.getD_eq_getElem?_getD,List.getElem?_eq_getElem hj];rfl
  have e0:ps[j]?=some (ps.getD j ([],[])):=by rw[List.getD_eq_getElem?_getD,List.getElem?_eq_getElem (lt_of_succ_lt hj)];rfl
  have hh:IE ps (j+1)=a:=by unfold IE;rw[ea];rfl
  have C:=C.set (x:="i") (t:=bu (j+1)) (v:=.int ((j+1:Nat):Int)) rfl;refine dZ (λ_=>rfl) rfl ?_;unfold sK;refine bR (b:=true) (JB.to (lf (λ_=>rfl) (gX rfl (aa rfl rfl) (iz rfl) tY)) (Lk hch)) C (λ_ V1 LQ C=>?_) (λh=>nomatch h);refine aD (t:=.sc (.str (SL (a::r)))) (λ_=>rfl) rfl ?_ C λm V2 LO C=>?_
  ·exact aG rfl (IP rfl rfl (aa rfl rfl) (aa rfl rfl) e1) an (gV (by rw[<-ea];rfl))
  refine bR (o3 (EG (λ_=>rfl) (aa rfl rfl)) (a8 rfl (aG rfl (aa rfl rfl) an (bG (bg (k:=0) rfl))) (aa rfl rfl) dD)) C (λh V3 LN C=>?_) λh V3 LN C=>?_
  ·have h:a=ch:=(List.cons.inj (of_decide_eq_true (and_eq_true_iff.mp h).2)).1;have hs:dB ps ch (j+1)=some (j+1):=if_pos (hh.trans h);exact ao (.ok (fq (fq (fq (.inr (.inr ⟨rfl,q1 _ _ _ hs ((LQ.trans LO).trans LN) (C.sub rfl)⟩))))))
  ·have h:a≠ch:=λe=>by
    rw[e]at h;have:(decide ((ch::r).length≠0)&&decide ([ch]=[ch]))=true:=by rw[decide_eq_true rfl,decide_eq_true (show(ch::r).length≠0 from Nat.succ_ne_zero _)];rfl
    rw[this]at h;cases h
   have hs:dB ps ch (j+1)=dB ps ch j:=if_neg (λe=>h (hh.symm.trans e));rw[hs]at q1 q2;refine ak (ae (ak (ae ?_)));refine aD (t:=.sc (.str (SL (r'++[b])))) (λ_=>rfl) rfl ?_ C λm V4 k₄ C=>?_
   ·exact aG rfl (IP (i:=j) rfl rfl (aa rfl rfl) (J.to (aA (aa rfl rfl) an cI) (by show Tr.sc (.int (((j+1:Nat):Int)-1))=bu j;rw[show((j+1:Nat):Int)-1=j from Int.add_sub_cancel (j:Int) 1])) e0) an (gV (by rw[<-eb];rfl))
   refine bR (b:=false) (JB.to (o3 (EG (λ_=>rfl) (aa rfl rfl)) (a8 rfl (aG rfl (aa rfl rfl) (qR an) (bG GB)) (aa rfl rfl) dD)) ?_) C (λh=>nomatch h) λ_ V5 LP C=>?_
   ·rw[decide_eq_false (p:=[b]=[ch]) λe=>by rcases hch with rfl|rfl;exact hb.1 (List.cons.inj e).1;exact hb.2 (List.cons.inj e).1];exact Bool.and_false _
   ·have K:=(((LQ.trans LO).trans LN).trans k₄).trans LP;exact ak (ae (ak (.inl ⟨.inl rfl,ih k _ _ (lt_of_succ_lt hj) (lt_of_succ_lt_succ hk) (C.sub rfl) (λi m' V' e k' c=>q1 i m' V' e (K.trans k') c) λe m' V' k' c=>q2 e m' V' (K.trans k') c⟩)))
noncomputable def kP(c0 c1:Nat)(ps:List cv):Option Nat:=match dB ps c0 (ps.length-1)with
 |some i=>some i
 |none=>dB ps c1 (ps.length-1)
theorem rH{w:Int}(hch:ch=32∨ch=9)(hps:Ex ps)(h0:0<ps.length)(h1:ps.length<20)(C:Cx A V m [("ch",.sc (.str (SL [ch]))),("self",.fmt f L c w sg ls ps)]) (q1:∀i m' V',dB ps ch (ps.length-1)=some i->aB V V'->Cx A V' m' [("i",bu i),("self",.fmt f L c w sg ls ps)]->S (.brk,m') V')(q2:dB ps ch (ps.length-1)=none->∀m' V',aB V V'->Cx A V' m' [("self",.fmt f L c w sg ls ps)]->S (.cont,m') V'):Wp ((al T2 (n+21)).ss xL m tU) V S:=by unfold tU;obtain⟨r1,r2⟩:=Bf (ps.length-1) (lt_of_le_of_lt (sub_le ..) h1);have hl:(ps.length:Int)-1=(ps.length-1:Nat):=(Int.ofNat_sub h0).symm;refine ao (nJ rfl ((lc (x:="range") (f:=.typ "range") (λ_ _=>rfl) rfl rfl rfl (aA (JA rfl rfl (Nat.le_trans (Nat.le_of_lt h1) (by decide)) (aa rfl rfl)) an cI) an (qR an) (og rfl) A V m C).mono λv V1 g=>?_));obtain⟨k,r,rfl,_,e⟩:=g;rw[hl]at e;refine Wp.getO e (Wp.must r1 (.ok ?_));rw[r2];exact BR hch hps (ps.length-1) c7 m V1 (sub_lt h0 Nat.one_pos) (lt_trans (lt_of_le_of_lt (sub_le ..) h1) (by decide)) (C.keep k) (λi m' V' h k' c=>ae (ao (.ok (fq (q1 i m' V' h (k.trans k') c))))) λh m' V' k' c=>ny (q2 h m' V' (k.trans k') c)
theorem aX.toR{r:Nat}(k:aX r V V')(h:r∈rs):bT rs V V':=⟨k.1,λj o h' e=>k.2 j o (λq=>h' (q▸h)) e⟩
noncomputable def fN(w:Int)(c0 c1:Nat)(s:List (List Nat)×List cv)(q:cv):List (List Nat)×List cv:=
 if decide (w<(gk (s.2++[q]):Nat))=true then(s.1++[be ((s.2++[q]).take ((kP c0 c1 (s.2++[q])).getD 0))],(s.2++[q]).drop ((kP c0 c1 (s.2++[q])).getD 0))else(s.1,s.2++[q])
structure Gv(w:Int)(c0 c1:Nat)(ps:List cv):Prop where
 c:(c0=32∨c0=9)/\(c1=32∨c1=9)
 p:Ex ps
 l:ps.length<20
 s:Short ps
 x:w<(gk ps:Nat)->(kP c0 c1 ps).isSome=true
noncomputable def Kh:List Stmt:=match CT with
 |[_,.If _ b _ _]=>b.drop 1
 |_=>[]
set_option tactic.hygienic true in
set_option maxHeartbeats 1000000 in
theorem yp{w:Int}{c0 c1:Nat}{a b:List Nat}(hA:∀j,A j)(h:Gv w c0 c1 (ps++[(a,b)]))(hls:ls.length<100)(F:mU A f L c w [c0,c1] ls ps V) (q:∀V',bT [L,c] V V'->mU A f L c w [c0,c1] (fN w c0 c1 (ls,ps) (a,b)).1 (fN w c0 c1 (ls,ps) (a,b)).2 V'->Q .none V'):Wp ((al T2 (n+40)).call 105 [.ref f,.str (SL a),.str (SL b)]) V Q:=by
 refine dF CV EK rfl ?_;have C:Cx A V _ [("string",.sc (.str (SL b))),("fws",.sc (.str (SL a))),("self",.fmt f L c w [c0,c1] ls ps)]:=(((Cx.nil (m:=λ_=>none) λj _=>hA j).set (x:="self") (t:=.fmt f L c w [c0,c1] ls ps) (v:=.ref f) ⟨rfl,F⟩).set (x:="fws") (t:=.sc (.str (SL a))) rfl).set (x:="string") (t:=.sc (.str (SL b))) rfl;generalize hS:(λ(fm:a9×Loc) (V':aI)=>∃v,lU fm.1=some v/\Q v V')=S;have q:∀fl m V',(fl=.next∨fl=.ret .none)->bT [L,c] V V'->mU A f L c w [c0,c1] (fN w c0 c1 (ls,ps) (a,b)).1 (fN w c0 c1 (ls,ps) (a,b)).2 V'->S (fl,m) V':=λfl m V' h k F=>hS▸⟨.none,by rcases h with rfl|rfl<;>rfl,q V' k F⟩;clear hS;refine(?_:Wp ((al T2 (n+39)).ss xL _ CT) V S);unfold CT;have hl:ps.length<=100:=by have:=h.l;rw[List.length_append]at this;exact Nat.le_trans (Nat.le_trans (le_add_right ..) (Nat.le_of_lt this)) (by decide)
 refine ao (dY rfl (kb rfl rfl rfl rfl (qt rfl (aa rfl rfl)) (aa rfl rfl) (aa rfl rfl) C F.c (λj _=>hA j) hl λV1 LQ P=>ae ?_));have C:=(C.sub (l':=[("self",.fmt f L c w [c0,c1] ls ps),("string",.sc (.str (SL b))),("fws",.sc (.str (SL a)))]) rfl).obj (t':=.fmt f L c w [c0,c1] ls (ps++[(a,b)])) ⟨⟨_,rfl⟩,⟨_,rfl⟩,trivial⟩ LQ.1 λv r=>⟨r.1,r.2.pile LQ P⟩;have F:=F.pile LQ P;have My:=LQ.toR (rs:=[L,c]) (.tail _ (.head _));unfold fN at q;have q:∀fl m V' (s:List (List Nat)×List cv),(if decide (w<(gk (ps++[(a,b)]):Nat))=true then(ls++[be ((ps++[(a,b)]).take ((kP c0 c1 (ps++[(a,b)])).getD 0))],(ps++[(a,b)]).drop ((kP c0 c1 (ps++[(a,b)])).getD 0))else(ls,ps++[(a,b)]))=s->(fl=.next∨fl=.ret .none)->bT [L,c] V V'->mU A f L c w [c0,c1] s.1 s.2 V'->S (fl,m) V':=by rintro fl m V' s rfl;exact q fl m V'
 clear P hl LQ;generalize ps++[(a,b)]=ps at*;have hl:ps.length<=100:=h.s.1;refine bR (a8 rfl (qm (λ_ _=>rfl) rfl h.s (aa rfl rfl)) (qC rfl (aa rfl rfl) (by kernel_rfl) rfl) gD) C (λhb V2 LO C=>?_) λhb V2 LO C=>?_
 ·have hs:=h.x (of_decide_eq_true hb);have R₂:=My.trans LO.toR;obtain⟨i₀,hi0⟩:=isSome_iff_exists.mp hs;have hp0:0<ps.length:=by
   cases ps with
   |nil=>exact absurd hi0 (by unfold kP;exact λh=>nomatch h)
   |cons=>exact succ_pos _
  have bn:∀m' V',aB V2 V'->Cx A V' m' [("i",bu i₀),("self",.fmt f L c w [c0,c1] ls ps)]->Wp ((al T2 (n+38)).ss xL m' Kh) V' (mE T2 (n+38) xL [] S):=λm' V' k C=>by
   have R₃:=R₂.trans k.toR;have F:=F.mono λi o a e=>(⟨a,(LO.trans k).2 _ _ e⟩:A i/\_);have hi:i₀<=ps.length:=by
    have:i₀<=ps.length-1:=by
     unfold kP at hi0;split at hi0
     ·rename_i e;cases hi0;exact o8 e
     ·exact o8 hi0
    lia
   refine ao (cH rfl rfl (Bx sx rfl rfl rfl (qt rfl (aa rfl rfl)) (aa rfl rfl) C F.c λv V3 LN P C r=>?_));obtain rfl:v=.int i₀:=r;have F:=F.mono λi o a e=>(⟨a,LN.2 _ _ e⟩:A i/\_);refine uD C.a P hi hl λρ V4 hρ k₄ P hy=>ae ?_;have C:=((C.sub (l':=[("self",.fmt f L c w [c0,c1] ls ps),("i",bu i₀)]) rfl).obj (t':=.fmt f L c w [c0,c1] ls (ps.take i₀)) ⟨⟨_,rfl⟩,trivial⟩ k₄.1 λv r=>⟨r.1,r.2.pile k₄ P⟩).set (x:="remainder") (t:=.sc (.ref ρ)) rfl;have hL:L≠ρ:=ne_of_lt (lt_of_lt_of_le (bN F.l) hρ);have F:=F.pile k₄ P;have R4:=(R₃.trans LN.toR).trans (k₄.toR (.tail _ (.head _)));have hl':(ps.take i₀).length<=100:=Nat.le_trans (List.length_take_le' ..) hl;refine ao (dY rfl (oz (t:=.sc (.str (SL (be (ps.take i₀))))) rfl (qC rfl (aa rfl rfl) (by kernel_rfl) rfl) rfl rfl F.l (by rw[length_map];(exact Nat.le_trans (by assumption) (le_add_left ..))) rfl (λV' _ C=>rY (λ_ _=>rfl) rfl ⟨hl',λp hp=>h.s.2 p (List.mem_of_mem_take hp)⟩ (aa rfl rfl) A V' _ C) C λV5 v LP r o C=>ae ?_));obtain rfl:v=_:=r;have LR:aX L V5 (V5.set L (.list ((ls.map λl=>.str (SL l))++[.str (SL (be (ps.take i₀)))]))):=.set ..;have F:=(F.mono λi o a e=>(⟨a,LP.2 _ _ e⟩:A i/\_)).line LR (cg o);have hy:∃ys,bH A (V5.set L (.list ((ls.map λl=>.str (SL l))++[.str (SL (be (ps.take i₀)))]))) (.list ys) (.ref ρ)/\bo (λv p=>bH A (V5.set L (.list ((ls.map λl=>.str (SL l))++[.str (SL (be (ps.take i₀)))]))) (.tup (m9 p)) v) ys (ps.drop i₀):=by obtain⟨ys,⟨ρ',e1,e2,e3⟩,r⟩:=hy;cases cY e1;refine⟨ys,⟨ρ,rfl,e2,LR.2 _ _ (Ne.symm hL) (LP.2 _ _ e3)⟩,r.mono λ_ _ ⟨ρ2,h1,h2,h3⟩=>⟨ρ2,h1,h2,LR.2 _ _ (λq=>?_) (LP.2 _ _ h3)⟩⟩;have:=LP.2 _ _ h3;rw[q,o]at this;cases this
   have C:=(C.sub (l':=[("self",.fmt f L c w [c0,c1] ls (ps.take i₀)),("remainder",.sc (.ref ρ))]) rfl).obj (t':=.fmt f L c w [c0,c1] (ls++[be (ps.take i₀)]) (ps.take i₀)) ⟨⟨_,rfl⟩,trivial⟩ LR.1 λv r=>⟨r.1,F⟩;have R6:=(R4.trans LP.toR).trans (LR.toR (.head _));generalize V5.set L (.list ((ls.map λl=>.str (SL l))++[.str (SL (be (ps.take i₀)))]))=V6 at*;refine ao (dY rfl (Bx rk rfl rfl rfl (qt rfl (aa rfl rfl)) (aa rfl rfl) C F.c λv V7 LU P C r=>?_));obtain rfl:v=.ref ρ:=r;refine wV (qs:=ps.drop i₀) P hl' (Nat.le_trans (by rw[length_drop];exact sub_le ..) hl) ?_ λV8 k₈ P=>ae (ak (ae (ak (q _ _ _ _ (if_pos hb) (.inl rfl) ((R6.trans LU.toR).trans (k₈.toR (.tail _ (.head _)))) ?_))))
   ·obtain⟨ys,r1,r2⟩:=hy;exact⟨ys,r1.mono λi o a e=>⟨a,LU.2 _ _ e⟩,r2.mono λ_ _ h=>h.mono λi o a e=>⟨a,LU.2 _ _ e⟩⟩
   ·rw[hi0];exact(F.mono λi o a e=>(⟨a,LU.2 _ _ e⟩:A i/\_)).pile k₈ P
  refine ao (nJ rfl ((qC (v:=.str (SL [c0,c1])) rfl (aa rfl rfl) (by kernel_rfl) rfl A V2 _ C).mono λv V3 g=>?_));obtain⟨LN,rfl⟩:=g;have C:=C.keep LN;refine .ok (dZ (k:=c7-1) (v:=.str (SL [c0])) (it':=.vals [.str (SL [c1])]) (λ_=>rfl) rfl (rH h.c.1 h.p hp0 h.l ((C.set (x:="ch") (t:=.sc (.str (SL [c0]))) rfl).sub rfl) (λi m' V' e k C=>?_) λe m' V' k C=>?_))
  ·have:i=i₀:=by unfold kP at hi0;rw[e]at hi0;exact Option.some.inj hi0
   subst this;exact .inr (.inr ⟨rfl,ae (bn m' V' (LN.trans k) C)⟩)
  ·refine .inl ⟨.inr rfl,dZ (k:=c7-2) (v:=.str (SL [c1])) (it':=.vals []) (λ_=>rfl) rfl (rH h.c.2 h.p hp0 h.l ((C.set (x:="ch") (t:=.sc (.str (SL [c1]))) rfl).sub rfl) (λi m'' V'' e' k' C=>?_) λe' m'' V'' k' C=>?_)⟩
   ·have:i=i₀:=by unfold kP at hi0;rw[e,e']at hi0;exact Option.some.inj hi0
    subst this;exact .inr (.inr ⟨rfl,ae (bn m'' V'' ((LN.trans k).trans k') C)⟩)
   ·unfold kP at hi0;rw[e,e']at hi0;cases hi0
 ·exact ak (ae (ak (q _ _ _ _ (if_neg (by rw[hb];exact Bool.false_ne_true)) (.inl rfl) (My.trans LO.toR) (F.mono λi o a e=>⟨a,LO.2 _ _ e⟩))))
noncomputable def bK:List (List Nat)->List Nat
 |[]=>[]
 |[x]=>x
 |x::r=>x++[10]++bK r
theorem qa:∀l:List (List Nat),Str.join (SL [10]) (l.map SL)=SL (bK l)
 |[]=>rfl
 |[x]=>rfl
 |x::y::l=>by refine(?_:SL x++SL [10]++Str.join (SL [10]) ((y::l).map SL)=_);rw[qa (y::l),kc,kc];rfl
theorem nU:∀l:List (List Nat),(bK l).length<=(l.map (·.length)).sum+l.length
 |[]=>le_refl _
 |[x]=>by show x.length<=x.length+0+1;(exact le_succ _)
 |x::y::l=>by have:=nU (y::l);refine(?_:(x++[10]++bK (y::l)).length<=x.length+((y::l).map (·.length)).sum+((y::l).length+1));rw[List.length_append,List.length_append,length_singleton];lia
def AH(l:List (List Nat)):Prop:=∀x∈l,10∉x
theorem y8{x r:List Nat}(h:10∉x):(x++10::r).takeWhile (λc=>decide (c≠10))=x/\(x++10::r).dropWhile (λc=>decide (c≠10))=10::r:=by
 induction x with
 |nil=>exact⟨rfl,rfl⟩
 |cons a x ih=>have ha:decide (a≠10)=true:=decide_eq_true λe=>h (e▸.head _);obtain⟨h1,h2⟩:=ih λq=>h (.tail _ q);rw[List.cons_append,List.takeWhile_cons,List.dropWhile_cons,if_pos ha,if_pos ha,h1];exact⟨rfl,h2⟩
theorem wY{l:List (List Nat)}:∀{l':List (List Nat)},AH l->AH l'->l≠[]->l'≠[]->bK l=bK l'->l=l':=by
 induction l with
 |nil=>exact λ_ _ h=>absurd rfl h
 |cons x l ih=>
  intro l' h h' _ hn e;cases l' with
  |nil=>exact absurd rfl hn
  |cons y l'=>
  cases l with
  |nil=>
   cases l' with
   |nil=>exact congrArg (λx=>[x]) (show x=y from e)
   |cons z r=>have e:x=y++[10]++bK (z::r):=e;exact absurd (by rw[e,List.append_assoc];exact mem_append_right _ (.head _)) (h x (.head _))
  |cons w r=>
   cases l' with
   |nil=>have e:x++[10]++bK (w::r)=y:=e;exact absurd (by rw[<-e,List.append_assoc];exact mem_append_right _ (.head _)) (h' y (.head _))
   |cons z r'=>have e:x++[10]++bK (w::r)=y++[10]++bK (z::r'):=e;rw[List.append_assoc,List.append_assoc]at e;have e:x++10::bK (w::r)=y++10::bK (z::r'):=e;have a:=y8 (r:=bK (w::r)) (h x (.head _));have b:=y8 (r:=bK (z::r')) (h' y (.head _));rw[e]at a;rw[a.1.symm.trans b.1,ih (λx hx=>h x (.tail _ hx)) (λx hx=>h' x (.tail _ hx)) (λh=>nomatch h) (λh=>nomatch h) (List.cons.inj (a.2.symm.trans b.2)).2]
theorem lN{l:List (List Nat)}(h:AH l)(hn:bK l≠[]):Txt.split (SL (bK l)) (SL [10])=l.map SL:=by
 have h1:=StrLaws.join_split (SL (bK l)) (SL [10]);have h2:∀p∈Txt.split (SL (bK l)) (SL [10]),10∉p.cps.toList:=StrLaws.split_free (SL (bK l)) 10;generalize Txt.split (SL (bK l)) (SL [10])=P at h1 h2;have eP:P=(P.map λs=>s.cps.toList).map SL:=by rw[map_map];exact(List.map_id' P).symm
 rw[eP,qa]at h1;have hl:l≠[]:=λe=>hn (by rw[e];rfl);rw[eP,wY (l:=P.map λs=>s.cps.toList) (λx hx=>?_) h (λe=>hn ?_) hl (mj h1)]
 ·obtain⟨s,hs,rfl⟩:=mem_map.mp hx;exact h2 s hs
 ·rw[<-mj h1,e];rfl
theorem yQ(h:(ls.map (·.length)).sum+ls.length<=1000):s8 n (.blt "str.join") (.sc (.str (SL [10]))) (.lst (aJ ls)) (.sc (.str (SL (bK ls)))):=λ_ V a b _ ha hb=>qP (f:=λa=>bk (al T2 n) T2 (.blt "str.join") [a,b]) ha (show Wp (nG (.str (SL [10])) b) V _ by unfold nG;have e:Txt.join (SL [10]) (ls.map SL)=SL (bK ls):=(StrLaws.glued_eq_join ..).trans (qa ls);exact Wp.lift (a:=SL [10]) rfl (g6 hb (Wp.lift (oB ls) (Wp.must (dL (by rw[map_map,length_map];show(ls.map (·.length)).sum+_*1<=_;lia)) (b9 e (Nat.le_trans (nU ls) h) ⟨.refl _,rfl⟩)))))
theorem xR(h:AH ls)(hn:bK ls≠[])(hl:ls.length<=1000)(hx:∀l∈ls,l.length<=1000):s8 n (.blt "str.split") (.sc (.str (SL (bK ls)))) (.sc (.str (SL [10]))) (.lst (aJ ls)):=λA V a b hA ha hb=>
 t3 (f:=λa b=>bk (al T2 n) T2 (.blt "str.split") [a,b]) ha hb (show Wp (o9 (.str (SL (bK ls))) (.str (SL [10]))) V _ by
  unfold o9;refine Wp.lift (a:=SL (bK ls)) rfl (Wp.lift (a:=SL [10]) rfl (Wp.must ?_ ?_))
  ·rw[lN h hn];refine and_eq_true_iff.mpr ⟨and_eq_true_iff.mpr ⟨rfl,all_eq_true.mpr λs hs=>?_⟩,decide_eq_true ?_⟩
   ·obtain⟨l,hl,rfl⟩:=mem_map.mp hs;exact tO (n:=l.length) rfl (hx l hl)
   ·rw[length_map];exact Nat.le_trans hl (by decide)
  ·rw[lN h hn,map_map];exact G.new (t:=.lst (aJ ls)) (o:=.list (aJ ls)) hA rfl λ_ h=>h)
theorem F0{l:List Nat}:A6 .In (.str (SL [c])) (.str (SL l)) (decide (c∈l)):=λV=>by refine(?_:some (PV.bool _,V)=_);rw[show(!(Builtin.Str.occurrences (SL l) (SL [c]) 0 (SL l).length 1).isEmpty)=decide (c∈(SL l).cps.toList)from StrLaws.found_one (SL l) c];rfl
noncomputable def KP:List Stmt:=[.Assign [.Name "end_of_line" (pP 73 8 19)] (.Call (.Attribute (.Attribute (.Name "self" (pP 73 22 26)) "_current_line" (pP 73 22 40)) "pop" (pP 73 22 44)) [] [] (pP 73 22 46)) (pP 73 8 46),.If (.Compare (.Name "end_of_line" (pP 74 11 22)) [.NotEq] [.Tuple [.Constant (.str " ") 0 (pP 74 27 30),.Constant (.str "") 0 (pP 74 32 34)] 0 (pP 74 26 35)] (pP 74 11 35)) [.Expr (.Call (.Attribute (.Attribute (.Name "self" (pP 75 12 16)) "_current_line" (pP 75 12 30)) "push" (pP 75 12 35)) [.Starred (.Name "end_of_line" (pP 75 37 48)) (pP 75 36 48)] [] (pP 75 12 49)) (pP 75 12 49)] [] ⟨74,8,75,49⟩,.If (.Compare (.Call (.Name "len" (pP 76 11 14)) [.Attribute (.Name "self" (pP 76 15 19)) "_current_line" (pP 76 15 33)] [] (pP 76 11 34)) [.Gt] [.Constant (.int 0) 0 (pP 76 37 38)] (pP 76 11 38)) [.If (.BoolOp .And [.Call (.Attribute (.Attribute (.Name "self" (pP 77 15 19)) "_current_line" (pP 77 15 33)) "is_onlyws" (pP 77 15 43)) [] [] (pP 77 15 45),.Attribute (.Name "self" (pP 77 50 54)) "_lines" (pP 77 50 61)] (pP 77 15 61)) [.AugAssign (.Subscript (.Attribute (.Name "self" (pP 78 16 20)) "_lines" (pP 78 16 27)) (.UnaryOp .USub (.Constant (.int 1) 0 (pP 78 29 30)) (pP 78 28 30)) (pP 78 16 31)) .Add (.Call (.Name "str" (pP 78 35 38)) [.Attribute (.Name "self" (pP 78 39 43)) "_current_line" (pP 78 39 57)] [] (pP 78 35 58)) (pP 78 16 58)] [.Expr (.Call (.Attribute (.Attribute (.Name "self" (pP 80 16 20)) "_lines" (pP 80 16 27)) "append" (pP 80 16 34)) [.Call (.Name "str" (pP 80 35 38)) [.Attribute (.Name "self" (pP 80 39 43)) "_current_line" (pP 80 39 57)] [] (pP 80 35 58)] [] (pP 80 16 59)) (pP 80 16 59)] ⟨77,12,80,59⟩] [] ⟨76,8,80,59⟩,.Expr (.Call (.Attribute (.Attribute (.Name "self" (pP 81 8 12)) "_current_line" (pP 81 8 26)) "reset" (pP 81 8 32)) [] [] (pP 81 8 34)) (pP 81 8 34)]
noncomputable def Jp:Scope:=⟨.function,[("self",.local),("end_of_line",.local),("len",.globalImplicit),("str",.globalImplicit)],false,false,[]⟩
noncomputable def LD:Fn:=⟨"_ValueFormatter.newline",⟨[],[⟨"self",none,(pP 72 16 20)⟩],none,[],[],none,[]⟩,KP,Jp⟩
noncomputable def Kr:List Stmt:=[.Expr (.Call (.Attribute (.Name "self" (pP 66 8 12)) "newline" (pP 66 8 20)) [] [] (pP 66 8 22)) (pP 66 8 22),.Return (some (.Call (.Attribute (.Name "linesep" (pP 67 15 22)) "join" (pP 67 15 27)) [.Attribute (.Name "self" (pP 67 28 32)) "_lines" (pP 67 28 39)] [] (pP 67 15 40))) (pP 67 8 40)]
noncomputable def Lb:Scope:=⟨.function,[("self",.local),("linesep",.local)],false,false,[]⟩
noncomputable def Lz:Fn:=⟨"_ValueFormatter._str",⟨[],[⟨"self",none,(pP 65 13 17)⟩,⟨"linesep",none,(pP 65 19 26)⟩],none,[],[],none,[]⟩,Kr,Lb⟩
noncomputable def KH:List Stmt:=[.Assign [.Attribute (.Name "self" (pP 58 8 12)) "_maxlen" (pP 58 8 20)] (.Name "maxlen" (pP 58 23 29)) (pP 58 8 29),.Assign [.Attribute (.Name "self" (pP 59 8 12)) "_continuation_ws" (pP 59 8 29)] (.Name "continuation_ws" (pP 59 32 47)) (pP 59 8 47),.Assign [.Attribute (.Name "self" (pP 60 8 12)) "_continuation_ws_len" (pP 60 8 33)] (.Call (.Name "len" (pP 60 36 39)) [.Name "continuation_ws" (pP 60 40 55)] [] (pP 60 36 56)) (pP 60 8 56),.Assign [.Attribute (.Name "self" (pP 61 8 12)) "_splitchars" (pP 61 8 24)] (.Name "splitchars" (pP 61 27 37)) (pP 61 8 37),.Assign [.Attribute (.Name "self" (pP 62 8 12)) "_lines" (pP 62 8 19)] (.List [] (pP 62 22 24)) (pP 62 8 24),.Assign [.Attribute (.Name "self" (pP 63 8 12)) "_current_line" (pP 63 8 26)] (.Call (.Name "_Accumulator" (pP 63 29 41)) [.Name "headerlen" (pP 63 42 51)] [] (pP 63 29 52)) (pP 63 8 52)]
noncomputable def K8:Scope:=⟨.function,[("self",.local),("headerlen",.local),("maxlen",.local),("continuation_ws",.local),("splitchars",.local),("len",.globalImplicit),("_Accumulator",.globalImplicit)],false,false,[]⟩
noncomputable def Lg:Fn:=⟨"_ValueFormatter.__init__",⟨[],[⟨"self",none,(pP 57 17 21)⟩,⟨"headerlen",none,(pP 57 23 32)⟩,⟨"maxlen",none,(pP 57 34 40)⟩,⟨"continuation_ws",none,(pP 57 42 57)⟩,⟨"splitchars",none,(pP 57 59 69)⟩],none,[],[],none,[]⟩,KH,K8⟩
theorem Ic:T2.fn 70=some LD:=by kernel_rfl
theorem Fu:T2.prim 70=none:=by kernel_rfl
theorem Im:T2.fn 56=some Lz:=by kernel_rfl
theorem Hg:T2.prim 56=none:=by kernel_rfl
theorem JS:T2.fn 49=some Lg:=by kernel_rfl
theorem Fq:T2.prim 49=none:=by kernel_rfl
noncomputable def jO:x7:=(T2.cls 108).getD ⟨none,λ_=>none,λ_=>none,false⟩
theorem gQ:T2.cls 108=some jO:=by kernel_rfl
theorem xx{l:List Nat}(h:∃c∈l,Unicode.isSpace c=false):Txt.isspace (SL l)=false:=by obtain⟨c,hc,e⟩:=h;unfold Txt.isspace SL;rw[List.all_toArray,List.all_eq_false.mpr ⟨c,hc,by rw[e];exact Bool.false_ne_true⟩,Bool.and_false]
inductive BC(n:Nat)(ov f v:PV)(V3:aI)(Q:PV->aI->Prop):Prop where
 |mk (r:Nat) (a:Addr) (j:Nat) (as:List PV) (e1:ov=.ref r) (e2:f=.obj a) (e3:v=.ref j) (ej:V3[j]?=some (.tup as)) (hb:((T2.cls a).isNone&&(T2.fn a).isSome)=true) (h:Wp ((al T2 n).call a (ov::as)) V3 Q):BC n ov f v V3 Q
theorem G3(hs:aH o=true)(h:Wp ((al T2 n).e sc m o) V λov V'=>Wp (bx T2 ov x) V' λf V''=>Wp ((al T2 n).e sc m e) V'' λv V3=>BC n ov f v V3 Q):Wp ((al T2 (n+1)).e sc m (.Call (.Attribute o x ap) [.Starred e p'] [] p)) V Q:=by refine Wp.must hs (Wp.bd (h.mono λov V' h=>Wp.bd (h.mono λf V'' h=>?_)));refine Wp.bd (x:=E0 (al T2 n) sc m e) (Wp.bd (h.mono λv V3 h=>?_));obtain⟨r,a,j,as,e1,e2,e3,ej,hb,h⟩:=h;subst e3;exact Wp.lift (a:=j) rfl (Wp.getO ej (.ok (Wp.lift (a:=r) (by rw[e1];rfl) (Wp.lift (a:=a) (by rw[e2];rfl) (Wp.must hb h)))))
theorem wR(P:aU B c ps V)(hs:Short ps)(hf:gk ps≠0)(hx:∃c∈be ps,Unicode.isSpace c=false)(h:Q (.bool false) V):Wp (jw aR [.ref c]) V Q:=by obtain⟨xs,e,r⟩:=id P;refine dM e (u9 ?_);rw[if_pos rfl];refine Wp.bd (wA P hs ?_);rw[if_neg (by simp_all)];refine Wp.bd (wJ P hs ?_);rw[xx hx];exact .ok h
structure GJ(ps:List cv):Prop where
 s:Short ps
 n:ps≠[]
 w:(cX ps).2≠[]
 x:∃c∈be ps,Unicode.isSpace c=false
set_option maxHeartbeats 800000 in
theorem Iy{w:Int}(hA:∀j,A j)(h:GJ ps)(hls:ls.length<100)(F:mU A f L c w sg ls ps V) (q:∀V',bT [L,c] V V'->mU A f L c w sg (ls++[be ps]) [] V'->Q .none V'):Wp ((al T2 (n+30)).call 70 [.ref f]) V Q:=by
 refine dF Fu Ic rfl ?_;have C:Cx A V _ [("self",.fmt f L c w sg ls ps)]:=(Cx.nil (m:=λ_=>none) λj _=>hA j).set (x:="self") (t:=.fmt f L c w sg ls ps) (v:=.ref f) ⟨rfl,F⟩;generalize hS:(λ(fm:a9×Loc) (V':aI)=>∃v,lU fm.1=some v/\Q v V')=S;have q:∀m V',bT [L,c] V V'->mU A f L c w sg (ls++[be ps]) [] V'->S (.next,m) V':=λm V' k F=>hS▸⟨.none,rfl,q V' k F⟩;clear hS;refine(?_:Wp ((al T2 (n+29)).ss Jp _ KP) V S);unfold KP;have hl:=h.s.1;have hdl:ps.dropLast.length<=100:=by rw[length_dropLast];exact Nat.le_trans (sub_le ..) hl
 have hps:ps.dropLast++[cX ps]=ps:=by have:=List.dropLast_concat_getLast h.n;unfold cX;rw[List.getLast?_eq_some_getLast h.n];exact this
 refine ao (cH rfl rfl (pO sB rfl (qt rfl (aa rfl rfl)) C F.c λV1 LQ P C=>tI C.a P hl λr V2 LO P rt=>ae ?_));have F:=F.mono λi o a e=>(⟨a,LQ.2 _ _ e⟩:A i/\_);have C:=C.obj (t':=.fmt f L c w sg ls ps.dropLast) trivial LO.1 λv r=>⟨r.1,r.2.pile LO P⟩;have F:=F.pile LO P;have R:=(LQ.toR (rs:=[L,c])).trans (LO.toR (.tail _ (.head _)));refine bR (b:=true) (JB.to (sA (a:=(cX ps).1) (b:=(cX ps).2) (x:=[32]) (y:=[]) rfl rfl (by decide) (by decide) rfl (aa rfl rfl)) (by rw[decide_eq_false h.w,Bool.and_false];rfl)) (C.set (x:="end_of_line") (t:=.tup (m9 (cX ps))) rt) (λ_ V3 LN C'=>?_) (λe=>nomatch e);have C:=(C'.sub (l':=[("self",.fmt f L c w sg ls ps.dropLast)]) rfl);have F:=F.mono λi o a e=>(⟨a,LN.2 _ _ e⟩:A i/\_);refine ao (dY rfl (G3 rfl (jU rfl (aa rfl rfl) C λV4 k₄ C P=>fg uY P λa h2 h3 h4=>((aa (t:=.tup (m9 (cX ps))) rfl rfl:J _ Jp [("end_of_line",.tup (m9 (cX ps)))] _ _) A V4 _ ((C'.keep k₄).sub rfl)).mono λv V5 g=>?_)));obtain⟨LP,j,rfl,_,ej⟩:=g;refine⟨_,_,j,_,rfl,rfl,rfl,ej,by rw[h3,h4];rfl,?_⟩;have C:=C.keep LP;have F:=F.mono λi o a e=>(⟨a,(k₄.trans LP).2 _ _ e⟩:A i/\_);have P:=pk LP P;refine(show∀{R:PV->aI->Prop},Wp (nr aR (.ref c::m9 (cX ps))) V5 R->Wp ((al T2 (n+26)).call a (.ref c::m9 (cX ps))) V5 R from λh=>?_) ?_
 ·refine(?_:Wp (dX T2 (al T2 (n+25)) a _) V5 _);unfold dX;rw[h2];exact h
 refine vW (λj _=>hA j) P hdl λV6 LR P=>ae (ak (ae ?_));rw[show ps.dropLast++[((cX ps).1,(cX ps).2)]=ps from hps]at P;have C:=C.obj (t':=.fmt f L c w sg ls ps) trivial LR.1 λv r=>⟨r.1,r.2.pile LR P⟩;have F:=F.pile LR P;have R:=(R.trans ((LN.trans k₄).trans LP).toR).trans (LR.toR (.tail _ (.head _)));have hlen:gk ps≠0:=λe=>by
  obtain⟨a,ha,_⟩:=h.x;have:(be ps).length=gk ps:=by unfold be gk;rw[length_flatten,map_map];exact congrArg List.sum (map_congr_left λp _=>List.length_append)
  rw[e]at this;rw[List.eq_nil_of_length_eq_zero this]at ha;cases ha
 refine bR (b:=true) (JB.to (a8 rfl (qm (λ_ _=>rfl) rfl h.s (aa rfl rfl)) an gD) (decide_eq_true (by lia))) C (λ_ V7 LU C=>?_) (λe=>nomatch e);have F:=F.mono λi o a e=>(⟨a,LU.2 _ _ e⟩:A i/\_);have hb:∀{k:Nat} {p1 p2 p3 ap:Pos},decide (ap.endLine=p1.line)=true->JB (k+4) Jp [("self",.fmt f L c w sg ls ps)] (.Call (.Attribute (.Attribute (.Name "self" p3) "_current_line" p2) "is_onlyws" ap) [] [] p1) false:=λhp=>lf (λ_=>rfl) λA V m C=>
  dy rfl rfl (by rw[hp];rfl) (jU rfl (aa rfl rfl) C λV' k C P=>fg xH P λa h2 h3 h4=>aO (iX h2 h3 h4 (wR P h.s hlen h.x ⟨k,rfl⟩)))
 refine ao (KL (Ho (bb_and ((hb rfl A V7 _ C).mono λb V8 g=>?_))));obtain⟨k₈,rfl⟩:=g;have C:=C.keep k₈;have F:=F.mono λi o a e=>(⟨a,k₈.2 _ _ e⟩:A i/\_);refine(if_neg Bool.false_ne_true).mpr ((if_neg Bool.false_ne_true).mpr ?_);refine ao (dY rfl (oz (t:=.sc (.str (SL (be ps)))) rfl (qC rfl (aa rfl rfl) (by kernel_rfl) rfl) rfl rfl F.l (by rw[length_map];lia) rfl (λV' _ C=>rY (λ_ _=>rfl) rfl h.s (aa rfl rfl) A V' _ C) C λV9 v k₉ r o C=>ae (ak (ae (ak (ae ?_))))));obtain rfl:v=_:=r;have kL:aX L V9 (V9.set L (.list ((ls.map λl=>.str (SL l))++[.str (SL (be ps))]))):=.set ..;have F:=(F.mono λi o a e=>(⟨a,k₉.2 _ _ e⟩:A i/\_)).line kL (cg o);have C:=C.obj (t':=.fmt f L c w sg (ls++[be ps]) ps) trivial kL.1 λv r=>⟨r.1,F⟩;have R:=(R.trans ((LU.trans k₈).trans k₉).toR).trans (kL.toR (.head _));generalize V9.set L _=V10 at*;exact ao (dY rfl (pO rk rfl (qt rfl (aa rfl rfl)) C F.c λV11 k11 P C=>A4 P hl λV12 k12 P=>ae (ak (q _ _ ((R.trans k11.toR).trans (k12.toR (.tail _ (.head _)))) ((F.mono λi o a e=>(⟨a,k11.2 _ _ e⟩:A i/\_)).pile k12 P)))))
theorem J7:jO.meth "newline"=some 70:=by kernel_rfl
theorem Dt{w:Int}(ho:aH e=true)(j:J n sc l e (.fmt f L c w sg ls ps)):J (n+1) sc l (.Attribute e "_lines" p) (.lst (aJ ls)):=λA V m C=>iF ho ((j A V m C).mono λa V' g=>by obtain⟨k,rfl,h⟩:=g;exact cC h.f (by kernel_rfl) rfl ⟨k,L,rfl,h.a.2.1,h.l⟩)
theorem Hj{w:Int}(hA:∀j,A j)(h:GJ ps)(hls:ls.length<100)(hj:((ls++[be ps]).map (·.length)).sum+(ls++[be ps]).length<=1000)(F:mU A f L c w sg ls ps V) (q:∀V',bT [L,c] V V'->Q (.str (SL (bK (ls++[be ps])))) V'):Wp ((al T2 (n+40)).call 56 [.ref f,.str (SL [10])]) V Q:=by refine dF Hg Im rfl ?_;have C:Cx A V _ [("linesep",.sc (.str (SL [10]))),("self",.fmt f L c w sg ls ps)]:=((Cx.nil (m:=λ_=>none) λj _=>hA j).set (x:="self") (t:=.fmt f L c w sg ls ps) (v:=.ref f) ⟨rfl,F⟩).set (x:="linesep") (t:=.sc (.str (SL [10]))) rfl;generalize hS:(λ(fm:a9×Loc) (V':aI)=>∃v,lU fm.1=some v/\Q v V')=S;have q:∀m V',bT [L,c] V V'->S (.ret (.str (SL (bK (ls++[be ps])))),m) V':=λm V' k=>hS▸⟨_,rfl,q V' k⟩;clear hS;refine(?_:Wp ((al T2 (n+39)).ss Lb _ Kr) V S);unfold Kr;refine ao (dY rfl (dy rfl rfl rfl ((aa rfl rfl A V _ C).mono λv V1 g=>?_)));obtain⟨LQ,rfl,F⟩:=g;have C:=C.keep LQ;refine dG F.f rfl gQ J7 (aO (eG (by kernel_rfl) (by rw[Ic];rfl) (Iy hA h hls F λV2 LO F=>ae ?_)));have C:=(C.sub (l':=[("self",.fmt f L c w sg ls ps),("linesep",.sc (.str (SL [10])))]) rfl).obj (t':=.fmt f L c w sg (ls++[be ps]) []) ⟨⟨_,rfl⟩,trivial⟩ LO.1 λv r=>⟨r.1,F⟩;refine bI (gR rfl rfl rfl (aa rfl rfl) (Dt rfl (aa rfl rfl)) (iz rfl) (yQ hj)) C λv V3 LN r=>?_;obtain rfl:v=_:=r;exact q _ _ ((LQ.toR.trans LO).trans LN.toR)
theorem hH(hk:bq sc "self"=true)(hm:m "self"=some (.ref f))(hc:ce e=false) (h:Wp ((al T2 (n+1)).e sc m e) V λv V1=>∃fs,V1[f]?=some (.inst 108 fs)/\(attrOk x&&(T2.cls 108).isSome&&decide (fs.length<=100))=true/\∀V2,aX f V1 V2->V2[f]?=some (.inst 108 (gM fs x v))->Wp ((al T2 (n+2)).ss sc m r) V2 S):Wp ((al T2 (n+2)).ss sc m (.Assign [.Attribute (.Name "self" p) x q] e p'::r)) V S:=
 ao (ik rfl hc (h.mono λv V1 h=>yu (l:=[("self",.ref f)]) (DJ.of ⟨hm,trivial⟩) rfl hk (by obtain⟨fs,h1,h2,h3⟩:=h;exact i7 h1 h2 (ae (h3 _ (.set ..) (cg h1))))))
set_option maxHeartbeats 800000 in
theorem Gp{w:Int}(e:V[f]?=some (.inst 108 []))(q:∀L c V',V.length<=L->V.length<=c->aX f V V'->mU (λ_=>True) f L c w sg [] [] V'->Q .none V'):Wp ((al T2 (n+30)).call 49 [.ref f,.int 0,.int w,.str (SL [32]),.str (SL sg)]) V Q:=by
 refine dF Fq JS rfl ?_;have C:Cx (λj=>j≠f) V _ [("splitchars",.sc (.str (SL sg))),("continuation_ws",.sc (.str (SL [32]))),("maxlen",.sc (.int w)),("headerlen",.sc (.int 0)),("self",.sc (.ref f))]:=
  (((((Cx.nil (m:=λ_=>none) λj hj=>ne_of_gt (lt_of_lt_of_le (bN e) hj)).set (x:="self") (t:=.sc (.ref f)) rfl).set (x:="headerlen") (t:=.sc (.int 0)) rfl).set (x:="maxlen") (t:=.sc (.int w)) rfl).set (x:="continuation_ws") (t:=.sc (.str (SL [32]))) rfl).set (x:="splitchars") (t:=.sc (.str (SL sg))) rfl
 generalize hS:(λ(fm:a9×Loc) (V':aI)=>∃v,lU fm.1=some v/\Q v V')=S;have q:∀m L c V',V.length<=L->V.length<=c->aX f V V'->mU (λ_=>True) f L c w sg [] [] V'->S (.next,m) V':=λm L c V' h1 h2 k F=>hS▸⟨.none,rfl,q L c V' h1 h2 k F⟩;clear hS;refine(?_:Wp ((al T2 (n+29)).ss K8 _ KH) V S);generalize Loc.set _ _ _=m at C⊢;have hself:m "self"=some (.ref f):=by obtain⟨v,e1,e2⟩:=C.e "self" (.sc (.ref f)) rfl;rw[e1,show v=_ from e2]
 have no:¬(λj=>j≠f) f:=λh=>h rfl;unfold KH;refine hH rfl hself rfl ((aa rfl rfl _ V m C).mono λv V1 g=>⟨[],g.1.2 _ _ e,by kernel_rfl,λV2 LO e=>?_⟩);obtain⟨LQ,rfl⟩:=g;have K:=LQ.kx.trans LO;have C:=(C.keep LQ).keepA (LO.toA no);refine hH rfl hself rfl ((aa rfl rfl _ _ m C).mono λv V3 g=>⟨_,g.1.2 _ _ e,by kernel_rfl,λV4 k₄ e=>?_⟩);obtain⟨LN,rfl⟩:=g;have K:=(K.trans LN.kx).trans k₄;have C:=(C.keep LN).keepA (k₄.toA no);refine hH rfl hself rfl ((ax (x:="len") (f:=.blt "len") (λ_ _=>rfl) rfl (aa rfl rfl) ck _ _ m C).mono λv V5 g=>⟨_,g.1.2 _ _ e,by kernel_rfl,λV6 LR e=>?_⟩);obtain⟨LP,rfl⟩:=g;have K:=(K.trans LP.kx).trans LR;have C:=(C.keep LP).keepA (LR.toA no);refine hH rfl hself rfl ((aa rfl rfl _ _ m C).mono λv V7 g=>⟨_,g.1.2 _ _ e,by kernel_rfl,λV8 k₈ e=>?_⟩);obtain⟨LU,rfl⟩:=g;have K:=(K.trans LU.kx).trans k₈;have C:=(C.keep LU).keepA (k₈.toA no);refine hH rfl hself rfl ((dr _ _ m C).mono λv V9 g=>⟨_,g.1.1.2 _ _ e,by kernel_rfl,λV10 k10 e=>?_⟩);obtain⟨⟨k₉,L,rfl,hL,eL⟩,hf⟩:=g;have hL':=Nat.le_trans K.1 (hf L rfl);have eL:=k10.2 _ _ hL eL;have K:=(K.trans k₉.kx).trans k10;have C:=(C.keep k₉).keepA (k10.toA no);refine hH rfl hself rfl (dA rfl (dc (v:=.obj 192) rfl (aw rfl ((aa rfl rfl _ _ m C).mono λv V11 g=>aO ?_))));obtain⟨k11,rfl⟩:=g;refine AZ [.int 0] (.inr rfl) λV12 k12 h₁₂ ec=>⟨_,(k11.trans k12).2 _ _ e,by kernel_rfl,λV13 k13 e=>?_⟩;have hc:V11.length≠f:=λq=>by have:=bN (k11.2 _ _ ‹V10[f]?=_›);simp_all
 exact ak (q m L V11.length V13 hL' (Nat.le_trans K.1 k11.1) ((K.trans (k11.trans k12).kx).trans k13) ⟨⟨trivial,trivial,trivial⟩,e,k13.2 _ _ hL ((k11.trans k12).2 _ _ eL),[],k13.2 _ _ hc ec,.nil⟩)
noncomputable def o0:Expr:=(.BinOp (.Name "x" (pP 282 15 16)) .Mod (.Constant (.int 120) 0 (pP 282 19 22)) (pP 282 15 22))
noncomputable def Dm:List Expr:=[]
noncomputable def uV:Scope:=⟨.function,[(".0",.local),("x",.local)],false,false,[]⟩
noncomputable def wo:Expr:=(.Call (.Name "_law_lead" (pP 283 20 29)) [.BinOp (.Constant (.int 2) 0 (pP 283 30 31)) .Add (.BinOp (.Name "x" (pP 283 34 35)) .Mod (.Constant (.int 30) 0 (pP 283 38 40)) (pP 283 34 40)) (pP 283 30 40)] [] (pP 283 20 41))
noncomputable def Dz:List Expr:=[]
noncomputable def Cy:Scope:=⟨.function,[(".0",.local),("x",.local),("_law_lead",.globalImplicit)],false,false,[]⟩
noncomputable def vd:Expr:=(.BinOp (.Subscript (.Constant (.str "bcde") 0 (pP 284 21 27)) (.Name "k" (pP 284 28 29)) (pP 284 21 30)) .Mult (.BinOp (.Constant (.int 1) 0 (pP 284 34 35)) .Add (.BinOp (.BinOp (.Subscript (.Name "numbers" (pP 284 38 45)) (.Name "k" (pP 284 46 47)) (pP 284 38 48)) .FloorDiv (.Constant (.int 30) 0 (pP 284 52 54)) (pP 284 38 54)) .Mod (.Constant (.int 2) 0 (pP 284 57 58)) (pP 284 38 58)) (pP 284 34 58)) (pP 284 21 59))
noncomputable def Ch:List Expr:=[]
noncomputable def Ew:Scope:=⟨.function,[(".0",.local),("k",.local),("numbers",.free)],false,false,[]⟩
noncomputable def wI:Expr:=(.BinOp (.Constant (.int 1) 0 (pP 285 21 22)) .Add (.BinOp (.Name "x" (pP 285 25 26)) .FloorDiv (.Constant (.int 60) 0 (pP 285 30 32)) (pP 285 25 32)) (pP 285 21 32))
noncomputable def CF:List Expr:=[]
noncomputable def Dv:Scope:=⟨.function,[(".0",.local),("x",.local)],false,false,[]⟩
noncomputable def Au:List Stmt:=[.Expr (.Call (.Attribute (.Name "laid" (pP 290 8 12)) "_append_chunk" (pP 290 8 26)) [.Subscript (.Name "leads" (pP 290 27 32)) (.Name "k" (pP 290 33 34)) (pP 290 27 35),.Subscript (.Name "words" (pP 290 37 42)) (.Name "k" (pP 290 43 44)) (pP 290 37 45)] [] (pP 290 8 46)) (pP 290 8 46)]
noncomputable def u5:Expr:=(.Call (.Name "len" (pP 292 22 25)) [.BinOp (.Subscript (.Name "leads" (pP 292 26 31)) (.Name "k" (pP 292 32 33)) (pP 292 26 34)) .Add (.Subscript (.Name "words" (pP 292 37 42)) (.Name "k" (pP 292 43 44)) (pP 292 37 45)) (pP 292 26 45)] [] (pP 292 22 46))
noncomputable def Ey:List Expr:=[]
noncomputable def DI:Scope:=⟨.function,[(".0",.local),("k",.local),("len",.globalImplicit),("leads",.free),("words",.free)],false,false,[]⟩
noncomputable def v6:Expr:=(.BinOp (.Subscript (.Name "leads" (pP 293 25 30)) (.Name "j" (pP 293 31 32)) (pP 293 25 33)) .Add (.Subscript (.Name "words" (pP 293 36 41)) (.Name "j" (pP 293 42 43)) (pP 293 36 44)) (pP 293 25 44))
noncomputable def Dy:List Expr:=[]
noncomputable def Cr:Scope:=⟨.function,[(".0",.local),("j",.local),("leads",.free),("words",.free)],false,false,[]⟩
noncomputable def wy:Expr:=(.Call (.Attribute (.Constant (.str "") 0 (pP 293 16 18)) "join" (pP 293 16 23)) [.ListComp v6 [{target:=.Name "j" (pP 293 49 50),iter:=.Name "row" (pP 293 54 57),ifs:=Dy,is_async:=0}] Cr (pP 293 24 58)] [] (pP 293 16 59))
noncomputable def EF:List Expr:=[]
noncomputable def D6:Scope:=⟨.function,[(".0",.local),("row",.local),("leads",.free),("words",.free)],false,false,[]⟩
noncomputable def vQ:Expr:=(.Subscript (.Name "row" (pP 295 13 16)) (.Constant (.int 0) 0 (pP 295 17 18)) (pP 295 13 19))
noncomputable def Ck:List Expr:=[]
noncomputable def DN:Scope:=⟨.function,[(".0",.local),("row",.local)],false,false,[]⟩
noncomputable def ut:List Stmt:=[.Assign [.Name "great" (pP 300 12 17)] (.Compare (.Subscript (.Constant (.str "ABCDE") 0 (pP 300 20 27)) (.Name "j" (pP 300 28 29)) (pP 300 20 30)) [.In] [.Name "way" (pP 300 34 37)] (pP 300 20 37)) (pP 300 12 37),.If (.Compare (.Subscript (.Name "weights" (pP 301 15 22)) (.Name "j" (pP 301 23 24)) (pP 301 15 25)) [.Eq] [.Constant (.int 1) 0 (pP 301 29 30)] (pP 301 15 30)) [.Assign [.Name "word" (pP 302 16 20)] (.BinOp (.Name "word" (pP 302 23 27)) .Add (.Subscript (.List [.Subscript (.Constant (.str "abcde") 0 (pP 302 31 38)) (.Name "j" (pP 302 39 40)) (pP 302 31 41),.Subscript (.Constant (.str "ABCDE") 0 (pP 302 43 50)) (.Name "j" (pP 302 51 52)) (pP 302 43 53)] (pP 302 30 54)) (.Name "great" (pP 302 55 60)) (pP 302 30 61)) (pP 302 23 61)) (pP 302 16 61)] [.If (.Compare (.Call (.Name "len" (pP 303 17 20)) [.Subscript (.Name "words" (pP 303 21 26)) (.Name "j" (pP 303 27 28)) (pP 303 21 29)] [] (pP 303 17 30)) [.Eq] [.Constant (.int 1) 0 (pP 303 34 35)] (pP 303 17 35)) [.Assign [.Name "word" (pP 304 16 20)] (.BinOp (.Name "word" (pP 304 23 27)) .Add (.Subscript (.List [.Call (.Name "str" (pP 304 31 34)) [.Name "j" (pP 304 35 36)] [] (pP 304 31 37),.Subscript (.Constant (.str "abcde") 0 (pP 304 39 46)) (.Name "j" (pP 304 47 48)) (pP 304 39 49)] (pP 304 30 50)) (.Name "great" (pP 304 51 56)) (pP 304 30 57)) (pP 304 23 57)) (pP 304 16 57)] [.Assign [.Name "word" (pP 306 16 20)] (.BinOp (.BinOp (.Name "word" (pP 306 23 27)) .Add (.Subscript (.List [.Constant (.str "") 0 (pP 306 31 33),.Subscript (.Constant (.str "abcde") 0 (pP 306 35 42)) (.Name "j" (pP 306 43 44)) (pP 306 35 45)] (pP 306 30 46)) (.Name "great" (pP 306 47 52)) (pP 306 30 53)) (pP 306 23 53)) .Add (.Call (.Name "str" (pP 306 56 59)) [.Name "j" (pP 306 60 61)] [] (pP 306 56 62)) (pP 306 23 62)) (pP 306 16 62)] ⟨303,12,306,62⟩] ⟨301,12,306,62⟩]
noncomputable def Af:List Stmt:=[.Assign [.Name "word" (pP 298 8 12)] (.Constant (.str "") 0 (pP 298 15 17)) (pP 298 8 17),.For (.Name "j" (pP 299 12 13)) (.Subscript (.Name "heads" (pP 299 17 22)) (.Slice (some (.Constant (.int 1) 0 (pP 299 23 24))) none none (pP 299 23 25)) (pP 299 17 26)) ut [] ⟨299,8,306,62⟩,.Expr (.Call (.Attribute (.Name "spelled" (pP 307 8 15)) "append" (pP 307 8 22)) [.Name "word" (pP 307 23 27)] [] (pP 307 8 28)) (pP 307 8 28)]
noncomputable def u4:Expr:=(.Subscript (.Name "weights" (pP 308 17 24)) (.Name "j" (pP 308 25 26)) (pP 308 17 27))
noncomputable def Dr:List Expr:=[]
noncomputable def Dp:Scope:=⟨.function,[(".0",.local),("j",.local),("weights",.free)],false,false,[]⟩
noncomputable def qM:Expr:=(.Call (.Name "_law_columns" (pP 310 37 49)) [.Subscript (.Name "leads" (pP 310 50 55)) (.Name "j" (pP 310 56 57)) (pP 310 50 58)] [] (pP 310 37 59))
noncomputable def zU:List Expr:=[]
noncomputable def yR:Scope:=⟨.function,[(".0",.local),("j",.local),("_law_columns",.globalImplicit),("leads",.free)],false,false,[]⟩
noncomputable def qx:Expr:=(.Subscript (.Name "weights" (pP 310 79 86)) (.Name "j" (pP 310 87 88)) (pP 310 79 89))
noncomputable def Ae:List Expr:=[]
noncomputable def ym:Scope:=⟨.function,[(".0",.local),("j",.local),("weights",.free)],false,false,[]⟩
noncomputable def sk:Expr:=(.BinOp (.Subscript (.Subscript (.Name "table" (pP 313 24 29)) (.Name "u" (pP 313 30 31)) (pP 313 24 32)) (.Name "k" (pP 313 33 34)) (pP 313 24 35)) .Mult (.Subscript (.Subscript (.Name "turned" (pP 313 38 44)) (.Name "k" (pP 313 45 46)) (pP 313 38 47)) (.Name "v" (pP 313 48 49)) (pP 313 38 50)) (pP 313 24 50))
noncomputable def zi:List Expr:=[]
noncomputable def zz:Scope:=⟨.function,[(".0",.local),("k",.local),("table",.free),("turned",.free),("u",.free),("v",.free)],false,false,[]⟩
noncomputable def AV:List Stmt:=[.Assign [.Name "told" (pP 313 12 16)] (.Call (.Name "sum" (pP 313 19 22)) [.ListComp sk [{target:=.Name "k" (pP 313 55 56),iter:=.Call (.Name "range" (pP 313 60 65)) [.Call (.Name "len" (pP 313 66 69)) [.Name "heads" (pP 313 70 75)] [] (pP 313 66 76)] [] (pP 313 60 77),ifs:=zi,is_async:=0}] zz (pP 313 23 78)] [] (pP 313 19 79)) (pP 313 12 79),.If (.Compare (.Name "told" (pP 314 15 19)) [.NotEq] [.IfExp (.Compare (.Name "u" (pP 314 37 38)) [.Eq] [.Name "v" (pP 314 42 43)] (pP 314 37 43)) (.BinOp (.Constant (.int 4) 0 (pP 314 24 25)) .Mult (.Name "whole" (pP 314 28 33)) (pP 314 24 33)) (.Constant (.int 0) 0 (pP 314 49 50)) (pP 314 24 50)] (pP 314 15 51)) [.Return (some (.Constant (.bool false) 0 (pP 315 23 28))) (pP 315 16 28)] [] ⟨314,12,315,28⟩]
noncomputable def Bj:List Stmt:=[.For (.Name "v" (pP 312 12 13)) (.Call (.Name "range" (pP 312 17 22)) [.Call (.Name "len" (pP 312 23 26)) [.Name "heads" (pP 312 27 32)] [] (pP 312 23 33)] [] (pP 312 17 34)) AV [] ⟨312,8,315,28⟩]
noncomputable def iq:List Stmt:=[.Assign [.Name "numbers" (pP 282 4 11)] (.ListComp o0 [{target:=.Name "x" (pP 282 27 28),iter:=.Subscript (.BinOp (.Name "script" (pP 282 33 39)) .Add (.Subscript (.List [.Constant (.int 91) 0 (pP 282 43 45),.Constant (.int 12) 0 (pP 282 47 49),.Constant (.int 41) 0 (pP 282 51 53),.Constant (.int 62) 0 (pP 282 55 57)] (pP 282 42 58)) (.Slice (some (.Call (.Name "len" (pP 282 59 62)) [.Name "script" (pP 282 63 69)] [] (pP 282 59 70))) none none (pP 282 59 71)) (pP 282 42 72)) (pP 282 33 72)) (.Slice none (some (.Constant (.int 4) 0 (pP 282 75 76))) none (pP 282 74 76)) (pP 282 32 77),ifs:=Dm,is_async:=0}] uV (pP 282 14 78)) (pP 282 4 78),.Assign [.Name "leads" (pP 283 4 9)] (.BinOp (.List [.Constant (.str "") 0 (pP 283 13 15)] (pP 283 12 16)) .Add (.ListComp wo [{target:=.Name "x" (pP 283 46 47),iter:=.Name "numbers" (pP 283 51 58),ifs:=Dz,is_async:=0}] Cy (pP 283 19 59)) (pP 283 12 59)) (pP 283 4 59),.Assign [.Name "words" (pP 284 4 9)] (.BinOp (.List [.Constant (.str "a") 0 (pP 284 13 16)] (pP 284 12 17)) .Add (.ListComp vd [{target:=.Name "k" (pP 284 64 65),iter:=.Call (.Name "range" (pP 284 69 74)) [.Constant (.int 4) 0 (pP 284 75 76)] [] (pP 284 69 77),ifs:=Ch,is_async:=0}] Ew (pP 284 20 78)) (pP 284 12 78)) (pP 284 4 78),.Assign [.Name "weights" (pP 285 4 11)] (.BinOp (.List [.Constant (.int 0) 0 (pP 285 15 16)] (pP 285 14 17)) .Add (.ListComp wI [{target:=.Name "x" (pP 285 37 38),iter:=.Name "numbers" (pP 285 42 49),ifs:=CF,is_async:=0}] Dv (pP 285 20 50)) (pP 285 14 50)) (pP 285 4 50),.Assign [.Name "width" (pP 286 4 9)] (.BinOp (.Constant (.int 2) 0 (pP 286 12 13)) .Add (.BinOp (.Call (.Name "sum" (pP 286 16 19)) [.Name "numbers" (pP 286 20 27)] [] (pP 286 16 28)) .Mod (.Constant (.int 7) 0 (pP 286 31 32)) (pP 286 16 32)) (pP 286 12 32)) (pP 286 4 32),.Assign [.Name "signs" (pP 287 4 9)] (.Subscript (.List [.Constant (.str " \t") 0 (pP 287 13 18),.Constant (.str "\t ") 0 (pP 287 20 25)] (pP 287 12 26)) (.BinOp (.BinOp (.Call (.Name "sum" (pP 287 27 30)) [.Name "numbers" (pP 287 31 38)] [] (pP 287 27 39)) .FloorDiv (.Constant (.int 7) 0 (pP 287 43 44)) (pP 287 27 44)) .Mod (.Constant (.int 2) 0 (pP 287 47 48)) (pP 287 27 48)) (pP 287 12 49)) (pP 287 4 49),.Assign [.Name "laid" (pP 288 4 8)] (.Call (.Name "_ValueFormatter" (pP 288 11 26)) [.Constant (.int 0) 0 (pP 288 27 28),.Name "width" (pP 288 30 35),.Constant (.str " ") 0 (pP 288 37 40),.Name "signs" (pP 288 42 47)] [] (pP 288 11 48)) (pP 288 4 48),.For (.Name "k" (pP 289 8 9)) (.Call (.Name "range" (pP 289 13 18)) [.Constant (.int 5) 0 (pP 289 19 20)] [] (pP 289 13 21)) Au [] ⟨289,4,290,46⟩,.Assign [.Name "page" (pP 291 4 8)] (.Call (.Attribute (.Call (.Attribute (.Name "laid" (pP 291 11 15)) "_str" (pP 291 11 20)) [.Constant (.str "\n") 0 (pP 291 21 25)] [] (pP 291 11 26)) "split" (pP 291 11 32)) [.Constant (.str "\n") 0 (pP 291 33 37)] [] (pP 291 11 38)) (pP 291 4 38),.Assign [.Name "rows" (pP 292 4 8)] (.Call (.Name "_law_rows" (pP 292 11 20)) [.ListComp u5 [{target:=.Name "k" (pP 292 51 52),iter:=.Call (.Name "range" (pP 292 56 61)) [.Constant (.int 5) 0 (pP 292 62 63)] [] (pP 292 56 64),ifs:=Ey,is_async:=0}] DI (pP 292 21 65),.Name "leads" (pP 292 67 72),.Name "width" (pP 292 74 79),.Subscript (.Name "signs" (pP 292 81 86)) (.Constant (.int 0) 0 (pP 292 87 88)) (pP 292 81 89)] [] (pP 292 11 90)) (pP 292 4 90),.If (.Compare (.Name "page" (pP 293 7 11)) [.NotEq] [.ListComp wy [{target:=.Name "row" (pP 293 64 67),iter:=.Name "rows" (pP 293 71 75),ifs:=EF,is_async:=0}] D6 (pP 293 15 76)] (pP 293 7 76)) [.Return (some (.Constant (.bool false) 0 (pP 294 15 20))) (pP 294 8 20)] [] ⟨293,4,294,20⟩,.Assign [.Name "heads" (pP 295 4 9)] (.ListComp vQ [{target:=.Name "row" (pP 295 24 27),iter:=.Name "rows" (pP 295 31 35),ifs:=Ck,is_async:=0}] DN (pP 295 12 36)) (pP 295 4 36),.Assign [.Name "spelled" (pP 296 4 11)] (.List [] (pP 296 14 16)) (pP 296 4 16),.For (.Name "way" (pP 297 8 11)) (.Call (.Name "_law_ways" (pP 297 15 24)) [.Name "page" (pP 297 25 29)] [] (pP 297 15 30)) Af [] ⟨297,4,307,28⟩,.Assign [.Name "whole" (pP 308 4 9)] (.Call (.Name "sum" (pP 308 12 15)) [.ListComp u4 [{target:=.Name "j" (pP 308 32 33),iter:=.Name "heads" (pP 308 37 42),ifs:=Dr,is_async:=0}] Dp (pP 308 16 43)] [] (pP 308 12 44)) (pP 308 4 44),.Assign [.Name "table" (pP 309 4 9)] (.Call (.Name "_law_table" (pP 309 12 22)) [.Name "spelled" (pP 309 23 30),.Name "whole" (pP 309 32 37)] [] (pP 309 12 38)) (pP 309 4 38),.Assign [.Name "turned" (pP 310 4 10)] (.Call (.Name "_law_turned" (pP 310 13 24)) [.Call (.Name "_law_hangs" (pP 310 25 35)) [.ListComp qM [{target:=.Name "j" (pP 310 64 65),iter:=.Name "heads" (pP 310 69 74),ifs:=zU,is_async:=0}] yR (pP 310 36 75)] [] (pP 310 25 76),.ListComp qx [{target:=.Name "j" (pP 310 94 95),iter:=.Name "heads" (pP 310 99 104),ifs:=Ae,is_async:=0}] ym (pP 310 78 105),.Name "whole" (pP 310 107 112)] [] (pP 310 13 113)) (pP 310 4 113),.For (.Name "u" (pP 311 8 9)) (.Call (.Name "range" (pP 311 13 18)) [.Call (.Name "len" (pP 311 19 22)) [.Name "heads" (pP 311 23 28)] [] (pP 311 19 29)] [] (pP 311 13 30)) Bj [] ⟨311,4,315,28⟩,.Return (some (.Constant (.bool true) 0 (pP 316 11 15))) (pP 316 4 15)]
noncomputable def hW:Scope:={kind:=.function,names:=(("script",.local)::("numbers",.cell)::("leads",.cell)::("k",.local)::("words",.cell)::("weights",.cell)::("width",.local)::("signs",.local)::("laid",.local)::("page",.local)::("rows",.local)::("j",.local)::("heads",.local)::("spelled",.local)::("way",.local)::("word",.local)::("great",.local)::("whole",.local)::("table",.cell)::("turned",.cell)::("u",.cell)::("v",.cell)::("told",.local)::("len",.globalImplicit)::("range",.globalImplicit)::("sum",.globalImplicit)::("_ValueFormatter",.globalImplicit)::("_law_rows",.globalImplicit)::("_law_ways",.globalImplicit)::("str",.globalImplicit)::("_law_table",.globalImplicit)::("_law_turned",.globalImplicit)::("_law_hangs",.globalImplicit)::[]),isGenerator:=false,isCoroutine:=false,more:=(("fast",.str "script")::("fast",.str "x")::("fast",.str "numbers")::("fast",.str "leads")::("fast",.str "k")::("fast",.str "words")::("fast",.str "weights")::("fast",.str "width")::("fast",.str "signs")::("fast",.str "laid")::("fast",.str "page")::("fast",.str "rows")::("fast",.str "row")::("fast",.str "j")::("fast",.str "heads")::("fast",.str "spelled")::("fast",.str "way")::("fast",.str "word")::("fast",.str "great")::("fast",.str "whole")::("fast",.str "table")::("fast",.str "turned")::("fast",.str "u")::("fast",.str "v")::("fast",.str "told")::[])}
noncomputable def Ie:Fn:=⟨"law",⟨[],[⟨"script",none,(pP 281 8 14)⟩],none,[],[],none,[]⟩,iq,hW⟩
noncomputable def b7(xs:List Nat):List (List Nat):=[]::xs.map λx=>ee (2+x%30)
noncomputable def z9(xs:List Nat)(k:Nat):List Nat:=List.replicate (1+xs.getD k 0/30%2) (98+k)
noncomputable def eS(xs:List Nat):List (List Nat):=[97]::(List.range' 0 4).map (z9 xs)
noncomputable def rX(xs:List Nat):List Nat:=0::xs.map λx=>1+x/60
noncomputable def qc(xs:List Nat):Int:=2+(xs.sum%7:Nat)
noncomputable def lP(xs:List Nat):Nat:=if xs.sum/7%2=0 then 32 else 9
noncomputable def wm(xs:List Nat):Nat:=if xs.sum/7%2=0 then 9 else 32
noncomputable def ld(xs:List Nat)(k:Nat):List Nat:=(b7 xs).getD k []
noncomputable def wd(xs:List Nat)(k:Nat):List Nat:=(eS xs).getD k []
noncomputable def fy(xs:List Nat)(s:List (List Nat)×List cv)(k:Nat):List (List Nat)×List cv:=fN (qc xs) (lP xs) (wm xs) s (ld xs k,wd xs k)
noncomputable def qb(xs:List Nat)(i:Nat):List (List Nat)×List cv:=((List.range' 0 5).take i).foldl (fy xs) ([],[])
noncomputable def bS(xs:List Nat):List (List Nat):=(qb xs 5).1++[be (qb xs 5).2]
def bh(xs:List Nat):Prop:=xs.length=4/\∀x∈xs,x<120
structure PA(xs:List Nat):Prop where
 ch:∀i,i<5->Gv (qc xs) (lP xs) (wm xs) ((qb xs i).2++[(ld xs i,wd xs i)])/\(qb xs i).1.length<100
 nl:GJ (qb xs 5).2
 l:(qb xs 5).1.length<100
 j:((bS xs).map (·.length)).sum+(bS xs).length<=1000
 f:AH (bS xs)
 n:bK (bS xs)≠[]
 x:(bS xs).length<=40/\∀l∈bS xs,l.length<=1000
theorem eI{j:Nat}(L:List Nat)(e:s=SL L)(h:Nat.ble L.length 1000=true):J (n+1) sc l (.Constant (.str s) j p) (.sc (.str (SL L))):=λ_ _ _ _=>b9 (s:=s) e (le_of_ble_eq_true h) ⟨.refl _,rfl⟩
noncomputable def eA(xs:List Nat):cW:=[("signs",.sc (.str (SL [lP xs,wm xs]))),("width",.sc (.int (qc xs))),("weights",.lst (aq (rX xs))),("words",.lst (aJ (eS xs))),("leads",.lst (aJ (b7 xs)))]
theorem zW(h:bh xs):∀x∈xs,((x:Nat):Int).natAbs<2^40:=λx hx=>lt_trans (show x<120 from h.2 x hx) (by decide)
theorem vC(h:bh xs)(hf:∀m V,bQ T2 sc m "sum" V=some (.blt "sum",V))(hk:bq sc "numbers"=true)(hl:l.lookup ("numbers":Str)=some (.lst (aq xs))):J (n+2) sc l (.Call (.Name "sum" p') [.Name "numbers" p1] [] p) (.sc (.int (xs.sum:Nat))):=by
 have:=kY (n:=n+1) (xs:=xs) (f:=λx=>(x:Int)) (zW h) (by rw[h.1];decide);refine J.to (ax (x:="sum") (f:=.blt "sum") hf rfl (aa hk hl) this) ?_;have go:∀l:List Nat,(l.map λx=>((x:Nat):Int)).sum=((l.sum:Nat):Int):=λl=>by
  induction l with
  |nil=>rfl
  |cons a l ih=>rw[map_cons,sum_cons,ih,sum_cons];rfl
 rw[go]
theorem JD:∀k:Nat,k<4->At ("bcde":Str).cps.toList (k:Int) (98+k):=λk h=>bg ((by decide+kernel:∀k:Nat,k<4->("bcde":Str).cps.toList[k]?=some (98+k)) k h)
set_option maxHeartbeats 1000000 in
theorem J3(h:bh xs)(c:Cx A V m [("numbers",.lst (aq xs))]) (k:∀m' V',Cx A V' m' (eA xs)->Wp ((al T2 (n+100)).ss hW m' (iq.drop 6)) V' S):Wp ((al T2 (n+100)).ss hW m (iq.drop 1)) V S:=by
 have hN:∀k,k<4->At (aq xs) (k:Nat) (.int (xs.getD k 0:Nat)):=λk hk=>bg (de (by rw[h.1];exact hk));refine aD (t:=.lst (aJ (b7 xs))) (λ_=>rfl) rfl ?_ c λm V1 LQ c=>?_
 ·refine J.to (aA (lg rfl (eI [] rfl rfl)) (JF.j (bW (xs:=xs) (g:=λx=>.sc (.int (x:Nat))) (f:=λx=>.str (SL (ee (2+x%30)))) (l':=[]) rfl (by kernel_rfl) (aa rfl rfl) cO rfl (by rw[h.1];decide) rfl λx hx=>?_)) (gN (by rw[length_map,h.1];decide))) (by rw[aJ,b7,map_cons,map_map];rfl);have hx:=h.2 x hx;unfold wo;refine ax (f:=.obj 269) (λ_ _=>rfl) rfl (J.to (aA an (aA (aa rfl rfl) an (du rfl)) aN) ?_) (El (k:=2+x%30) (by lia) (by(exact le_add_right ..)));refine(?_:Tr.sc (.int ((2:Int)+Int.fmod (x:Int) 30))=bu (2+x%30));rw[show Int.fmod (x:Int) 30=((x%30:Nat):Int)from(ofNat_fmod x 30).symm];rfl
 refine aD (t:=.lst (aJ (eS xs))) (λ_=>rfl) rfl ?_ c λm V2 LO c=>?_
 ·refine J.to (aA (lg rfl (eI [97] rfl rfl)) (JF.j (bW (ti:=.rng 0 4 1) (xs:=List.range' 0 4) (g:=bu) (f:=λk=>.str (SL (z9 xs k))) (l':=[("numbers",.lst (aq xs))]) rfl (by kernel_rfl) ?_ (bE (a:=0) (b:=4) rfl rfl (by decide) (by decide)) rfl (by decide) rfl λk hk=>?_)) (gN (by rw[length_map];decide))) (by rw[aJ,eS,map_cons,map_map];rfl)
  ·exact ax (f:=.typ "range") (λ_ _=>rfl) rfl an bA
  ·have hk:k<4:=zero_add 4▸(cj hk).2;have e:z9 xs k=(List.replicate (1+xs.getD k 0/30%2) [98+k]).flatten:=List.flatten_replicate_singleton.symm;rw[e];have hy:1+xs.getD k 0/30%2<=1000:=by lia
   unfold vd;refine aA (aG rfl (iQ rfl) (aa rfl rfl) (bG (JD k hk))) (J.to (aA an (aA (aA (aG rfl (aa rfl rfl) (aa rfl rfl) (aS (hN k hk))) an (eW rfl)) an (du rfl)) aN) ?_) (zD (y:=1+xs.getD k 0/30%2) (by rw[length_singleton,one_mul];exact hy) hy);refine(?_:Tr.sc (.int ((1:Int)+Int.fmod (Int.fdiv (xs.getD k 0:Nat) 30) 2))=bu (1+xs.getD k 0/30%2));rw[show Int.fdiv ((xs.getD k 0:Nat):Int) 30=((xs.getD k 0/30:Nat):Int)from(ofNat_fdiv _ 30).symm,show Int.fmod ((xs.getD k 0/30:Nat):Int) 2=((xs.getD k 0/30%2:Nat):Int)from(ofNat_fmod _ 2).symm];rfl
 refine aD (t:=.lst (aq (rX xs))) (λ_=>rfl) rfl ?_ c λm V3 LN c=>?_
 ·refine J.to (aA (lg rfl an) (JF.j (bW (xs:=xs) (g:=λx=>.sc (.int (x:Nat))) (f:=λx=>.int ((1+x/60:Nat):Int)) (l':=[]) rfl (by kernel_rfl) (aa rfl rfl) cO rfl (by rw[h.1];decide) rfl λx hx=>?_)) (gN (by rw[length_map,h.1];decide))) (by rw[rX,aq,map_cons,map_map];rfl);unfold wI;refine J.to (aA an (aA (aa rfl rfl) an (eW rfl)) aN) ?_;refine(?_:Tr.sc (.int ((1:Int)+Int.fdiv (x:Int) 60))=.sc (.int ((1+x/60:Nat):Int)));rw[show Int.fdiv (x:Int) 60=((x/60:Nat):Int)from(ofNat_fdiv x 60).symm];rfl
 refine aD (t:=.sc (.int (qc xs))) (λ_=>rfl) rfl ?_ c λm V4 k₄ c=>?_
 ·refine J.to (aA an (aA (vC h (λ_ _=>rfl) rfl rfl) an (du rfl)) aN) ?_;rw[show Int.fmod ((xs.sum:Nat):Int) 7=((xs.sum%7:Nat):Int)from(ofNat_fmod _ 7).symm];rfl
 refine aD (t:=.sc (.str (SL [lP xs,wm xs]))) (λ_=>rfl) rfl ?_ c λm V5 LP c=>?_
 ·refine aG rfl (kZ rfl rfl (eI [32,9] rfl rfl) (eI [9,32] rfl rfl)) (aA (aA (vC h (λ_ _=>rfl) rfl rfl) an (eW rfl)) an (du rfl)) (aS ?_);rw[show Int.fdiv ((xs.sum:Nat):Int) 7=((xs.sum/7:Nat):Int)from(ofNat_fdiv _ 7).symm,show Int.fmod ((xs.sum/7:Nat):Int) 2=((xs.sum/7%2:Nat):Int)from(ofNat_fmod _ 2).symm];unfold lP wm;rcases Nat.mod_two_eq_zero_or_one (xs.sum/7)with e|e<;>rw[e]<;>exact bg rfl
 exact k m V5 (c.sub rfl)
theorem rI:jO.init=some 49:=by kernel_rfl
theorem tu:jO.isAcc=false:=by kernel_rfl
theorem Cm:jO.meth "_append_chunk"=some 105:=by kernel_rfl
theorem Jj:jO.meth "_str"=some 56:=by kernel_rfl
theorem As:∀r∈[L,c],¬BQ A [L,c] r:=pv
theorem Ai(h:bh xs)(hk:k<5):At (aJ (b7 xs)) (k:Nat) (.str (SL (ld xs k))):=gT (by rw[b7,length_cons,length_map,h.1];exact hk)
theorem Aq(hk:k<5):At (aJ (eS xs)) (k:Nat) (.str (SL (wd xs k))):=gT (by rw[eS,length_cons,length_map,length_range'];exact hk)
theorem yI(h:(List.range' 0 5)[i]?=some a):a=i/\i<5/\qb xs (i+1)=fy xs (qb xs i) a:=by
 have hi:i<5:=(List.getElem?_eq_some_iff.mp h).1;refine⟨?_,hi,?_⟩
 ·rw[List.getElem?_range' hi]at h;injection h with h
  simp_all
 ·unfold qb;rw[List.take_add_one,h,foldl_append];rfl
set_option maxHeartbeats 1000000 in
theorem Ju(h:bh xs)(hp:PA xs)(c:Cx A V m (eA xs)) (k:∀A' m' V',Cx A' V' m' (("page",.lst (aJ (bS xs)))::eA xs)->Wp ((al T2 (n+100)).ss hW m' (iq.drop 9)) V' S):Wp ((al T2 (n+100)).ss hW m (iq.drop 6)) V S:=by
 refine ao (cH rfl rfl (dA rfl (dc (v:=.obj 108) rfl (aw rfl ((an (l:=eA xs) A V m c).mono λv1 V1 g1=>aw rfl ((aa (l:=eA xs) rfl rfl A V1 m (c.keep g1.1)).mono λv2 V2 g2=>aw rfl ((eI (l:=eA xs) [32] rfl rfl A V2 m ((c.keep g1.1).keep g2.1)).mono λv3 V3 g3=>aw rfl ((aa (l:=eA xs) rfl rfl A V3 m (((c.keep g1.1).keep g2.1).keep g3.1)).mono λv4 V4 g4=>aO ?_))))))));have K:=((g1.1.trans g2.1).trans g3.1).trans g4.1;obtain rfl:v1=.int 0:=g1.2;obtain rfl:v2=.int (qc xs):=g2.2;obtain rfl:v3=.str (SL [32]):=g3.2;obtain rfl:v4=.str (SL [lP xs,wm xs]):=g4.2;have c:=c.keep K;clear g1 g2 g3 g4 K;refine vw gQ rI tu (Gp (cD ..) λL c' V5 hL hc LP F=>⟨rfl,ae ?_⟩);have hl:(V4++[PO.inst 108 []]).length=V4.length+1:=List.length_append;have LP:aB V4 V5:=⟨by have:=LP.1;lia,λj o e=>LP.2 j o (ne_of_lt (bN e)) (bZ e)⟩;obtain⟨ys,ec,_⟩:=id F.c;have c:=(c.ownL (rs:=[L,c']) LP (λr h=>by rcases mem_cons.mp h with rfl|h;lia;rw[mem_singleton.mp h];lia) (λr h=>by rcases mem_cons.mp h with rfl|h;exact bN F.l;rw[mem_singleton.mp h];exact bN ec)).set (x:="laid") (t:=.sc (.ref V4.length)) rfl;generalize V4.length=f at*;clear ec hl hL hc LP;refine qS (ti:=.rng 0 5 1) (g:=bu) (fy xs) (List.range' 0 5) (λ_=>("laid",.sc (.ref f))::eA xs) (λi s V'=>s=qb xs i/\mU (λ_=>True) f L c' (qc xs) [lP xs,wm xs] s.1 s.2 V') ([],[]) (λ_=>rfl) rfl ?_ (bE (a:=0) (b:=5) rfl rfl (by decide) (by decide)) (by decide) c (λV' k c=>⟨c,rfl,F.mono λi o a e=>⟨a,k.2 _ _ e⟩⟩) ?_ ?_
 ·exact ax (f:=.typ "range") (λ_ _=>rfl) rfl an bA
 ·rintro a i s m V6 ha C ⟨rfl,F⟩;obtain⟨rfl,hi,e⟩:=yI (xs:=xs) ha;obtain⟨h1,h2⟩:=hp.ch a hi;unfold Au;refine ao (dY rfl (dy rfl rfl rfl ((aa rfl rfl _ V6 m C).mono λv V7 g=>?_)));obtain⟨LU,rfl⟩:=g;have C:=C.keep LU;have F:=F.mono λi o a e=>(⟨a,LU.2 _ _ e⟩:True/\_);refine dG F.f rfl gQ Cm (aw rfl ((aG rfl (aa rfl rfl) (aa rfl rfl) (aS (Ai h hi)) _ V7 m C).mono λv V8 g=>?_));obtain⟨k₈,rfl⟩:=g;have C:=C.keep k₈;refine aw rfl ((aG rfl (aa rfl rfl) (aa rfl rfl) (aS (Aq hi)) _ V8 m C).mono λv V9 g=>aO ?_);obtain⟨k₉,rfl⟩:=g;have C:=C.keep k₉;have F:=F.mono λi o a e=>(⟨a,(k₈.trans k₉).2 _ _ e⟩:True/\_);refine eG (by kernel_rfl) (by rw[EK];rfl) (yp (λ_=>trivial) h1 h2 F λV' kr F=>ae (ak ⟨((LU.trans k₈).trans k₉).toA.trans (kr.toA As),.inl rfl,(C.keepA (kr.toA As)).sub rfl,e.symm,F⟩))
 ·rintro m V6 C ⟨e,F⟩;have e:(List.range' 0 5).foldl (fy xs) ([],[])=qb xs 5:=e;rw[e]at F;refine ao (cH rfl rfl (dy rfl rfl rfl (dy rfl rfl rfl ((aa rfl rfl _ V6 m C).mono λv V7 g=>?_))));obtain⟨LU,rfl⟩:=g;have C:=C.keep LU;have F:=F.mono λi o a e=>(⟨a,LU.2 _ _ e⟩:True/\_);refine dG F.f rfl gQ Jj (aw rfl ((eI [10] rfl rfl _ V7 m C).mono λv V8 g=>aO ?_));obtain⟨k₈,rfl⟩:=g;have C:=C.keep k₈;have F:=F.mono λi o a e=>(⟨a,k₈.2 _ _ e⟩:True/\_);refine eG (by kernel_rfl) (by rw[Im];rfl) (Hj (λ_=>trivial) hp.nl hp.l hp.j F λV9 kr=>?_);have C:=C.keepA (kr.toA As);refine .eq (iz (f:=.blt "str.split") rfl (BQ A [L,c']) V9 _ rfl) (aw rfl ((eI [10] rfl rfl _ V9 m C).mono λv V10 g=>aO ?_));have C:=C.keep g.1;refine(xR hp.f hp.n (Nat.le_trans hp.x.1 (by decide)) hp.x.2 (BQ A [L,c']) V10 _ v C.a rfl g.2).mono λv V11 g=>ae ?_;exact k _ _ _ (((C.keep g.1).set g.2).sub rfl)
noncomputable def xm(xs:List Nat):List Nat:=(List.range' 0 5).map λk=>(ld xs k++wd xs k).length
noncomputable def cZ(xs:List Nat):List (List Nat):=(mB (xm xs) (b7 xs) (qc xs) (lP xs)).1++[(mB (xm xs) (b7 xs) (qc xs) (lP xs)).2]
noncomputable def uH(xs:List Nat)(row:List Nat):List Nat:=(row.map λj=>ld xs j++wd xs j).flatten
noncomputable def av(xs:List Nat):List Nat:=(cZ xs).map λr=>r.getD 0 0
structure PB(xs:List Nat):Prop where
 z:∀k,k<5->(ld xs k).length+(wd xs k).length<=20
 s:∀j,1<=j->j<5->(b7 xs).getD j []≠[]
 r:∀r∈cZ xs,r≠[]/\∀j∈r,j<5
 l:(cZ xs).length<=20/\∀r∈cZ xs,r.length<=20
 p:bS xs=(cZ xs).map (uH xs)
theorem wF{V:aI}{k:Nat}:∀ls:List (List Nat),Hy (nY (k+1) V) (aJ ls) (aJ ls)=some true
 |[]=>rfl
 |x::r=>by refine(?_:(some (decide (SL x=SL x))).bind (λp=>(Hy (nY (k+1) V) (aJ r) (aJ r)).map λq=>p&&q)=_);rw[wF r,decide_eq_true rfl];rfl
theorem DF(hb:behindInMarks .NotEq e2=false)(ja:J n sc l e1 (.lst (aJ ls)))(jb:JF n sc l e2 (.lst (aJ ls))):JB (n+1) sc l (.Compare e1 [.NotEq] [e2] p) false:=λA V m c=>
 wu hb ((ja A V m c).mono λv V1 g=>(jb A V1 m (c.keep g.1)).mono λw V2 g'=>by
  obtain⟨k,i,rfl,_,e⟩:=g;obtain⟨⟨k',j,rfl,_,e'⟩,f⟩:=g';have hij:i≠j:=λq=>not_lt.mpr (f j rfl) (q▸bN e);have h:nY 4 V2 (.ref i) (.ref j)=some true:=by show(if i=j then none else(V2[i]?).bind λo=>(V2[j]?).bind λo'=>Jo (nY 3 V2) o' o)=_;rw[if_neg hij,k'.2 _ _ e,e'];show(if(aJ ls).length=(aJ ls).length then _ else _)=_;rw[if_pos rfl,wF]
  exact .eq (a:=.bool false) (V':=V2) (by show(nY 4 V2 _ _).map _=_;rw[h];rfl) (.ok ⟨k.trans k',rfl⟩))
theorem zK{α:Type}{xs:List α}{f:α->List Nat}(h:((xs.map f).map (·.length)).sum<=1000):s8 n (.blt "str.join") (.sc (.str (SL []))) (.lst (xs.map λa=>.str (SL (f a)))) (.sc (.str (SL (xs.map f).flatten))):=by have:=D3 (n:=n) h;rw[map_map]at this;exact this
theorem EL{xs:List Nat}(hz:∀k,k<5->(ld xs k).length+(wd xs k).length<=20):∀row:List Nat,(∀j∈row,j<5)->((row.map λj=>ld xs j++wd xs j).map (·.length)).sum<=20*row.length
 |[],_=>le_refl _
 |j::r,h=>by have h1:=EL hz r λj hj=>h j (.tail _ hj);have h2:=hz j (h j (.head _));rw[map_cons,map_cons,sum_cons,List.length_append,length_cons];lia
set_option maxHeartbeats 600000 in
theorem KM(h:bh xs)(hp:PB xs)(c:Cx A V m (("page",.lst (aJ (bS xs)))::eA xs)) (k:∀m' V',Cx A V' m' (("heads",.lst (aq (av xs)))::("page",.lst (aJ (bS xs)))::eA xs)->Wp ((al T2 (n+100)).ss hW m' (iq.drop 12)) V' S):Wp ((al T2 (n+100)).ss hW m (iq.drop 9)) V S:=by
 have hadd:∀{n:Nat} {sc:Scope} {l:cW} {j:Nat} {x:Str} {p1 p2 p3 p4 p5 p6 p7:Pos},j<5->bq sc "leads"=true->bq sc "words"=true->bq sc x=true->l.lookup ("leads":Str)=some (.lst (aJ (b7 xs)))->l.lookup ("words":Str)=some (.lst (aJ (eS xs)))->l.lookup x=some (bu j)->J (n+3) sc l (.BinOp (.Subscript (.Name "leads" p1) (.Name x p2) p3) .Add (.Subscript (.Name "words" p4) (.Name x p5) p6) p7) (.sc (.str (SL (ld xs j++wd xs j)))):=λhj a1 a2 a3 b1 b2 b3=>
  aA (aG rfl (aa a1 b1) (aa a3 b3) (aS (Ai h hj))) (aG rfl (aa a2 b2) (aa a3 b3) (aS (Aq hj))) (iS (Nat.le_trans (hp.z _ hj) (by decide)))
 refine aD (t:=.mat ((cZ xs).map aq)) (λ_=>rfl) rfl ?_ c λm V1 LQ c=>?_
 ·refine C0 (f:=.obj 274) (λ_ _=>rfl) rfl rfl rfl rfl (JF.j (bW (ti:=.rng 0 5 1) (xs:=List.range' 0 5) (g:=bu) (f:=λk=>.int ((ld xs k++wd xs k).length:Nat)) (l':=[("leads",.lst (aJ (b7 xs))),("words",.lst (aJ (eS xs)))]) rfl (by kernel_rfl) ?_ (bE (a:=0) (b:=5) rfl rfl (by decide) (by decide)) rfl (by decide) rfl λk hk=>?_)) (aa rfl rfl) (aa rfl rfl) (aG rfl (aa rfl rfl) an (bG rfl)) ?_
  ·exact ax (f:=.typ "range") (λ_ _=>rfl) rfl an bA
  ·have hk:k<5:=zero_add 5▸(cj hk).2;unfold u5;exact ax (x:="len") (f:=.blt "len") (λ_ _=>rfl) rfl (hadd hk rfl rfl rfl rfl rfl rfl) ck
  ·have e:(List.range' 0 5).map (λk=>PV.int ((ld xs k++wd xs k).length:Nat))=aq (xm xs):=by rw[aq,xm,map_map];rfl
   rw[e];refine B4 ⟨by rw[xm,length_map,length_range'],λx hx=>?_⟩ ⟨by rw[b7,length_cons,length_map,h.1],hp.s⟩;obtain⟨k,hk,rfl⟩:=mem_map.mp hx;have:=hp.z k (zero_add 5▸(cj hk).2);rw[List.length_append];lia
 refine bR (b:=false) (DF (ls:=bS xs) rfl (aa rfl rfl) ?_) c (λe=>nomatch e) λ_ V2 LO c=>ak (ae ?_)
 ·have e:aJ (bS xs)=(cZ xs).map λr=>PV.str (SL (uH xs r)):=by rw[hp.p,aJ,map_map];rfl
  rw[e];refine bW (xs:=cZ xs) (g:=λr=>.lst (aq r)) (l':=[("leads",.lst (aJ (b7 xs))),("words",.lst (aJ (eS xs)))]) rfl (by kernel_rfl) (aa rfl rfl) BD map_map (lt_of_le_of_lt hp.l.1 (by decide)) rfl λr hr=>?_;unfold wy;refine gR rfl rfl rfl (eI [] rfl rfl) (JF.j (bW (xs:=r) (g:=λ(j:Nat)=>.sc (.int j)) (f:=λj=>.str (SL (ld xs j++wd xs j))) (l':=[("leads",.lst (aJ (b7 xs))),("words",.lst (aJ (eS xs)))]) rfl (by kernel_rfl) (aa rfl rfl) cO rfl (lt_of_le_of_lt (hp.l.2 r hr) (by decide)) rfl λj hj=>?_)) (iz rfl) ?_
  ·unfold v6;exact hadd ((hp.r r hr).2 j hj) rfl rfl rfl rfl rfl rfl
  ·exact zK (Nat.le_trans (EL hp.z r (hp.r r hr).2) (Nat.le_trans (Nat.mul_le_mul_left 20 (hp.l.2 r hr)) (by decide)))
 refine pU (t:=.lst (aq (av xs))) (λ_=>rfl) ?_ c λm V3 LN c=>k m V3 (c.sub rfl);have e:aq (av xs)=(cZ xs).map λr=>PV.int (r.getD 0 0:Nat):=by rw[aq,av,map_map];rfl
 rw[e];refine JF.j (bW (xs:=cZ xs) (g:=λr=>.lst (aq r)) (l':=[]) rfl (by kernel_rfl) (aa rfl rfl) BD map_map (lt_of_le_of_lt hp.l.1 (by decide)) rfl λr hr=>?_);unfold vQ;exact aG rfl (aa rfl rfl) an (aS (bg (k:=0) (de (List.length_pos_iff.mpr (hp.r r hr).1))))
noncomputable def wt(xs:List Nat)(j:Nat):Nat:=(rX xs).getD j 0
noncomputable def pV(xs way:List Nat)(j:Nat):List Nat:=
 if decide ((wt xs j:Int)=1)=true then(if decide (65+j∈way)=true then [65+j]else [97+j])
 else if decide (((wd xs j).length:Int)=1)=true then(if decide (65+j∈way)=true then [97+j]else [48+j])
 else(if decide (65+j∈way)=true then [97+j]else [])++[48+j]
noncomputable def wn(xs way:List Nat):List Nat:=((av xs).drop 1).foldl (λw j=>w++pV xs way j) []
noncomputable def rz(xs:List Nat):List (List Nat):=((bS xs).foldl ur ([],[])).2
noncomputable def zx(xs:List Nat):List (List Nat):=(rz xs).foldl (λs way=>s++[wn xs way]) []
structure PC(xs:List Nat):Prop where
 h:∀j∈av xs,j<5
 l:(av xs).length<=20
 p:(bS xs).length<=40/\∀w∈bS xs,sY w
 w:(rz xs).length<=40
theorem Dd(xs way:List Nat)(j:Nat):(pV xs way j).length<=2:=by
 unfold pV;split
 ·split<;>exact(by decide:1<=2)
 ·split
  ·split<;>exact(by decide:1<=2)
  ·split<;>first|exact le_refl 2|exact(by decide:1<=2)
theorem zw:∀j:Nat,j<5->At ("abcde":Str).cps.toList (j:Int) (97+j):=λj h=>bg ((by decide+kernel:∀j:Nat,j<5->("abcde":Str).cps.toList[j]?=some (97+j)) j h)
theorem Fb:∀j:Nat,j<5->At ("ABCDE":Str).cps.toList (j:Int) (65+j):=λj h=>bg ((by decide+kernel:∀j:Nat,j<5->("ABCDE":Str).cps.toList[j]?=some (65+j)) j h)
theorem GG:∀j:Nat,j<5->Str.ofString (toString (j:Int))=SL [48+j]:=by decide+kernel
theorem EI{j:Nat}(hj:j<5)(hf:∀m V,bQ T2 sc m "str" V=some (.typ "str",V))(hk:bq sc "j"=true)(hl:l.lookup ("j":Str)=some (bu j)):J (n+2) sc l (.Call (.Name "str" p1) [.Name "j" p2] [] p) (.sc (.str (SL [48+j]))):=
 ax (x:="str") (f:=.typ "str") hf rfl (aa hk hl) (GI (lt_trans (show(j:Int).natAbs<5 from hj) (by decide)) (GG j hj) (le_of_ble_eq_true rfl))
theorem A8{u v:List Nat}:Sub (.lst [.str (SL u),.str (SL v)]) (.bool b) (.sc (.str (SL (if b=true then v else u)))):=sub_bool (by cases b<;>rfl)
noncomputable def eD(xs:List Nat):cW:=("heads",.lst (aq (av xs)))::("page",.lst (aJ (bS xs)))::eA xs
theorem zS(h:bh xs){j:Nat}(hj:j<5):At (aq (rX xs)) (j:Nat) (.int (wt xs j:Nat)):=bg (de (by rw[rX,length_cons,length_map,h.1];exact hj))
set_option maxHeartbeats 600000 in
theorem HJ{way:List Nat}(h:bh xs){j:Nat}(hj:j<5)(hi:i<20){w:List Nat}(hw:w.length<=2*i)(c:Cx A V m (("j",bu j)::("word",.sc (.str (SL w)))::("way",.sc (.str (SL way)))::("spelled",.sc (.ref ρ))::eD xs)) (k:∀m' V',aB V V'->Cx A V' m' (("word",.sc (.str (SL (w++pV xs way j))))::("way",.sc (.str (SL way)))::("spelled",.sc (.ref ρ))::eD xs)->S (.next,m') V'):Wp ((al T2 (n+98)).ss hW m ut) V S:=by
 unfold ut;unfold pV at k;have ew:∀{n:Nat} {l:cW} {e:Expr} {p p':Pos} {s:List Nat},l.lookup ("word":Str)=some (.sc (.str (SL w)))->s.length<=2->J (n+1) hW l e (.sc (.str (SL s)))->J (n+2) hW l (.BinOp (.Name "word" p) .Add e p') (.sc (.str (SL (w++s)))):=λhl hs j=>aA (aa rfl hl) j (iS (by lia));refine aD (t:=.sc (.bool (decide (65+j∈way)))) (λ_=>rfl) rfl (zb rfl (aG rfl (iQ rfl) (aa rfl rfl) (bG (Fb j hj))) (aa rfl rfl) F0) c λm V1 LQ c=>?_;generalize decide (65+j∈way)=g at c k;refine bR (a8 rfl (aG rfl (aa rfl rfl) (aa rfl rfl) (aS (zS h hj))) an tx) c (λhb V2 LO c=>?_) λhb V2 LO c=>?_
 ·rw[if_pos hb]at k;refine aD (t:=.sc (.str (SL (w++(if g=true then [65+j]else [97+j]))))) (λ_=>rfl) rfl ?_ c λm V3 LN c=>ak (ae (ak (k m V3 ((LQ.trans LO).trans LN) (c.sub rfl))));exact ew rfl (by cases g<;>exact(by decide:1<=2)) (aG rfl (kZ rfl rfl (aG rfl (iQ rfl) (aa rfl rfl) (bG (zw j hj))) (aG rfl (iQ rfl) (aa rfl rfl) (bG (Fb j hj)))) (aa rfl rfl) A8)
 ·rw[if_neg (by rw[hb];exact Bool.false_ne_true)]at k;refine bR (a8 rfl (ax (x:="len") (f:=.blt "len") (λ_ _=>rfl) rfl (aG rfl (aa rfl rfl) (aa rfl rfl) (aS (Aq hj))) ck) an tx) c (λhb V3 LN c=>?_) λhb V3 LN c=>?_
  ·rw[if_pos hb]at k;refine aD (t:=.sc (.str (SL (w++(if g=true then [97+j]else [48+j]))))) (λ_=>rfl) rfl ?_ c λm V4 k₄ c=>ak (ae (ak (ae (ak (k m V4 (((LQ.trans LO).trans LN).trans k₄) (c.sub rfl))))));exact ew rfl (by cases g<;>exact(by decide:1<=2)) (aG rfl (kZ rfl rfl (EI hj (λ_ _=>rfl) rfl rfl) (aG rfl (iQ rfl) (aa rfl rfl) (bG (zw j hj)))) (aa rfl rfl) A8)
  ·rw[if_neg (by rw[hb];exact Bool.false_ne_true),<-List.append_assoc]at k;refine aD (t:=.sc (.str (SL (w++(if g=true then [97+j]else [])++[48+j])))) (λ_=>rfl) rfl ?_ c λm V4 k₄ c=>ak (ae (ak (ae (ak (k m V4 (((LQ.trans LO).trans LN).trans k₄) (c.sub rfl))))));refine aA (ew rfl (by cases g;exact zero_le 2;exact le_succ 1) (aG rfl (kZ rfl rfl (eI [] rfl rfl) (aG rfl (iQ rfl) (aa rfl rfl) (bG (zw j hj)))) (aa rfl rfl) A8)) (EI hj (λ_ _=>rfl) rfl rfl) (iS ?_);have:(if g=true then [97+j]else([]:List Nat)).length<=1:=by cases g;exact zero_le 1;exact le_refl 1
   rw[List.length_append,length_singleton];lia
set_option maxHeartbeats 600000 in
theorem KC(h:bh xs)(hp:PC xs)(c:Cx A V m (eD xs)) (k:∀m' V',Cx A V' m' (("spelled",.lst (aJ (zx xs)))::eD xs)->Wp ((al T2 (n+100)).ss hW m' (iq.drop 14)) V' S):Wp ((al T2 (n+100)).ss hW m (iq.drop 12)) V S:=by
 have hA:=c.a;refine fJ (λ_=>rfl) rfl dr c λm V1 ρ LQ hρ aρ o c=>?_;refine cB (g:=λw=>.sc (.str (SL w))) (λs way=>s++[wn xs way]) (rz xs) (λ_=>("spelled",.sc (.ref ρ))::eD xs) (λi s V'=>V'[ρ]?=some (.list (aJ s))/\s.length<=i) [] (λ_=>rfl) rfl (ax (f:=.obj 293) (λ_ _=>rfl) rfl (aa rfl rfl) (D5 hp.p.1 hp.p.2)) cO (lt_of_le_of_lt hp.w (by decide)) c (λV' k c=>⟨c,k.2 _ _ o,le_refl 0⟩) ?_ ?_
 ·rintro way _ i s m V2 hi c ⟨o,hs⟩;have hi:i<40:=lt_of_lt_of_le hi hp.w;unfold Af;refine aD (t:=.sc (.str (SL []))) (λ_=>rfl) rfl (eI [] rfl rfl) c λm V3 LN c=>?_;refine cB (g:=bu) (λw j=>w++pV xs way j) ((av xs).drop 1) (λw=>("word",.sc (.str (SL w)))::("way",.sc (.str (SL way)))::("spelled",.sc (.ref ρ))::eD xs) (λi w V'=>aB V2 V'/\w.length<=2*i) [] (λ_=>rfl) rfl (xQ (aa rfl rfl) an rB) cO (by rw[length_drop];have:=hp.l;lia) c (λV' k c=>⟨c.sub rfl,LN.trans k,le_refl 0⟩) ?_ ?_
  ·rintro j hj i' w m V4 hi' c ⟨kk,hw⟩;rw[length_drop]at hi';refine HJ h (hp.h j (mem_of_mem_drop hj)) (by have:=hp.l;lia) hw c λm' V' k c=>⟨k.toA,.inl rfl,c,kk.trans k,?_⟩;rw[List.length_append];exact add_le_add hw (Dd xs way j)
  ·rintro m V4 c ⟨kk,hw⟩;refine mK (t:=.sc (.str (SL (wn xs way)))) rfl rfl rfl rfl (kk.2 _ _ o) (by rw[aJ,length_map];exact lt_of_le_of_lt hs (lt_trans hi (by decide))) cT rfl (aa rfl rfl) c λV5 v LP o' r c=>ak ⟨kk.toA.trans (LP.toA cT),.inl rfl,c.sub rfl,?_,?_⟩
   ·obtain rfl:v=_:=r;rw[o',aJ,aJ,map_append];rfl
   ·rw[List.length_append];exact Nat.add_le_add_right hs 1
 ·rintro m V2 c ⟨o,_⟩;exact k m V2 ((c.frz (x:="spelled") (t:=.lst (aJ (zx xs))) (λ_=>tp) rfl ⟨ρ,rfl,aρ,o⟩).sub rfl)
theorem pD{b:Nat}(hb:b<100000):da (.rng 0 b 1) ((List.range' 0 b).map bu):=bE (a:=0) rfl rfl (by decide) hb
theorem vX{α:Type}{g:α->Tr}{b:List Stmt}(xs:List α)(O:aI->Prop)(hx:fk sc x)(hp:aY e=true)(ji:J (n+1) sc l e ti)(hi:da ti (xs.map g))(hn:xs.length<4000)(c:Cx A V m l)(h0:∀V',aB V V'->O V') (step:∀a∈xs,∀m V,Cx A V m ((x,g a)::l)->O V->Wp ((al T2 (n+1)).ss sc m b) V λfm V'=>ci A V V'/\(fm.1=.next∨fm.1=.cont)/\Cx A V' fm.2 l/\O V')(bn:∀m V',Cx A V' m l->O V'->Wp ((al T2 (n+2)).ss sc m r) V' S):Wp ((al T2 (n+2)).ss sc m (.For (.Name x p) e b [] p'::r)) V S:=
 cB (λ(s:Unit) _=>s) xs (λ_=>l) (λ_ _ V=>O V) () hx hp ji hi hn c (λV' k c=>⟨c,h0 V' k⟩) (λa h _ _ m V _ c o=>step a h m V c o) bn
noncomputable def Dj(xs:List Nat):List Int:=(av xs).map λj=>((wt xs j:Nat):Int)
noncomputable def yg(xs:List Nat):Int:=(Dj xs).sum
noncomputable def c8(xs:List Nat):List (List Int):=(av xs).map λj=>jI (ld xs j)
noncomputable def Fm(xs:List Nat)(k:Nat):Nat:=dv (nc (c8 xs) k)
noncomputable def pE(xs:List Nat):List (List Int):=Bu (zx xs) (yg xs)
noncomputable def pY(xs:List Nat):List (List Int):=mN (gz (c8 xs)) (Fm xs) (Dj xs) (yg xs)
noncomputable def Fo(xs:List Nat)(u v:Nat):Int:=((List.range' 0 (av xs).length).map λk=>gy (pE xs) u k*gy (pY xs) k v).sum
structure PD(xs:List Nat):Prop where
 l:(av xs).length<=20/\∀j∈av xs,j<5
 z:∀k,k<5->(ld xs k).length<=20
 s:(zx xs).length=(av xs).length/\∀w∈zx xs,fa w/\w.length<41
 c:Jq (c8 xs)
 a:∀k,1<=k->k<(c8 xs).length->nc (c8 xs) k≠[]
 g:(gz (c8 xs)).length=(av xs).length
 j:∀k,1<=k->k<(av xs).length->(gz (c8 xs))[k]?=some ((Fm xs k:Nat):Int)/\Fm xs k<(av xs).length
 w:∀k,1<=k->k<(av xs).length->∃w,(Dj xs)[k]?=some w/\(w=1∨w=2)
 sw:∀j,j<5->wt xs j<=2
 q:jL (av xs).length (pE xs)/\jL (av xs).length (pY xs)
 b:∀u k,u<(av xs).length->k<(av xs).length->(gy (pE xs) u k).natAbs<=100000/\(gy (pY xs) u k).natAbs<=100000
 t:∀u v,u<(av xs).length->v<(av xs).length->Fo xs u v=if u=v then 4*yg xs else 0
set_option maxHeartbeats 1000000 in
theorem Kv(h:bh xs)(hp:PD xs)(c:Cx A V m (("spelled",.lst (aJ (zx xs)))::eD xs)) (k:∀m' V',S (.ret (.bool true),m') V'):Wp ((al T2 (n+100)).ss hW m (iq.drop 14)) V S:=by
 have hl:=hp.l.1;have hN:(aq (av xs)).length=(av xs).length:=cS _;have rng:∀{n:Nat} {l:cW} {p p1 p2 p3 p4:Pos},l.lookup ("heads":Str)=some (.lst (aq (av xs)))->J (n+4) hW l (.Call (.Name "range" p) [.Call (.Name "len" p1) [.Name "heads" p2] [] p3] [] p4) (.rng 0 (av xs).length 1):=λhl=>by rw[<-hN];exact ax (x:="range") (f:=.typ "range") (λ_ _=>rfl) rfl (ax (x:="len") (f:=.blt "len") (λ_ _=>rfl) rfl (aa rfl hl) fK) bA
 have hsum:∀j∈av xs,(((wt xs j:Nat):Int)).natAbs<2^40:=λj hj=>lt_of_le_of_lt (show wt xs j<=2 from hp.sw j (hp.l.2 j hj)) (by decide);refine aD (t:=.sc (.int (yg xs))) (λ_=>rfl) rfl ?_ c λm V1 LQ c=>?_
 ·refine ax (x:="sum") (f:=.blt "sum") (λ_ _=>rfl) rfl (JF.j (bW (xs:=av xs) (g:=bu) (f:=λj=>.int (wt xs j:Nat)) (l':=[("weights",.lst (aq (rX xs)))]) rfl (by kernel_rfl) (aa rfl rfl) cO rfl (by lia) rfl λj hj=>?_)) (kY hsum (by lia));unfold u4;exact aG rfl (aa rfl rfl) (aa rfl rfl) (aS (zS h (hp.l.2 j hj)))
 refine aD (t:=.mat (bV (pE xs))) (λ_=>rfl) rfl ?_ c λm V2 LO c=>?_
 ·exact cn (f:=.obj 298) (λ_ _=>rfl) rfl rfl (aa rfl rfl) (aa rfl rfl) (yq (by rw[hp.s.1];lia) hp.s.2)
 refine aD (t:=.mat (bV (pY xs))) (λ_=>rfl) rfl ?_ c λm V3 LN c=>?_
 ·have ec:bV (c8 xs)=(av xs).map λj=>(jI (ld xs j)).map PV.int:=by rw[bV,c8,map_map];rfl
  have ew:(Dj xs).map PV.int=(av xs).map λj=>PV.int (wt xs j:Nat):=by rw[Dj,map_map];rfl
  refine lc (f:=.obj 303) (tb:=.lst ((Dj xs).map PV.int)) (λ_ _=>rfl) rfl rfl rfl (ax (f:=.obj 286) (ta:=.mat (bV (c8 xs))) (λ_ _=>rfl) rfl ?_ (BA hp.c (by rw[c8,length_map];lia) hp.a)) ?_ (aa rfl rfl) (x3 (by rw[hp.g];lia) (by rw[hp.g];exact hp.j) (by rw[hp.g];exact hp.w))
  ·rw[ec];refine JF.j (xK (xs:=av xs) (g:=bu) (l':=[("leads",.lst (aJ (b7 xs)))]) rfl (by kernel_rfl) (aa rfl rfl) cO rfl (by lia) rfl λj hj=>?_);have hj:=hp.l.2 j hj;unfold qM;exact ax (f:=.obj 281) (λ_ _=>rfl) rfl (aG rfl (aa rfl rfl) (aa rfl rfl) (aS (Ai h hj))) (D7 (by have:=hp.z j hj;lia))
  ·rw[ew];refine JF.j (bW (xs:=av xs) (g:=bu) (l':=[("weights",.lst (aq (rX xs)))]) rfl (by kernel_rfl) (aa rfl rfl) cO rfl (by lia) rfl λj hj=>?_);unfold qx;exact aG rfl (aa rfl rfl) (aa rfl rfl) (aS (zS h (hp.l.2 j hj)))
 have c:=c.sub (l':=[("turned",.mat (bV (pY xs))),("table",.mat (bV (pE xs))),("whole",.sc (.int (yg xs))),("heads",.lst (aq (av xs)))]) rfl;refine vX (ti:=.rng 0 (av xs).length 1) (g:=bu) (List.range' 0 (av xs).length) (λ_=>True) (λ_=>rfl) rfl (rng rfl) (pD (by lia)) (by rw[length_range'];lia) c (λ_ _=>trivial) ?_ ?_
 ·rintro u hu m V4 c _;have hu:u<(av xs).length:=zero_add (av xs).length▸(cj hu).2;unfold Bj;refine vX (ti:=.rng 0 (av xs).length 1) (g:=bu) (List.range' 0 (av xs).length) (λV'=>ci A V4 V') (λ_=>rfl) rfl (rng rfl) (pD (by lia)) (by rw[length_range'];lia) c (λV' k=>k.toA) ?_ ?_
  ·rintro v hv m V5 c kk;have hv:v<(av xs).length:=zero_add (av xs).length▸(cj hv).2;unfold AV;refine aD (t:=.sc (.int (Fo xs u v))) (λ_=>rfl) rfl ?_ c λm V6 LR c=>?_
   ·refine ax (x:="sum") (f:=.blt "sum") (λ_ _=>rfl) rfl (JF.j (bW (ti:=.rng 0 (av xs).length 1) (xs:=List.range' 0 (av xs).length) (g:=bu) (f:=λk=>.int (gy (pE xs) u k*gy (pY xs) k v)) (l':=[("v",bu v),("u",bu u),("turned",.mat (bV (pY xs))),("table",.mat (bV (pE xs)))]) rfl (by kernel_rfl) (rng rfl) (pD (by lia)) rfl (by rw[length_range'];lia) rfl λk hk=>?_)) (kY (λk hk=>?_) (by rw[length_range'];lia))
    ·have hk:k<(av xs).length:=zero_add (av xs).length▸(cj hk).2;unfold sk;exact aA (aG rfl (aG rfl (aa rfl rfl) (aa rfl rfl) (k9 (bg (hp.q.1.at hu)))) (aa rfl rfl) (aS (bg (hp.q.1.get hu hk)))) (aG rfl (aG rfl (aa rfl rfl) (aa rfl rfl) (k9 (bg (hp.q.2.at hk)))) (aa rfl rfl) (aS (bg (hp.q.2.get hk hv)))) (c6 (decide_eq_true (lt_of_le_of_lt (hp.b u k hu hk).1 (by decide))))
    ·have hk:k<(av xs).length:=zero_add (av xs).length▸(cj hk).2;rw[Int.natAbs_mul];exact lt_of_le_of_lt (Nat.mul_le_mul (hp.b u k hu hk).1 (hp.b k v hk hv).2) (by decide)
   refine bR (b:=false) (JB.to (a8 (b:=.int (if decide ((u:Int)=v)=true then 4*yg xs else 0)) rfl (aa rfl rfl) (J.to (Jh (a8 rfl (aa rfl rfl) (aa rfl rfl) tx) (aA an (aa rfl rfl) (c6 rfl)) an) ite_int) FT) ?_) c (λe=>nomatch e) λ_ V7 LU c=>ak (ae (ak ⟨(LR.trans LU).toA,.inl rfl,c.sub rfl,kk.trans (LR.trans LU).toA⟩));have e:(if decide ((u:Int)=v)=true then 4*yg xs else 0)=if u=v then 4*yg xs else 0:=by
    by_cases q:u=v
    ·rw[if_pos q];exact if_pos (decide_eq_true (by rw[q]))
    ·rw[if_neg q];exact if_neg λh=>q (Int.ofNat.inj (of_decide_eq_true h))
   rw[e,<-hp.t u v hu hv,decide_eq_true rfl];rfl
  ·exact λm V5 c kk=>ak ⟨kk,.inl rfl,c.sub rfl,trivial⟩
 ·exact λm V4 c _=>bI uk c λv V5 LP r=>by obtain rfl:v=.bool true:=r;exact k m V5
noncomputable def Ep(b c:Nat):Nat:=cond (Nat.beq b c) 0 (cond (Nat.beq (b%32) (c%32)) 1 2)
noncomputable def mS(a b:Nat):Nat:=cond (Nat.ble a b) a b
noncomputable def xe(bc:Nat):List Nat->List Nat->Nat->Nat->Nat->List Nat×Nat×Nat
 |[],_,_,r,mn=>([],r,mn)
 |ac::as,row,d,r,mn=>match row with
  |[]=>([],r,mn)
  |x::row=>
   let r':=mS (mS r x+2) (d+Ep bc ac)
   let q:=xe bc as row x r' (mS r' mn)
   (r'::q.1,q.2)
noncomputable def zJ(as:List Nat)(mx:Nat):List Nat->Nat->List Nat->Nat->Nat
 |[],_,_,res=>res
 |bc::bs,k,row,_=>
  let q:=xe bc as row (k*2) (k*2) 9223372036854775807
  cond (Nat.ble q.2.2 mx) (zJ as mx bs (k+1) q.1 q.2.1) (mx+1)
noncomputable def uP(as bs:List Nat)(mx:Nat):Nat:=cond (Nat.ble ((bs.length-as.length)*2) mx) (zJ as mx bs 0 ((List.range as.length).map λj=>j*2+2) 0) (mx+1)
noncomputable def zy(as bs:List Nat)(mx:Nat):Nat:=match as with
 |[]=>2*bs.length
 |_::_=>match bs with
  |[]=>2*as.length
  |_::_=>cond (Nat.ble as.length bs.length) (uP as bs mx) (uP bs as mx)
noncomputable def strN:List Nat->List Nat->List Nat×List Nat
 |[],ys=>([],ys)
 |x::xs,ys=>match ys with
  |[]=>(x::xs,[])
  |y::ys=>cond (Nat.beq x y) (strN xs ys) (x::xs,y::ys)
noncomputable def Bc(as bs:List Nat)(mx:Nat):Nat:=
 let p:=strN as bs
 let q:=strN p.1.reverse p.2.reverse
 zy q.1.reverse q.2.reverse mx
noncomputable def wZ:List Nat:=[48,49,50,51,52,65,66,67,68,69,97,98,99,100,101]
def dR(l:List Nat):Prop:=∀c∈l,c∈wZ
theorem Gi:∀b∈wZ,∀c∈wZ,cG (ca b) (ca c)=(Ep b c:Nat):=by decide+kernel
theorem G2:∀b∈wZ,strOk (Txt.lower (ca b))=true:=by decide+kernel
theorem zY{l:List Nat}(h:dR l):fa l:=λc hc=>G2 c (h c hc)
theorem Ar(a b:Nat):mS a b=if b<a then b else a:=by
 unfold mS;by_cases h:b<a
 ·rw[if_pos h,show Nat.ble a b=false from eq_false_iff.mpr λe=>not_le.mpr h (le_of_ble_eq_true e)];rfl
 ·rw[if_neg h,show Nat.ble a b=true from Nat.ble_eq_true_of_le (not_lt.mp h)];rfl
theorem vh(a b:Nat):dz a b=(mS a b:Nat):=by
 rw[Ar];unfold dz;by_cases h:b<a
 ·rw[if_pos h,if_pos (ofNat_lt.mpr h)]
 ·rw[if_neg h,if_neg λq=>h (ofNat_lt.mp q)]
noncomputable def gC(l:List Nat):List Int:=l.map λ(x:Nat)=>(x:Int)
theorem z7{bc:Nat}(hb:bc∈wZ):∀(as row:List Nat) (d r mn:Nat),dR as->bP bc as (gC row) d r mn=(gC (xe bc as row d r mn).1,((xe bc as row d r mn).2.1:Int),((xe bc as row d r mn).2.2:Int))
 |[],_,_,_,_,_=>rfl
 |ac::as,[],_,_,_,_=>rfl
 |ac::as,x::row,d,r,mn,h=>by
  have e1:dz (dz (r:Int) x+2) (d+cG (ca bc) (ca ac))=(mS (mS r x+2) (d+Ep bc ac):Nat):=by rw[Gi bc hb ac (h ac (.head _)),vh];exact vh (mS r x+2) (d+Ep bc ac)
  have e2:∀k:Nat,(if(k:Int)<mn then(k:Int)else mn)=(mS k mn:Nat):=λk=>by
   rw[Ar];by_cases q:mn<k
   ·rw[if_pos q,if_neg λh=>Nat.lt_asymm q (ofNat_lt.mp h)]
   ·rw[if_neg q];by_cases q2:k<mn
    ·exact if_pos (ofNat_lt.mpr q2)
    ·rw[if_neg λh=>q2 (ofNat_lt.mp h),Nat.le_antisymm (not_lt.mp q) (not_lt.mp q2)]
  show(dz (dz (r:Int) x+2) (d+cG (ca bc) (ca ac))::(bP bc as (gC row) x (dz (dz (r:Int) x+2) (d+cG (ca bc) (ca ac))) (if dz (dz (r:Int) x+2) (d+cG (ca bc) (ca ac))<(mn:Int)then dz (dz (r:Int) x+2) (d+cG (ca bc) (ca ac))else mn)).1,(bP bc as (gC row) x (dz (dz (r:Int) x+2) (d+cG (ca bc) (ca ac))) (if dz (dz (r:Int) x+2) (d+cG (ca bc) (ca ac))<(mn:Int)then dz (dz (r:Int) x+2) (d+cG (ca bc) (ca ac))else mn)).2)=_;rw[e1,e2,z7 hb as row _ _ _ λc hc=>h c (.tail _ hc)];rfl
theorem BL{as:List Nat}{mx:Nat}(ha:dR as):∀(bs:List Nat) (k:Nat) (row:List Nat) (res:Nat),dR bs->cR as mx bs k (gC row) res=(zJ as mx bs k row res:Nat)
 |[],_,_,_,_=>rfl
 |bc::bs,k,row,res,h=>by
  show(if(mx:Int)<(bP bc as (gC row) ((k:Int)*2) ((k:Int)*2) 9223372036854775807).2.2 then(mx:Int)+1 else cR as mx bs ((k:Int)+1) (bP bc as (gC row) ((k:Int)*2) ((k:Int)*2) 9223372036854775807).1 (bP bc as (gC row) ((k:Int)*2) ((k:Int)*2) 9223372036854775807).2.1)=_;rw[show bP bc as (gC row) ((k:Int)*2) ((k:Int)*2) 9223372036854775807=_ from z7 (h bc (.head _)) as row (k*2) (k*2) 9223372036854775807 ha];unfold zJ;generalize xe bc as row (k*2) (k*2) 9223372036854775807=q;refine(?_:_=((cond (Nat.ble q.2.2 mx) (zJ as mx bs (k+1) q.1 q.2.1) (mx+1):Nat):Int));by_cases hq:mx<q.2.2
  ·rw[show Nat.ble q.2.2 mx=false from eq_false_iff.mpr λe=>not_le.mpr hq (le_of_ble_eq_true e)];exact if_pos (ofNat_lt.mpr hq)
  ·rw[show Nat.ble q.2.2 mx=true from Nat.ble_eq_true_of_le (not_lt.mp hq)];exact(if_neg λh=>hq (ofNat_lt.mp h)).trans (BL ha bs (k+1) q.1 q.2.1 λc hc=>h c (.tail _ hc))
theorem FV(k:Nat):oF k=gC ((List.range k).map λj=>j*2+2):=by unfold oF gC;rw[map_map];rfl
theorem we{mx:Nat}(ha:dR as)(hb:dR bs)(h:as.length<=bs.length):kK as bs mx=(uP as bs mx:Nat):=by
 unfold kK uP;by_cases q:(bs.length-as.length)*2<=mx
 ·rw[show Nat.ble ((bs.length-as.length)*2) mx=true from Nat.ble_eq_true_of_le q,if_neg (by lia),FV];exact BL ha bs 0 _ 0 hb
 ·rw[show Nat.ble ((bs.length-as.length)*2) mx=false from eq_false_iff.mpr λe=>q (le_of_ble_eq_true e),if_pos (by omega)];rfl
theorem DE{mx:Nat}(ha:dR as)(hb:dR bs):rP as bs mx=(zy as bs mx:Nat):=by
 cases as with
 |nil=>exact(if_pos (.inl rfl)).trans (by show 2*(((0:Nat):Int)+bs.length)=((2*bs.length:Nat):Int);simp_all)
 |cons a as=>
  cases bs with
  |nil=>exact(if_pos (.inr rfl)).trans (by show 2*(((a::as).length:Int)+((0:Nat):Int))=((2*(a::as).length:Nat):Int);rfl)
  |cons b bs=>
   unfold rP zy;rw[if_neg (λh=>h.elim (λh=>nomatch h) λh=>nomatch h)];dsimp only;by_cases q:(b::bs).length<(a::as).length
   ·rw[if_pos q,show Nat.ble (a::as).length (b::bs).length=false from eq_false_iff.mpr λe=>not_le.mpr q (le_of_ble_eq_true e)];exact we hb ha (Nat.le_of_lt q)
   ·rw[if_neg q,show Nat.ble (a::as).length (b::bs).length=true from Nat.ble_eq_true_of_le (not_lt.mp q)];exact we ha hb (not_lt.mp q)
theorem sM:∀as bs:List Nat,b0 as bs=strN as bs
 |[],_=>rfl
 |_::_,[]=>rfl
 |x::xs,y::ys=>by
  show(if x=y then b0 xs ys else(x::xs,y::ys))=cond (Nat.beq x y) (strN xs ys) (x::xs,y::ys);by_cases q:x=y
  ·rw[if_pos q,q,Nat.beq_refl];exact sM xs ys
  ·rw[if_neg q,show Nat.beq x y=false from eq_false_iff.mpr λe=>q (Nat.eq_of_beq_eq_true e)];rfl
theorem pR:∀{as bs:List Nat},dR as->dR bs->dR (strN as bs).1/\dR (strN as bs).2
 |[],_,ha,hb=>⟨ha,hb⟩
 |_::_,[],ha,hb=>⟨ha,hb⟩
 |x::xs,y::ys,ha,hb=>by
  refine(?_:dR (cond (Nat.beq x y) (strN xs ys) (x::xs,y::ys)).1/\dR (cond (Nat.beq x y) (strN xs ys) (x::xs,y::ys)).2);cases Nat.beq x y with
  |true=>exact pR (λc hc=>ha c (.tail _ hc)) λc hc=>hb c (.tail _ hc)
  |false=>exact⟨ha,hb⟩
theorem i5{l:List Nat}(h:dR l):dR l.reverse:=λc hc=>h c (mem_reverse.mp hc)
theorem FI{mx:Nat}(ha:dR as)(hb:dR bs)(hne:as≠bs):dJ as bs mx=(Bc as bs mx:Nat):=by obtain⟨h1,h2⟩:=pR ha hb;obtain⟨h3,h4⟩:=pR (i5 h1) (i5 h2);unfold dJ;rw[if_neg hne];dsimp only;rw[sM,sM];exact DE (i5 h3) (i5 h4)
theorem u0{as:List Nat}{M mx:Int}:∀(bs:List Nat) (k:Int) (row:List Int) (res:Int),cR as M bs k row res<=M->cR as mx bs k row res=cR as M bs k row res∨cR as mx bs k row res=mx+1
 |[],_,_,_,_=>.inl rfl
 |bc::bs,k,row,res,h=>by
  have e:∀m,cR as m (bc::bs) k row res=if m<(bP bc as row (k*2) (k*2) 9223372036854775807).2.2 then m+1 else cR as m bs (k+1) (bP bc as row (k*2) (k*2) 9223372036854775807).1 (bP bc as row (k*2) (k*2) 9223372036854775807).2.1:=λ_=>rfl
  rw[e]at h;rw[e,e];by_cases q:M<(bP bc as row (k*2) (k*2) 9223372036854775807).2.2
  ·rw[if_pos q]at h;lia
  ·rw[if_neg q]at h⊢;by_cases q2:mx<(bP bc as row (k*2) (k*2) 9223372036854775807).2.2
   ·rw[if_pos q2];exact .inr rfl
   ·rw[if_neg q2];exact u0 bs _ _ _ h
theorem rp{M:Int}(h:kK as bs M<=M):kK as bs mx=kK as bs M∨kK as bs mx=mx+1:=by
 unfold kK at h⊢;by_cases q:((bs.length:Int)-as.length)*2>M
 ·rw[if_pos q]at h;lia
 ·rw[if_neg q]at h⊢;by_cases q2:((bs.length:Int)-as.length)*2>mx
  ·rw[if_pos q2];exact .inr rfl
  ·rw[if_neg q2];exact u0 _ _ _ _ h
set_option tactic.hygienic true in
theorem Du{M:Int}(h:dJ as bs M<=M):dJ as bs mx=dJ as bs M∨dJ as bs mx=mx+1:=by
 unfold dJ at h⊢;by_cases q:as=bs
 ·rw[if_pos q,if_pos q];exact .inl rfl
 ·rw[if_neg q]at h⊢;rw[if_neg q];dsimp only at h⊢;generalize (b0 (b0 as bs).1.reverse (b0 as bs).2.reverse).1.reverse=x at*;generalize (b0 (b0 as bs).1.reverse (b0 as bs).2.reverse).2.reverse=y at*;unfold rP at h⊢;split
  ·exact .inl rfl
  ·rename_i e;rw[if_neg e]at h;split
   ·rename_i e2;rw[if_pos e2]at h;exact rp h
   ·rename_i e2;rw[if_neg e2]at h;exact rp h
noncomputable def kH(κ j:Nat)(b:Bool):List Nat:=match κ with
 |0=>cond b [65+j] [97+j]
 |1=>cond b [97+j] [48+j]
 |_=>cond b [97+j,48+j] [48+j]
noncomputable def wK(κ:Nat):Nat:=match κ with
 |0=>1
 |_=>2
noncomputable def uK(c j:Nat):List Nat:=match c with
 |0=>[]
 |c+1=>kH (c/4) j (Nat.beq (c/2%2) 1)
noncomputable def vK(c j:Nat):List Nat:=match c with
 |0=>[]
 |c+1=>kH (c/4) j (Nat.beq (c%2) 1)
noncomputable def wC(c:Nat):Nat:=match c with
 |0=>0
 |c+1=>wK (c/4)
noncomputable def dC(c:Nat):Nat:=match c with
 |0=>0
 |c+1=>cond (Nat.beq (c/2%2) (c%2)) 0 (wK (c/4))
noncomputable def FQ:List Nat->List Nat->Bool
 |[],[]=>true
 |x::xs,y::ys=>cond (Nat.beq x y) (FQ xs ys) false
 |_,_=>false
noncomputable def hZ(a b c d:Nat):Bool:=
 let u:=uK a 1++(uK b 2++(uK c 3++uK d 4))
 let v:=vK a 1++(vK b 2++(vK c 3++vK d 4))
 let e:=dC a+(dC b+(dC c+dC d))
 cond (Nat.beq e 0) true (cond (FQ u v) false (Nat.beq (Bc u v (wC a+(wC b+(wC c+wC d)))) e))
noncomputable def aZ(f:Nat->Bool):Bool:=[0,1,2,3,4,5,6,7,8,9,10,11,12].all f
theorem w0:aZ (λb=>aZ λc=>aZ λd=>hZ 0 b c d)=true:=by decide+kernel
theorem w1:aZ (λb=>aZ λc=>aZ λd=>hZ 1 b c d)=true:=by decide+kernel
theorem w2:aZ (λb=>aZ λc=>aZ λd=>hZ 2 b c d)=true:=by decide+kernel
theorem w3:aZ (λb=>aZ λc=>aZ λd=>hZ 3 b c d)=true:=by decide+kernel
theorem w4:aZ (λb=>aZ λc=>aZ λd=>hZ 4 b c d)=true:=by decide+kernel
theorem w5:aZ (λb=>aZ λc=>aZ λd=>hZ 5 b c d)=true:=by decide+kernel
theorem w6:aZ (λb=>aZ λc=>aZ λd=>hZ 6 b c d)=true:=by decide+kernel
theorem w7:aZ (λb=>aZ λc=>aZ λd=>hZ 7 b c d)=true:=by decide+kernel
theorem w8:aZ (λb=>aZ λc=>aZ λd=>hZ 8 b c d)=true:=by decide+kernel
theorem w9:aZ (λb=>aZ λc=>aZ λd=>hZ 9 b c d)=true:=by decide+kernel
theorem Lj:aZ (λb=>aZ λc=>aZ λd=>hZ 10 b c d)=true:=by decide+kernel
theorem LI:aZ (λb=>aZ λc=>aZ λd=>hZ 11 b c d)=true:=by decide+kernel
theorem Lw:aZ (λb=>aZ λc=>aZ λd=>hZ 12 b c d)=true:=by decide+kernel
theorem l8{f:Nat->Bool}(h:aZ f=true):∀i,i<13->f i=true:=λi hi=>all_eq_true.mp h i ((by decide:∀i,i<13->i∈[0,1,2,3,4,5,6,7,8,9,10,11,12]) i hi)
theorem Jy(a b c d:Nat)(ha:a<13)(hb:b<13)(hc:c<13)(hd:d<13):hZ a b c d=true:=by
 have h:aZ (λb=>aZ λc=>aZ λd=>hZ a b c d)=true:=by
  rcases(by decide:∀a,a<13->a=0∨a=1∨a=2∨a=3∨a=4∨a=5∨a=6∨a=7∨a=8∨a=9∨a=10∨a=11∨a=12) a ha with rfl|rfl|rfl|rfl|rfl|rfl|rfl|rfl|rfl|rfl|rfl|rfl|rfl
  ·exact w0
  ·exact w1
  ·exact w2
  ·exact w3
  ·exact w4
  ·exact w5
  ·exact w6
  ·exact w7
  ·exact w8
  ·exact w9
  ·exact Lj
  ·exact LI
  ·exact Lw
 exact l8 (l8 (l8 h b hb) c hc) d hd
noncomputable def oa(lt:Nat->Nat->Bool)(S:List Nat)(k:Nat):List Nat:=(S.reverse.dropWhile λt=>!lt t k).reverse++[k]
noncomputable def fW(lt:Nat->Nat->Bool):Nat->List Nat
 |0=>[0]
 |k+1=>oa lt (fW lt k) (k+1)
noncomputable def lM(lt:Nat->Nat->Bool)(k:Nat):List Nat:=(List.range' 0 (k-0)).foldl (λs j=>if((List.range' (j+1) (k+1-(j+1))).filter λm=>!lt j m).isEmpty=true then s++[j]else s) []
noncomputable def nN(lt:Nat->Nat->Bool)(n:Nat):List Int:=(List.range' 1 (n-1)).foldl (λs k=>s++[((dv (lM lt k):Nat):Int)]) [-1]
noncomputable def BP(lt:Nat->Nat->Bool)(u i:Nat):Bool:=(fW lt u).contains i
noncomputable def vk(lt:Nat->Nat->Bool)(w:Nat->Nat)(n u v:Nat):Nat:=((List.range' 1 (n-1)).map λi=>cond (BP lt u i==BP lt v i) 0 (w i)).sum
noncomputable def F7(w:Nat->Nat)(n:Nat):Nat:=((List.range' 1 (n-1)).map w).sum
noncomputable def De(w:Nat->Nat)(n:Nat):List Int:=0::(List.range' 1 (n-1)).map λi=>((w i:Nat):Int)
noncomputable def D8(lt:Nat->Nat->Bool)(w:Nat->Nat)(n:Nat):List (List Int):=mN (nN lt n) (λk=>dv (lM lt k)) (De w n) (F7 w n)
noncomputable def mR(m i j:Nat):Bool:=i==0||m.testBit (i*4+j-6-i*(i-1)/2-(i-1))
noncomputable def wM(m i:Nat):Nat:=1+(m.testBit (i-1)).toNat
noncomputable def HP(lt:Nat->Nat->Bool):Bool:=(lt 1 2&&lt 2 3&& !lt 1 3)||(lt 1 2&&lt 2 4&& !lt 1 4)||(lt 1 3&&lt 3 4&& !lt 1 4)||(lt 2 3&&lt 3 4&& !lt 2 4)
noncomputable def eC(n m w:Nat):Bool:=HP (mR m)||((List.range n).all λu=>(List.range n).all λv=>
 decide (((List.range' 0 n).map λk=>((vk (mR m) (wM w) n u k:Nat):Int)*gy (D8 (mR m) (wM w) n) k v).sum=if u=v then 4*((F7 (wM w) n:Nat):Int)else 0)
 &&decide ((gy (D8 (mR m) (wM w) n) u v).natAbs<=1000))&&(List.range' 1 (n-1)).all λk=>!(lM (mR m) k).isEmpty&&Nat.blt (dv (lM (mR m) k)) k
theorem JL:((List.range' 0 8).all λm=>(List.range 16).all λw=>eC 5 m w)=true:=by decide+kernel
theorem Kl:((List.range' 8 8).all λm=>(List.range 16).all λw=>eC 5 m w)=true:=by decide+kernel
theorem Jx:((List.range' 16 8).all λm=>(List.range 16).all λw=>eC 5 m w)=true:=by decide+kernel
theorem Kd:((List.range' 24 8).all λm=>(List.range 16).all λw=>eC 5 m w)=true:=by decide+kernel
theorem Ki:((List.range' 32 8).all λm=>(List.range 16).all λw=>eC 5 m w)=true:=by decide+kernel
theorem Ky:((List.range' 40 8).all λm=>(List.range 16).all λw=>eC 5 m w)=true:=by decide+kernel
theorem Kj:((List.range' 48 8).all λm=>(List.range 16).all λw=>eC 5 m w)=true:=by decide+kernel
theorem J8:((List.range' 56 8).all λm=>(List.range 16).all λw=>eC 5 m w)=true:=by decide+kernel
theorem Kx:((List.range' 0 16).all λm=>(List.range 16).all λw=>eC 4 m w)=true:=by decide+kernel
theorem KN:((List.range' 16 16).all λm=>(List.range 16).all λw=>eC 4 m w)=true:=by decide+kernel
theorem KA:((List.range' 32 16).all λm=>(List.range 16).all λw=>eC 4 m w)=true:=by decide+kernel
theorem JK:((List.range' 48 16).all λm=>(List.range 16).all λw=>eC 4 m w)=true:=by decide+kernel
theorem Jv:((List.range' 0 32).all λm=>(List.range 16).all λw=>eC 3 m w)=true:=by decide+kernel
theorem J0:((List.range' 32 32).all λm=>(List.range 16).all λw=>eC 3 m w)=true:=by decide+kernel
theorem LA:((List.range' 0 64).all λm=>(List.range 16).all λw=>eC 2 m w)=true:=by decide+kernel
theorem Lo:((List.range' 0 64).all λm=>(List.range 16).all λw=>eC 1 m w)=true:=by decide+kernel
theorem cF{f:Nat->Nat->Bool}{l:Nat}(h:((List.range' a l).all λm=>(List.range 16).all λw=>f m w)=true){m:Nat}(h1:a<=m)(h2:m<a+l)(hw:w<16):f m w=true:=
 all_eq_true.mp (all_eq_true.mp h m (mem_range'_1.mpr ⟨h1,h2⟩)) w (mem_range.mpr hw)
theorem Ka{m:Nat}(hm:m<64)(hw:w<16):eC 5 m w=true:=by
 by_cases a1:m<8
 ·exact cF JL (zero_le _) a1 hw
 by_cases a2:m<16
 ·exact cF Kl (le_of_not_lt a1) a2 hw
 by_cases a3:m<24
 ·exact cF Jx (le_of_not_lt a2) a3 hw
 by_cases a4:m<32
 ·exact cF Kd (le_of_not_lt a3) a4 hw
 by_cases a5:m<40
 ·exact cF Ki (le_of_not_lt a4) a5 hw
 by_cases a6:m<48
 ·exact cF Ky (le_of_not_lt a5) a6 hw
 by_cases a7:m<56
 ·exact cF Kj (le_of_not_lt a6) a7 hw
 ·exact cF J8 (le_of_not_lt a7) hm hw
theorem JJ{m:Nat}(hm:m<64)(hw:w<16):eC 4 m w=true:=by
 by_cases a1:m<16
 ·exact cF Kx (zero_le _) a1 hw
 by_cases a2:m<32
 ·exact cF KN (le_of_not_lt a1) a2 hw
 by_cases a3:m<48
 ·exact cF KA (le_of_not_lt a2) a3 hw
 ·exact cF JK (le_of_not_lt a3) hm hw
theorem JW{m:Nat}(hm:m<64)(hw:w<16):eC 3 m w=true:=by
 by_cases a1:m<32
 ·exact cF Jv (zero_le _) a1 hw
 ·exact cF J0 (le_of_not_lt a1) hm hw
theorem DM{m:Nat}(h1:1<=n)(h5:n<=5)(hm:m<64)(hw:w<16):eC n m w=true:=by
 rcases n with _|_|_|_|_|_|n
 ·exact absurd h1 (by decide)
 ·exact cF Lo (zero_le _) (by simpa using hm) hw
 ·exact cF LA (zero_le _) (by simpa using hm) hw
 ·exact JW hm hw
 ·exact JJ hm hw
 ·exact Ka hm hw
 ·exact absurd h5 (by simp_all)
def HB(l:List Nat):Prop:=∀c∈l,c=32∨c=9
theorem sm{c:Nat}{r:List Nat}(h1:c≠32)(h2:c≠9):∀(l cnt:List Nat) (b nt:Nat),HB l->jK (l++c::r) cnt b nt=jK l cnt b nt
 |[],cnt,b,nt,_=>by show(if c=32 then _ else if c=9 then _ else(cnt,b,nt))=(cnt,b,nt);rw[if_neg h1,if_neg h2]
 |x::l,cnt,b,nt,h=>by have ih:=λcnt b nt=>sm (r:=r) h1 h2 l cnt b nt λc hc=>h c (.tail _ hc);show(if x=32 then jK (l++c::r) cnt (b+1) nt else if x=9 then jK (l++c::r) _ 0 (nt+1)else(cnt,b,nt))=(if x=32 then jK l cnt (b+1) nt else if x=9 then jK l _ 0 (nt+1)else(cnt,b,nt));rw[ih,ih]
theorem wb:∀{l:List Nat},HB l->gp l=l.length
 |[],_=>rfl
 |x::l,h=>by
  have ih:=wb (l:=l) λc hc=>h c (.tail _ hc);show(if x=32 then gp l+1 else if x=9 then gp l+1 else 0)=l.length+1;rcases h x (.head _)with rfl|rfl
  ·rw[if_pos rfl,ih]
  ·rw[if_neg (by decide),if_pos rfl,ih]
theorem qy{c:Nat}{r:List Nat}(h1:c≠32)(h2:c≠9):∀{l:List Nat},HB l->gp (l++c::r)=l.length
 |[],_=>by show(if c=32 then _ else if c=9 then _ else 0)=0;rw[if_neg h1,if_neg h2]
 |x::l,h=>by
  have ih:=qy (r:=r) h1 h2 (l:=l) λc hc=>h c (.tail _ hc);show(if x=32 then gp (l++c::r)+1 else if x=9 then gp (l++c::r)+1 else 0)=l.length+1;rcases h x (.head _)with rfl|rfl
  ·rw[if_pos rfl,ih]
  ·rw[if_neg (by decide),if_pos rfl,ih]
theorem tD{a b b':List Nat}(h1:gp b=gp b')(h2:jK b [] 0 0=jK b' [] 0 0):dq a b=dq a b':=by unfold dq bY xP Js zq H3 nx;rw[h1,h2]
noncomputable def Ao(ld:Nat->List Nat)(hd:Nat->Nat)(i:Nat):cv:=(ld i,[65+hd i])
noncomputable def GR(ps:List cv):List cv×cv:=(ps.dropLast,cX ps)
theorem B2(ps:List cv)(p:cv):GR (ps++[p])=(ps,p):=by unfold GR cX;rw[List.dropLast_concat,List.getLast?_concat];rfl
theorem vf{line:List Nat}{f:Nat->cv}(hf:∀i,(f i).2≠[]):∀(R:List Nat) (k:Nat),R.length<k->fY (hV line k (GR (R.reverse.map f)))=((R.dropWhile λt=>!dq (f t).1 line).reverse).map f
 |[],k+1,_=>by have:hV line (k+1) (GR [])=GR []:=if_neg Bool.false_ne_true;rw[show([]:List Nat).reverse.map f=[]from rfl,this];rfl
 |t::R,k+1,h=>by
  have e:GR ((t::R).reverse.map f)=(R.reverse.map f,f t):=by rw[reverse_cons,map_append];exact B2 _ _
  have ht:iR line (R.reverse.map f,f t)=!dq (f t).1 line:=by unfold iR;rw[decide_eq_false (hf t),Bool.and_false];rfl
  rw[e,List.dropWhile_cons];show fY (if iR line (R.reverse.map f,f t)=true then hV line k (eN (R.reverse.map f,f t))else(R.reverse.map f,f t))=_;rw[ht];by_cases q:(!dq (f t).1 line)=true
  ·rw[if_pos q,if_pos q];exact vf hf R k (lt_of_succ_lt_succ h)
  ·rw[if_neg q,if_neg q,reverse_cons,map_append];unfold fY;rw[decide_eq_false (hf t),Bool.and_false];exact if_pos rfl
structure C3(ld:Nat->List Nat)(hd:Nat->Nat)(line:Nat->List Nat)(n:Nat):Prop where
 w:∀i,i<n->HB (ld i)
 t:∀i,i<n->∃r,line i=ld i++(97+hd i)::r
noncomputable def I7(ld:Nat->List Nat)(i j:Nat):Bool:=dq (ld i) (ld j)
theorem lV{ld:Nat->List Nat}{hd:Nat->Nat}{line:Nat->List Nat}(h:C3 ld hd line n)(hi:i<n):gp (line i)=(ld i).length/\(line i).take (gp (line i))=ld i/\(line i).getD (gp (line i)) 0=97+hd i/\∀a,dq a (line i)=dq a (ld i):=by
 obtain⟨r,e⟩:=h.t i hi;have hw:=h.w i hi;have n1:97+hd i≠32:=by lia
 have n2:97+hd i≠9:=by lia
 have e1:gp (line i)=(ld i).length:=by rw[e];exact qy n1 n2 hw
 refine⟨e1,?_,?_,λa=>tD (e1.trans (wb hw).symm) (by rw[e];exact sm n1 n2 _ _ _ _ hw)⟩
 ·rw[e1,e];exact List.take_left
 ·rw[e1,e,List.getD_eq_getElem?_getD,List.getElem?_append_right (le_refl _),sub_self];rfl
theorem wP{ld:Nat->List Nat}{hd:Nat->Nat}{line:Nat->List Nat}(h:C3 ld hd line n)(hk:k<n)(S:List Nat):iZ (line k) (S.map (Ao ld hd))=(oa (I7 ld) S k).map (Ao ld hd):=by
 obtain⟨_,h2,h3,h4⟩:=lV h hk;unfold iZ ju oa;have:=vf (line:=line k) (f:=Ao ld hd) (λi e=>nomatch e) S.reverse (S.length+1) (by rw[length_reverse];exact lt_succ_self _);rw[List.reverse_reverse]at this;rw[length_map,show((S.map (Ao ld hd)).dropLast,cX (S.map (Ao ld hd)))=GR (S.map (Ao ld hd))from rfl,this,h2,h3,map_append];have e1:97+hd k-32=65+hd k:=by lia
 rw[e1];have e2:(λt=>!dq (Ao ld hd t).1 (line k))=λt=>!I7 ld t k:=funext λt=>by rw[h4];rfl
 rw[e2];rfl
theorem rG{ld:Nat->List Nat}{hd:Nat->Nat}{line:Nat->List Nat}{n:Nat}(h:C3 ld hd line n):∀k,k<n->((List.range (k+1)).map line).foldl ur ([],[])=((fW (I7 ld) k).map (Ao ld hd),(List.range (k+1)).map λi=>be ((fW (I7 ld) i).map (Ao ld hd)))
 |0,hk=>by have:=wP h hk [];refine(?_:(iZ (line 0) [],[]++[be (iZ (line 0) [])])=_);rw[show iZ (line 0) []=_ from this];rfl
 |k+1,hk=>by rw[List.range_succ,map_append,foldl_append,rG h k (lt_of_succ_lt hk)];refine(?_:(iZ (line (k+1)) _,_++[be (iZ (line (k+1)) _)])=_);rw[wP h hk,map_append];rfl
noncomputable def JV:List Nat->Bool
 |[]=>true
 |x::r=>(Nat.beq x 32||Nat.beq x 9)&&JV r
theorem t7:∀{l:List Nat},JV l=true->HB l
 |[],_=>λ_ h=>nomatch h
 |x::r,h=>by
  have h:=and_eq_true_iff.mp h;intro c hc;cases hc with
  |head _=>exact(Bool.or_eq_true_iff.mp h.1).imp Nat.eq_of_beq_eq_true Nat.eq_of_beq_eq_true
  |tail _ q=>exact t7 h.2 c q
theorem lm:∀k,k<30->JV (ee (2+k))=true/\Nat.ble (ee (2+k)).length 4=true/\(ee (2+k)).isEmpty=false:=by decide+kernel
theorem Dc(h:bh xs){j:Nat}(hj:j<4):∃k,k<30/\ld xs (j+1)=ee (2+k):=by have hl:j<xs.length:=h.1▸hj;refine⟨xs[j]%30,Nat.mod_lt _ (by decide),?_⟩;refine(?_:(xs.map λx=>ee (2+x%30)).getD j []=_);rw[List.getD_eq_getElem?_getD,List.getElem?_map,List.getElem?_eq_getElem hl];rfl
structure KJ(l:List Nat):Prop where
 w:HB l
 l:l.length<=4
theorem km(h:bh xs):∀{j:Nat},j<5->KJ (ld xs j)
 |0,_=>⟨(λ_ h=>nomatch h),zero_le _⟩
 |j+1,hj=>by obtain⟨k,hk,e⟩:=Dc h (lt_of_succ_lt_succ hj);obtain⟨h1,h2,_⟩:=lm k hk;rw[e];exact⟨t7 h1,le_of_ble_eq_true h2⟩
theorem Gd(h:bh xs){j:Nat}(h1:1<=j)(hj:j<5):∃c r,ld xs j=c::r/\(c=32∨c=9):=by
 obtain⟨i,rfl⟩:∃i,j=i+1:=⟨j-1,(sub_add_cancel h1).symm⟩;obtain⟨k,hk,e⟩:=Dc h (lt_of_succ_lt_succ hj);obtain⟨f1,_,f3⟩:=lm k hk;rw[e];have w:=t7 f1;generalize ee (2+k)=l at w f3
 match l,f3 with
 |c::r,_=>exact⟨c,r,rfl,w c (.head _)⟩
theorem sE{j:Nat}(hj:j<5):∃r,wd xs j=(97+j)::r/\(r=[]∨r=[97+j]):=by
 have go:∀k x,∃r,List.replicate (1+x%2) (98+k)=(97+(k+1))::r/\(r=[]∨r=[97+(k+1)]):=λk x=>by
  rw[show 97+(k+1)=98+k from(add_right_comm 97 1 k).symm];rcases Nat.mod_two_eq_zero_or_one x with e|e<;>rw[e]
  ·exact⟨[],rfl,.inl rfl⟩
  ·exact⟨[98+k],rfl,.inr rfl⟩
 rcases(by decide:∀j,j<5->j=0∨j=1∨j=2∨j=3∨j=4) j hj with rfl|rfl|rfl|rfl|rfl
 ·exact⟨[],rfl,.inl rfl⟩
 ·exact go 0 _
 ·exact go 1 _
 ·exact go 2 _
 ·exact go 3 _
theorem KX(xs:List Nat):(lP xs=32/\wm xs=9)∨(lP xs=9/\wm xs=32):=by
 unfold lP wm;by_cases e:xs.sum/7%2=0
 ·rw[if_pos e,if_pos e];exact .inl ⟨rfl,rfl⟩
 ·rw[if_neg e,if_neg e];exact .inr ⟨rfl,rfl⟩
theorem vN(b:Nat->Bool):∃m,m<32/\∀j,j<5->m.testBit j=b j:=by
 have go:∀a b c d e:Bool,∃m,m<32/\m.testBit 0=a/\m.testBit 1=b/\m.testBit 2=c/\m.testBit 3=d/\m.testBit 4=e:=λa b c d e=>
  ⟨a.toNat+2*b.toNat+4*c.toNat+8*d.toNat+16*e.toNat,(by decide+kernel:∀a b c d e:Bool,a.toNat+2*b.toNat+4*c.toNat+8*d.toNat+16*e.toNat<32/\(a.toNat+2*b.toNat+4*c.toNat+8*d.toNat+16*e.toNat).testBit 0=a/\(a.toNat+2*b.toNat+4*c.toNat+8*d.toNat+16*e.toNat).testBit 1=b/\(a.toNat+2*b.toNat+4*c.toNat+8*d.toNat+16*e.toNat).testBit 2=c/\(a.toNat+2*b.toNat+4*c.toNat+8*d.toNat+16*e.toNat).testBit 3=d/\(a.toNat+2*b.toNat+4*c.toNat+8*d.toNat+16*e.toNat).testBit 4=e) a b c d e⟩
 obtain⟨m,hm,e0,e1,e2,e3,e4⟩:=go (b 0) (b 1) (b 2) (b 3) (b 4);refine⟨m,hm,λj hj=>?_⟩;rcases(by decide:∀j,j<5->j=0∨j=1∨j=2∨j=3∨j=4) j hj with rfl|rfl|rfl|rfl|rfl
 ·exact e0
 ·exact e1
 ·exact e2
 ·exact e3
 ·exact e4
noncomputable def oW(m a k:Nat):Nat:=dv ([k]++((List.range' a (k+1-a)).drop 1).filter m.testBit)
noncomputable def jg(m a:Nat):Nat->Option Nat
 |0=>none
 |j+1=>if m.testBit (a+(j+1))=true then some (j+1)else jg m a j
noncomputable def HK(m k a:Nat):Bool:=
 let c:=oW m a k
 Nat.blt a c&&Nat.ble c k
 &&decide (((List.range' a (k+1-a)).filter λ(j:Nat)=>decide ((j:Int)<(c:Nat)))=List.range' a (c-a))
 &&decide (((List.range' a (k+1-a)).filter λ(j:Nat)=>decide (((c:Nat):Int)<=j))=List.range' c (k+1-c))
 &&decide ((List.range' a (k+1-a)).take (c-a)=List.range' a (c-a))
 &&decide ((List.range' a (k+1-a)).drop (c-a)=List.range' c (k+1-c))
 &&decide ((jg m a (k-a)).getD (k-a)=c-a)
theorem CU:∀m,m<32->∀k,k<5->∀a,a<k->HK m k a=true:=by decide+kernel
noncomputable def iP(xs:List Nat)(j:Nat):cv:=(ld xs j,wd xs j)
noncomputable def bO(a k:Nat):List Nat:=List.range' a (k+1-a)
theorem hG(h:a<=k):bO a k++[k+1]=bO a (k+1):=by unfold bO;rw[show k+1+1-a=(k+1-a)+1 from succ_sub (le_succ_of_le h),List.range'_1_concat,Nat.add_sub_cancel' (le_succ_of_le h)]
theorem g7{j:Nat}(h:j∈bO a k)(hk:k<5):j<5:=lt_of_lt_of_le (gZ h).2 hk
noncomputable def AR(r:List Nat):Nat:=r.getD 0 0
noncomputable def b5(xs:List Nat)(j:Nat):Bool:=decide ((ld xs j).getD 0 0=lP xs)
structure RC(xs:List Nat)(k a:Nat)(s:List (List Nat)×List Nat)(t:List (List Nat)×List cv):Prop where
 le:a<=k
 r:s.2=bO a k
 t1:t.1=s.1.map (uH xs)
 t2:t.2=(bO a k).map (iP xs)
 n:s.1.length<=k
 o:∀r∈s.1,∃b c,b<=c/\c<5/\r=bO b c
 p:(s.1.map AR).Pairwise (·<·)
 q:∀r∈s.1,AR r<a
 z:((s.1.map AR)++[a]).getD 0 0=0
theorem lD(xs r:List Nat):be (r.map (iP xs))=uH xs r:=by unfold be uH;rw[map_map];rfl
theorem E5{xs:List Nat}:∀r:List Nat,(∀j∈r,j<5)->(r.map (Eb (xm xs))).sum=(gk (r.map (iP xs)):Nat)
 |[],_=>rfl
 |j::r,h=>by
  have ih:=E5 (xs:=xs) r λi hi=>h i (.tail _ hi);have e:Eb (xm xs) j=((ld xs j).length+(wd xs j).length:Nat):=by unfold Eb xm;rw[List.getD_eq_getElem?_getD,List.getElem?_map,List.getElem?_range' (h j (.head _))];refine(?_:(((ld xs (0+1*j)++wd xs (0+1*j)).length:Nat):Int)=_);rw[one_mul,zero_add,List.length_append]
  refine(?_:(Eb (xm xs) j::r.map (Eb (xm xs))).sum=(((iP xs j).1.length+(iP xs j).2.length+gk (r.map (iP xs)):Nat):Int));rw[sum_cons,ih,e];rfl
theorem sv(hi:a+i<=k):((bO a k).map (iP xs)).getD i ([],[])=iP xs (a+i):=by unfold bO;rw[List.getD_eq_getElem?_getD,List.getElem?_map,List.getElem?_range' (Nat.lt_sub_iff_add_lt'.mpr (lt_succ_of_le hi)),one_mul];rfl
theorem Fd(hi:a+i<=k):IE ((bO a k).map (iP xs)) i=(ld xs (a+i)).getD 0 0:=by unfold IE;rw[sv hi];rfl
theorem AL{xs:List Nat}{m a k:Nat}(hk:k<5)(hm:∀j,j<5->m.testBit j=b5 xs j):∀j,a+j<=k->dB ((bO a k).map (iP xs)) (lP xs) j=jg m a j
 |0,_=>rfl
 |j+1,h=>by
  unfold dB jg;rw[Fd h,hm _ (lt_of_le_of_lt h hk),AL hk hm j (Nat.le_of_succ_le h)];unfold b5;by_cases e:(ld xs (a+(j+1))).getD 0 0=lP xs
  ·rw[if_pos e,if_pos (decide_eq_true e)]
  ·rw[if_neg e,if_neg λq=>e (of_decide_eq_true q)]
theorem Gn(h:bh xs){j:Nat}(h1:1<=j)(hj:j<5):(ld xs j).getD 0 0=lP xs∨(ld xs j).getD 0 0=wm xs:=by
 obtain⟨c,r,e,hc⟩:=Gd h h1 hj;rw[e];refine(?_:c=_∨c=_);rcases KX xs with⟨e1,e2⟩|⟨e1,e2⟩<;>rw[e1,e2]
 ·exact hc
 ·exact hc.symm
theorem EX(h:bh xs){m:Nat}(ha:a<k)(hk:k<5)(hm:∀j,j<5->m.testBit j=b5 xs j):kP (lP xs) (wm xs) ((bO a k).map (iP xs))=some ((jg m a (k-a)).getD (k-a)):=by
 have hl:((bO a k).map (iP xs)).length-1=k-a:=by rw[length_map,bO,length_range'];exact Nat.sub_right_comm ..
 have e0:a+(k-a)=k:=Nat.add_sub_cancel' (Nat.le_of_lt ha);have s:=AL (xs:=xs) (a:=a) hk hm (k-a) (le_of_eq e0);unfold kP;rw[hl,s];cases e:jg m a (k-a)with
 |some i=>rfl
 |none=>
  obtain⟨d,hd⟩:∃d,k-a=d+1:=⟨k-a-1,(sub_add_cancel (Nat.sub_pos_of_lt ha)).symm⟩;rw[hd]at e e0⊢;unfold jg at e;rw[e0,hm k hk]at e;have hb:¬b5 xs k=true:=λq=>by rw[if_pos q]at e;cases e
  refine(?_:dB _ _ (d+1)=some (d+1));unfold dB;rw[Fd (le_of_eq e0),e0];rcases Gn h (j:=k) (lt_of_le_of_lt (zero_le _) ha) hk with q|q
  ·exact absurd (decide_eq_true q) hb
  ·exact if_pos q
theorem F8{m:Nat}(ha:a<=k)(hk:k+1<5)(hm:∀j,j<5->m.testBit j=b5 xs j):jP (b7 xs) (lP xs) (k+1) (bO a k)=oW m a (k+1):=by unfold jP oW;rw[hG ha];refine congrArg (λl=>dv ([k+1]++l)) (List.filter_congr λj hj=>?_);rw[hm j (g7 (mem_of_mem_drop hj) hk)];unfold b5;exact decide_eq_decide.mpr ⟨λq=>(List.cons.inj q).1,λq=>congrArg (λc=>[c]) q⟩
theorem EC(h:bh xs){s:List (List Nat)×List Nat}{t:List (List Nat)×List cv}(hk:k+1<5)(R:RC xs k a s t):∃a',RC xs (k+1) a' (mV (xm xs) (b7 xs) (qc xs) (lP xs) s (k+1)) (fy xs t (k+1)):=by
 obtain⟨m,hm,hb⟩:=vN (b5 xs);have ha:=lt_succ_of_le R.le;have D:=CU m hm (k+1) hk a ha;unfold HK at D;simp only[and_eq_true,decide_eq_true_eq]at D;obtain⟨⟨⟨⟨⟨⟨d1,d2⟩,d3⟩,d4⟩,d5⟩,d6⟩,d7⟩:=D;have d1:a<oW m a (k+1):=le_of_ble_eq_true d1;have d2:oW m a (k+1)<=k+1:=le_of_ble_eq_true d2;have e2:t.2++[(ld xs (k+1),wd xs (k+1))]=(bO a (k+1)).map (iP xs):=by rw[R.t2,<-hG R.le,map_append];rfl
 have e1:s.2++[k+1]=bO a (k+1):=by rw[R.r];exact hG R.le
 unfold mV fy fN;rw[e1,e2,E5 _ λj hj=>g7 hj hk,EX h ha hk hb,R.r,F8 R.le hk hb];show∃a',RC xs (k+1) a' _ (if decide (qc xs<(gk ((bO a (k+1)).map (iP xs)):Nat))=true then(t.1++[be (((bO a (k+1)).map (iP xs)).take ((jg m a (k+1-a)).getD (k+1-a)))],((bO a (k+1)).map (iP xs)).drop ((jg m a (k+1-a)).getD (k+1-a)))else(t.1,(bO a (k+1)).map (iP xs)));rw[d7,<-List.map_take,<-map_drop];unfold bO;rw[d3,d4,d5,d6,lD];by_cases c:decide (qc xs<(gk ((List.range' a (k+1+1-a)).map (iP xs)):Nat))=true
 ·rw[if_pos c,if_pos c];obtain⟨c',hc'⟩:∃c',oW m a (k+1)=c'+1:=⟨oW m a (k+1)-1,(sub_add_cancel (lt_of_le_of_lt (zero_le _) d1)).symm⟩;have d1':a<c'+1:=by rw[<-hc'];exact d1
  have d2':c'+1<=k+1:=by rw[<-hc'];exact d2
  have ea:AR (List.range' a (oW m a (k+1)-a))=a:=by rw[hc',succ_sub (le_of_lt_succ d1')];rfl
  refine⟨oW m a (k+1),d2,rfl,?_,rfl,?_,?_,?_,?_,?_⟩
  ·refine(?_:t.1++[_]=(s.1++[_]).map (uH xs));rw[R.t1,map_append];rfl
  ·refine(?_:(s.1++[_]).length<=k+1);rw[List.length_append];exact succ_le_succ R.n
  ·intro r hr;rcases mem_append.mp hr with q|q
   ·exact R.o r q
   ·refine⟨a,c',le_of_lt_succ d1',lt_of_lt_of_le (lt_succ_self c') (Nat.le_trans d2' (Nat.le_of_lt hk)),?_⟩;rw[mem_singleton.mp q,hc'];rfl
  ·refine(?_:((s.1++[_]).map AR).Pairwise (·<·));rw[map_append,List.pairwise_append];refine⟨R.p,List.pairwise_singleton _ _,λx hx y hy=>?_⟩;rw[mem_singleton.mp hy,ea];obtain⟨r,hr,rfl⟩:=mem_map.mp hx;exact R.q r hr
  ·intro r hr;rcases mem_append.mp hr with q|q
   ·exact lt_trans (R.q r q) d1
   ·rw[mem_singleton.mp q,ea];exact d1
  ·refine(?_:(((s.1++[_]).map AR)++[_]).getD 0 0=0);have:=R.z;rw[map_append,map_singleton,ea];cases hs:s.1 with
   |nil=>rw[hs]at this;exact this
   |cons r l=>rw[hs]at this;exact this
 ·rw[if_neg c,if_neg c];exact⟨a,Nat.le_of_lt ha,rfl,R.t1,rfl,le_succ_of_le R.n,R.o,R.p,R.q,R.z⟩
noncomputable def rK(xs:List Nat)(k:Nat):List (List Nat)×List Nat:=(List.range' 1 k).foldl (mV (xm xs) (b7 xs) (qc xs) (lP xs)) ([],[0])
noncomputable def tK(xs:List Nat)(k:Nat):List (List Nat)×List cv:=(List.range' 0 (k+1)).foldl (fy xs) ([],[])
theorem ww(h:qc xs<(gk [iP xs 0]:Nat)):False:=by have e:gk [iP xs 0]=1:=rfl;rw[e]at h;unfold qc at h;lia
theorem uz{xs:List Nat}(h:bh xs):∀k,k<5->∃a,RC xs k a (rK xs k) (tK xs k)
 |0,_=>by
  have e:tK xs 0=([],[iP xs 0]):=by refine(?_:fN (qc xs) (lP xs) (wm xs) ([],[]) (iP xs 0)=_);unfold fN;exact if_neg λq=>ww (of_decide_eq_true q)
  rw[e];exact⟨0,le_refl _,rfl,rfl,rfl,le_refl _,(λ_ h=>nomatch h),List.Pairwise.nil,(λ_ h=>nomatch h),rfl⟩
 |k+1,hk=>by
  obtain⟨a,R⟩:=uz h k (lt_of_succ_lt hk);have e1:rK xs (k+1)=mV (xm xs) (b7 xs) (qc xs) (lP xs) (rK xs k) (k+1):=by unfold rK;rw[List.range'_1_concat,foldl_append,add_comm 1 k];rfl
  have e2:tK xs (k+1)=fy xs (tK xs k) (k+1):=by unfold tK;rw[List.range'_1_concat,foldl_append,zero_add];rfl
  rw[e1,e2];exact EC h hk R
theorem Ih(xs:List Nat):∀k,k<5->qb xs (k+1)=tK xs k:=λk hk=>congrArg (λl=>List.foldl (fy xs) ([],[]) l) ((by decide:∀k,k<5->(List.range' 0 5).take (k+1)=List.range' 0 (k+1)) k hk)
theorem ol(h:a<=k):bO a k=List.range' a (k-a)++[k]:=by unfold bO;rw[show k+1-a=(k-a)+1 from succ_sub h,List.range'_1_concat,Nat.add_sub_cancel' h]
theorem iY(a k:Nat):(bO a k).length=k+1-a:=length_range'
theorem uq{j:Nat}(hj:j<5):(wd xs j).length<=2:=by
 obtain⟨r,e,hr⟩:=sE (xs:=xs) hj;rw[e];rcases hr with rfl|rfl
 ·exact(by decide:1<=2)
 ·exact le_refl 2
theorem EH(h:bh xs)(hk:k<5):Ex ((bO a k).map (iP xs))/\Short ((bO a k).map (iP xs))/\((bO a k).map (iP xs)).length<20:=by
 have hl:((bO a k).map (iP xs)).length=k+1-a:=(length_map _).trans (iY a k);have hk5:k+1-a<=5:=Nat.le_trans (sub_le ..) hk;have go:∀{i},i<k+1-a->a+i<=k:=λh=>le_of_lt_succ (Nat.lt_sub_iff_add_lt'.mp h);refine⟨⟨λi h1 hi=>?_,λi hi=>?_⟩,⟨by rw[hl];exact Nat.le_trans hk5 (by decide),λp hp=>?_⟩,by rw[hl];exact lt_of_le_of_lt hk5 (by decide)⟩
 ·rw[hl]at hi;rw[sv (go hi)];obtain⟨c,r,e,_⟩:=Gd h (j:=a+i) (lt_of_lt_of_le h1 (le_add_left ..)) (lt_of_le_of_lt (go hi) hk);exact⟨c,r,e⟩
 ·rw[hl]at hi;rw[sv (go hi)];have hj:=lt_of_le_of_lt (go hi) hk;obtain⟨r,e,hr⟩:=sE (xs:=xs) (j:=a+i) hj;refine(?_:∃r a',wd xs (a+i)=r++[a']/\_);rw[e];rcases hr with rfl|rfl
  ·exact⟨[],_,rfl,by lia,by lia⟩
  ·exact⟨[_],_,rfl,by lia,by lia⟩
 ·obtain⟨j,hj,rfl⟩:=mem_map.mp hp;have hj:=g7 hj hk;exact⟨Nat.le_trans (km h hj).l (by decide),Nat.le_trans (uq hj) (by decide)⟩
theorem E3(h:bh xs)(hk:k<5)(hx:qc xs<(gk ((bO a k).map (iP xs)):Nat)->a<k):Gv (qc xs) (lP xs) (wm xs) ((bO a k).map (iP xs)):=by
 obtain⟨p,s,l⟩:=EH h (a:=a) hk;refine⟨?_,p,l,s,λq=>?_⟩
 ·rcases KX xs with⟨e1,e2⟩|⟨e1,e2⟩<;>rw[e1,e2]
  ·exact⟨.inl rfl,.inr rfl⟩
  ·exact⟨.inr rfl,.inl rfl⟩
 ·obtain⟨m,hm,hb⟩:=vN (b5 xs);rw[EX h (hx q) hk hb];rfl
structure RX(xs:List Nat):Prop where
 n:(cZ xs).length<=5
 o:∀r∈cZ xs,∃b c,b<=c/\c<5/\r=bO b c
 p:(av xs).Pairwise (·<·)
 z:(av xs).getD 0 0=0
 g:bS xs=(cZ xs).map (uH xs)
 t:∃a,a<=4/\(qb xs 5).2=(bO a 4).map (iP xs)
 l:(qb xs 5).1.length<=4
theorem iW(h:bh xs):RX xs:=by
 obtain⟨a,R⟩:=uz h 4 (by decide);have er:cZ xs=(rK xs 4).1++[(rK xs 4).2]:=rfl;have eh:av xs=(rK xs 4).1.map AR++[a]:=by
  refine(?_:(cZ xs).map AR=_);rw[er,map_append,R.r,show bO a 4=_ from rfl];have:AR (bO a 4)=a:=by unfold bO;have:=R.le;rw[show 4+1-a=(4-a)+1 from succ_sub this];rfl
  refine(?_:_++[AR (bO a 4)]=_);rw[this]
 have ec:qb xs 5=tK xs 4:=Ih xs 4 (by decide);refine⟨?_,?_,?_,?_,?_,⟨a,R.le,?_⟩,?_⟩
 ·rw[er,List.length_append];exact succ_le_succ R.n
 ·intro r hr;rcases mem_append.mp (er▸hr)with q|q
  ·exact R.o r q
  ·exact⟨a,4,R.le,by decide,(mem_singleton.mp q).trans R.r⟩
 ·rw[eh,List.pairwise_append];refine⟨R.p,List.pairwise_singleton _ _,λx hx y hy=>?_⟩;obtain⟨r,hr,rfl⟩:=mem_map.mp hx;exact mem_singleton.mp hy▸R.q r hr
 ·rw[eh];exact R.z
 ·refine(?_:(qb xs 5).1++[be (qb xs 5).2]=_);rw[ec,R.t1,R.t2,lD,er,map_append,R.r];rfl
 ·rw[ec];exact R.t2
 ·rw[ec,R.t1,length_map];exact R.n
theorem I4(h:bh xs):∀k,k<5->(ld xs k).length+(wd xs k).length<=20:=λk hk=>Nat.le_trans (add_le_add (km h hk).l (uq hk)) (by decide)
theorem CO(h:bh xs)(R:RX xs):PB xs:=by
 refine⟨I4 h,λj h1 hj=>?_,λr hr=>?_,⟨Nat.le_trans R.n (by decide),λr hr=>?_⟩,R.g⟩
 ·obtain⟨c,r,e,_⟩:=Gd h h1 hj;refine(?_:ld xs j≠[]);rw[e];exact λq=>nomatch q
 ·obtain⟨b,c,hb,hc,rfl⟩:=R.o r hr;refine⟨λq=>?_,λj hj=>g7 hj hc⟩;have:=iY b c;rw[q]at this;have:0=c+1-b:=this;exact absurd (Nat.sub_pos_of_lt (lt_succ_of_le hb)) (by rw[<-this];exact lt_irrefl 0)
 ·obtain⟨b,c,hb,hc,rfl⟩:=R.o r hr;rw[iY];exact Nat.le_trans (sub_le ..) (Nat.le_trans hc (by decide))
theorem oH{B:Nat}:∀l:List Nat,(∀x∈l,x<=B)->l.sum<=B*l.length
 |[],_=>le_refl _
 |x::l,h=>by rw[sum_cons,length_cons,Nat.mul_succ,add_comm];exact add_le_add (oH l λy hy=>h y (.tail _ hy)) (h x (.head _))
theorem wL(h:bh xs){b:Nat}(hc:c<5):(uH xs (bO b c)).length<=30:=by
 unfold uH;rw[length_flatten];refine Nat.le_trans (oH (B:=6) _ λx hx=>?_) ?_
 ·obtain⟨l,hl,rfl⟩:=mem_map.mp hx;obtain⟨j,hj,rfl⟩:=mem_map.mp hl;have hj:=g7 hj hc;rw[List.length_append];exact add_le_add (km h hj).l (uq hj)
 ·rw[length_map,length_map,iY];exact Nat.mul_le_mul_left 6 (Nat.le_trans (sub_le ..) hc)
theorem Df(h:bh xs){r:List Nat}(hr:∀j∈r,j<5):∀c∈uH xs r,c=32∨c=9∨97<=c:=by
 intro c hc;obtain⟨l,hl,hc⟩:=List.mem_flatten.mp hc;obtain⟨j,hj,rfl⟩:=mem_map.mp hl;rcases mem_append.mp hc with q|q
 ·exact((km h (hr j hj)).w c q).imp id .inl
 ·obtain⟨r',e,hr'⟩:=sE (xs:=xs) (hr j hj);rw[e]at q;refine .inr (.inr ?_);cases q with
  |head _=>exact le_add_right _ _
  |tail _ q=>
   rcases hr' with rfl|rfl
   ·cases q
   ·rw[mem_singleton.mp q];exact le_add_right _ _
theorem DK(h:bh xs)(R:RX xs):PA xs:=by
 have hline:∀l∈bS xs,l.length<=30/\10∉l:=λl hl=>by rw[R.g]at hl;obtain⟨r,hr,rfl⟩:=mem_map.mp hl;obtain⟨b,c,hb,hc,rfl⟩:=R.o r hr;refine⟨wL h hc,λq=>?_⟩;have:=Df h (λj hj=>g7 hj hc) 10 q;lia
 have hn:(bS xs).length<=5:=by rw[R.g,length_map];exact R.n
 obtain⟨a,ha,et⟩:=R.t;obtain⟨_,s4,_⟩:=EH h (a:=a) (k:=4) (by decide);have el:=ol ha;refine⟨λi hi=>?_,⟨?_,?_,?_,?_⟩,lt_of_le_of_lt R.l (by decide),?_,λl hl=>(hline l hl).2,?_,Nat.le_trans hn (by decide),λl hl=>Nat.le_trans (hline l hl).1 (by decide)⟩
 ·rcases i with _|k
  ·exact⟨E3 h (a:=0) (k:=0) (by decide) λq=>(ww q).elim,(by decide:0<100)⟩
  ·obtain⟨a,R⟩:=uz h k (lt_of_succ_lt hi);rw[Ih xs k (lt_of_succ_lt hi)];refine⟨?_,?_⟩
   ·have e:(tK xs k).2++[(ld xs (k+1),wd xs (k+1))]=(bO a (k+1)).map (iP xs):=by rw[R.t2,<-hG R.le,map_append];rfl
    rw[e];exact E3 h hi λ_=>lt_succ_of_le R.le
   ·rw[R.t1,length_map];exact lt_of_le_of_lt R.n (lt_trans (lt_succ_self k) (lt_trans hi (by decide)))
 ·rw[et];exact s4
 ·rw[et,el,map_append];exact λq=>nomatch(append_eq_nil_iff.mp q).2
 ·rw[et,el,map_append];obtain⟨r,e,_⟩:=sE (xs:=xs) (j:=4) (by decide);unfold cX;rw[map_singleton,List.getLast?_concat];refine(?_:wd xs 4≠[]);rw[e];exact λq=>nomatch q
 ·obtain⟨r,e,_⟩:=sE (xs:=xs) (j:=4) (by decide);refine⟨101,?_,by decide+kernel⟩;rw[et,lD,el];unfold uH;rw[map_append,List.flatten_append,map_singleton,List.flatten_singleton,e];exact mem_append_right _ (mem_append_right _ (.head _))
 ·have:=oH (B:=30) ((bS xs).map (·.length)) λx hx=>by obtain⟨l,hl,rfl⟩:=mem_map.mp hx;exact(hline l hl).1
  rw[length_map]at this;lia
 ·have hz:bS xs≠[]:=by refine(?_:(qb xs 5).1++[_]≠[]);exact λq=>nomatch(append_eq_nil_iff.mp q).2
  obtain⟨l,P,eP⟩:=List.exists_cons_of_ne_nil hz;have hl:l∈bS xs:=by rw[eP];exact .head _
  have hne:l≠[]:=λq=>by rw[R.g]at hl;obtain⟨r,hr,el⟩:=mem_map.mp hl;obtain⟨b,c,hb,hc,rfl⟩:=R.o r hr;obtain⟨r',e',_⟩:=sE (xs:=xs) hc;rw[q,ol hb]at el;unfold uH at el;rw[map_append,List.flatten_append,map_singleton,List.flatten_singleton,e']at el;exact nomatch(append_eq_nil_iff.mp (append_eq_nil_iff.mp el).2).2
  rw[eP];cases P with
  |nil=>exact hne
  |cons y P=>exact λq=>nomatch(append_eq_nil_iff.mp (append_eq_nil_iff.mp q).1).2
noncomputable def hX(xs:List Nat)(i:Nat):Nat:=(av xs).getD i 0
noncomputable def lX(xs:List Nat)(i:Nat):List Nat:=ld xs (hX xs i)
noncomputable def nX(xs:List Nat):Nat:=(av xs).length
theorem oK(xs:List Nat):(cZ xs).length=nX xs:=(length_map _).symm
theorem pZ(R:RX xs):(bS xs).length=nX xs:=by rw[R.g,length_map];exact oK xs
theorem v9(xs:List Nat):∃k,nX xs=k+1:=⟨_,(oK xs).symm.trans (by unfold cZ;rw[List.length_append];rfl)⟩
theorem zR(R:RX xs):nX xs<=5:=oK xs▸R.n
theorem kA{α:Type}{l:List α}{d:α}(h:i<l.length):l[i]?=some (l.getD i d):=by rw[List.getD_eq_getElem?_getD,List.getElem?_eq_getElem h];rfl
theorem sQ(R:RX xs)(hi:i<nX xs):∃c,hX xs i<=c/\c<5/\(bS xs).getD i []=uH xs (bO (hX xs i) c):=by
 have hr:i<(cZ xs).length:=oK xs▸hi;have e:=kA (d:=([]:List Nat)) hr;obtain⟨b,c,hb,hc,er⟩:=R.o _ (List.mem_of_getElem? e);have eh:hX xs i=b:=by refine(?_:((cZ xs).map AR).getD i 0=b);rw[List.getD_eq_getElem?_getD,List.getElem?_map,e,er];unfold bO;rw[show c+1-b=(c-b)+1 from succ_sub hb];rfl
 refine⟨c,eh▸hb,hc,?_⟩;rw[R.g,List.getD_eq_getElem?_getD,List.getElem?_map,e,er,eh];rfl
theorem l6(R:RX xs)(hi:i<nX xs):hX xs i<5:=by obtain⟨c,h1,h2,_⟩:=sQ R hi;exact lt_of_le_of_lt h1 h2
theorem x5{b:Nat}(h:b<=c):bO b c=b::List.range' (b+1) (c-b):=by unfold bO;rw[show c+1-b=(c-b)+1 from succ_sub h];rfl
theorem Fk(h:bh xs)(R:RX xs):C3 (lX xs) (hX xs) (λi=>(bS xs).getD i []) (nX xs):=by refine⟨λi hi=>(km h (l6 R hi)).w,λi hi=>?_⟩;obtain⟨c,h1,h2,e⟩:=sQ R hi;obtain⟨r,e',_⟩:=sE (xs:=xs) (l6 R hi);refine⟨r++uH xs (List.range' (hX xs i+1) (c-hX xs i)),?_⟩;refine(?_:(bS xs).getD i []=ld xs (hX xs i)++_);rw[e,x5 h1];refine(?_:(ld xs (hX xs i)++wd xs (hX xs i))++_=_);rw[e',List.append_assoc];rfl
theorem Jf:∀j,j<5->Txt.upper (SL [97+j])=SL [97+j-32]:=by decide+kernel
theorem z4(R:RX xs):bS xs=(List.range (nX xs)).map λi=>(bS xs).getD i []:=by
 refine List.ext_getElem? λi=>?_;rw[List.getElem?_map];by_cases hi:i<nX xs
 ·rw[List.getElem?_range hi];exact kA ((pZ R).symm▸hi)
 ·rw[List.getElem?_eq_none (by rw[pZ R];lia),List.getElem?_eq_none (by rw[length_range];lia)];rfl
noncomputable def yh(xs:List Nat)(i j:Nat):Bool:=I7 (lX xs) i j
noncomputable def rM(xs:List Nat)(u:Nat):List Nat:=be ((fW (yh xs) u).map (Ao (lX xs) (hX xs)))
theorem uW(h:bh xs)(R:RX xs):rz xs=(List.range (nX xs)).map (rM xs):=by obtain⟨k,hk⟩:=v9 xs;have:=rG (Fk h R) k (hk▸lt_succ_self k);unfold rz;rw[z4 R,hk,this];rfl
theorem po(h:bh xs)(R:RX xs):PC xs:=by
 have n5:=zR R;refine⟨λj hj=>?_,Nat.le_trans n5 (by decide),⟨by rw[pZ R];lia,λw hw=>?_⟩,by rw[uW h R,length_map,length_range];lia⟩
 ·obtain⟨i,hi,rfl⟩:=List.mem_iff_getElem.mp hj;have e:=kA (d:=0) hi;rw[List.getElem?_eq_getElem hi]at e;rw[Option.some.inj e];exact l6 R hi
 ·obtain⟨i,hi,rfl⟩:=List.mem_iff_getElem.mp hw;have e:=kA (d:=([]:List Nat)) hi;rw[List.getElem?_eq_getElem hi]at e;rw[Option.some.inj e];rw[pZ R]at hi;obtain⟨c,h1,h2,ep⟩:=sQ R hi;have hh:=l6 R hi;have T:=Fk h R;obtain⟨f1,_,_,_⟩:=lV T hi;obtain⟨r,er⟩:=T.t i hi;have hl:(lX xs i).length<=4:=(km h hh).l;refine⟨by rw[ep];exact Nat.le_trans (wL h h2) (by decide),by rw[f1];exact Nat.le_trans hl (by decide),97+hX xs i,?_,Jf _ hh⟩;rw[f1,er,List.getElem?_append_right (le_refl _),sub_self];rfl
noncomputable def Cs(a b:List Nat):List Nat:=(List.range' 0 5).filter λt=>decide ((jI b).getD t 0<=(jI a).getD t 0)
noncomputable def zV:Nat->List Nat
 |0=>[]
 |k+1=>ee (2+k)
theorem xw:∀a,a<31->∀b,b<30->(Cs (zV a) (ee (2+b))).isEmpty=dq (zV a) (ee (2+b)):=by decide+kernel
theorem zP:∀b,b<30->dq [] (ee (2+b))=true:=by decide+kernel
theorem BU{a b:List Nat}:(Cs a b).isEmpty=true↔∀t,t<5->¬(jI b).getD t 0<=(jI a).getD t 0:=by unfold Cs;rw[List.isEmpty_iff,List.filter_eq_nil_iff];refine⟨λh t ht q=>h t (mem_range'_1.mpr ⟨zero_le _,(zero_add 5).symm▸ht⟩) (decide_eq_true q),λh t ht q=>h t (zero_add 5▸(mem_range'_1.mp ht).2) (of_decide_eq_true q)⟩
theorem xB{a b c:List Nat}(h1:(Cs a b).isEmpty=true)(h2:(Cs b c).isEmpty=true):(Cs a c).isEmpty=true:=by rw[BU]at*;exact λt ht q=>h2 t ht (Int.le_trans q (Int.le_of_lt (Int.not_le.mp (h1 t ht))))
theorem GA(R:RX xs):hX xs 0=0:=R.z
theorem E9{α:Type}{l:List α}{d:α}(h:i<l.length):l[i]=l.getD i d:=by rw[List.getD_eq_getElem?_getD,List.getElem?_eq_getElem h];rfl
theorem tQ(R:RX xs){j:Nat}(hij:i<j)(hj:j<nX xs):hX xs i<hX xs j:=by have hi:i<(av xs).length:=lt_trans hij hj;have hj:j<(av xs).length:=hj;have:=List.pairwise_iff_getElem.mp R.p i j hi hj hij;rw[E9 (d:=0) hi,E9 (d:=0) hj]at this;exact this
theorem rj(R:RX xs)(h1:1<=i)(hi:i<nX xs):1<=hX xs i:=Nat.le_trans (succ_le_succ (zero_le _)) (tQ R h1 hi)
theorem FC(h:bh xs)(R:RX xs)(hi:i<nX xs):∃a,a<31/\lX xs i=zV a:=by
 have hh:=l6 R hi;unfold lX;generalize hX xs i=j at hh;rcases j with _|j
 ·exact⟨0,by decide,rfl⟩
 ·obtain⟨k,hk,e⟩:=Dc h (lt_of_succ_lt_succ hh);exact⟨k+1,Nat.succ_lt_succ hk,e⟩
theorem vo(h:bh xs)(R:RX xs)(h1:1<=i)(hi:i<nX xs):∃b,b<30/\lX xs i=ee (2+b):=by
 have hh:=l6 R hi;have hp:=rj R h1 hi;unfold lX;generalize hX xs i=j at hh hp;rcases j with _|j
 ·exact absurd hp (by decide)
 ·exact Dc h (lt_of_succ_lt_succ hh)
theorem oZ(h:bh xs)(R:RX xs){j:Nat}(hi:i<nX xs)(h1:1<=j)(hj:j<nX xs):yh xs i j=(Cs (lX xs i) (lX xs j)).isEmpty:=by obtain⟨a,ha,ea⟩:=FC h R hi;obtain⟨b,hb,eb⟩:=vo h R h1 hj;refine(?_:dq (lX xs i) (lX xs j)=_);rw[ea,eb,xw a ha b hb]
theorem C8(h:bh xs)(R:RX xs){j:Nat}(h1:1<=j)(hj:j<nX xs):yh xs 0 j=true:=by obtain⟨b,hb,eb⟩:=vo h R h1 hj;refine(?_:dq (ld xs (hX xs 0)) (lX xs j)=_);rw[GA R,eb];exact zP b hb
theorem xG(h:bh xs)(R:RX xs){j:Nat}(hi:i<j)(hj:j<k)(hk:k<nX xs)(a:yh xs i j=true)(b:yh xs j k=true):yh xs i k=true:=by have jn:=lt_trans hj hk;have k1:1<=k:=lt_of_le_of_lt (zero_le _) hj;rw[oZ h R (lt_trans hi jn) (lt_of_le_of_lt (zero_le _) hi) jn]at a;rw[oZ h R jn k1 hk]at b;rw[oZ h R (lt_trans hi jn) k1 hk];exact xB a b
theorem IU(b:Nat->Nat->Bool):∃m,m<64/\∀i j,i<j->j<5->mR m i j=(i==0||b i j):=by
 have go:∀a b c d e f:Bool,∃m,m<64/\m.testBit 0=a/\m.testBit 1=b/\m.testBit 2=c/\m.testBit 3=d/\m.testBit 4=e/\m.testBit 5=f:=λa b c d e f=>by
  obtain⟨m,hm,h⟩:=vN λj=>[a,b,c,d,e].getD j e;refine⟨m+32*f.toNat,?_,?_⟩
  ·cases f
   ·exact lt_of_lt_of_le hm (by decide)
   ·exact Nat.add_lt_add_right hm 32
  have D:=(by decide+kernel:∀m,m<32->∀f:Bool,(m+32*f.toNat).testBit 0=m.testBit 0/\(m+32*f.toNat).testBit 1=m.testBit 1/\(m+32*f.toNat).testBit 2=m.testBit 2/\(m+32*f.toNat).testBit 3=m.testBit 3/\(m+32*f.toNat).testBit 4=m.testBit 4/\(m+32*f.toNat).testBit 5=f) m hm f;obtain⟨d0,d1,d2,d3,d4,d5⟩:=D;exact⟨d0.trans (h 0 (by decide)),d1.trans (h 1 (by decide)),d2.trans (h 2 (by decide)),d3.trans (h 3 (by decide)),d4.trans (h 4 (by decide)),d5⟩
 obtain⟨m,hm,e0,e1,e2,e3,e4,e5⟩:=go (b 1 2) (b 1 3) (b 1 4) (b 2 3) (b 2 4) (b 3 4);refine⟨m,hm,λi j hij hj=>?_⟩;rcases(by decide:∀j,j<5->∀i,i<j->i=0∨i=1/\j=2∨i=1/\j=3∨i=1/\j=4∨i=2/\j=3∨i=2/\j=4∨i=3/\j=4) j hj i hij with rfl|⟨rfl,rfl⟩|⟨rfl,rfl⟩|⟨rfl,rfl⟩|⟨rfl,rfl⟩|⟨rfl,rfl⟩|⟨rfl,rfl⟩
 ·rfl
 ·exact e0
 ·exact e1
 ·exact e2
 ·exact e3
 ·exact e4
 ·exact e5
theorem IX(b:Nat->Bool):∃w,w<16/\∀i,1<=i->i<5->wM w i=1+(b i).toNat:=by
 obtain⟨m,hm,h⟩:=vN λj=>b (j+1)&&decide (j<4);refine⟨m,?_,λi h1 hi=>?_⟩
 ·have:=h 4 (by decide);rw[decide_eq_false (by decide),Bool.and_false]at this;exact(by decide+kernel:∀m,m<32->m.testBit 4=false->m<16) m hm this
 ·obtain⟨j,rfl⟩:∃j,i=j+1:=⟨i-1,(sub_add_cancel h1).symm⟩;refine(?_:1+(m.testBit j).toNat=_);have hj:j<4:=lt_of_succ_lt_succ hi;rw[h j (lt_trans hj (by decide)),decide_eq_true hj,Bool.and_true]
theorem Iu{lt:Nat->Nat->Bool}(h:∀i j k,1<=i->i<j->j<k->k<5->lt i j=true->lt j k=true->lt i k=true):HP lt=false:=by
 have go:∀i j k,1<=i->i<j->j<k->k<5->(lt i j&&lt j k&& !lt i k)=false:=λi j k a b c d=>by
  cases e1:lt i j with
  |false=>rfl
  |true=>
   cases e2:lt j k with
   |false=>rfl
   |true=>rw[h i j k a b c d e1 e2];rfl
 unfold HP;rw[go 1 2 3 (by decide) (by decide) (by decide) (by decide),go 1 2 4 (by decide) (by decide) (by decide) (by decide),go 1 3 4 (by decide) (by decide) (by decide) (by decide),go 2 3 4 (by decide) (by decide) (by decide) (by decide)];rfl
theorem Ez{lt:Nat->Nat->Bool}(n5:n<=5)(h0:∀j,1<=j->j<n->lt 0 j=true)(ht:∀i j k,i<j->j<k->k<n->lt i j=true->lt j k=true->lt i k=true):∃m,m<64/\(∀i j,i<j->j<n->lt i j=mR m i j)/\HP (mR m)=false:=by
 obtain⟨m,hm,hb⟩:=IU λi j=>Nat.ble n j||lt i j;have out:∀{j},j<n->Nat.ble n j=false:=λh=>eq_false_iff.mpr λe=>not_le.mpr h (le_of_ble_eq_true e);refine⟨m,hm,λi j hij hj=>?_,Iu λi j k h1 hij hjk hk a b=>?_⟩
 ·rw[hb i j hij (lt_of_lt_of_le hj n5),out hj,Bool.false_or];rcases i with _|i
  ·exact h0 j hij hj
  ·rfl
 ·rw[hb i k (lt_trans hij hjk) hk];by_cases q:k<n
  ·obtain⟨i,rfl⟩:∃i',i=i'+1:=⟨i-1,(sub_add_cancel h1).symm⟩;obtain⟨j,rfl⟩:∃j',j=j'+1:=⟨j-1,(sub_add_cancel (Nat.le_trans h1 (Nat.le_of_lt hij))).symm⟩;have a:(Nat.ble n (j+1)||lt (i+1) (j+1))=true:=(hb _ _ hij (lt_trans hjk hk)).symm.trans a;have b:(Nat.ble n k||lt (j+1) k)=true:=(hb _ _ hjk hk).symm.trans b;rw[out (lt_trans hjk q),Bool.false_or]at a;rw[out q,Bool.false_or]at b;rw[ht _ _ _ hij hjk q a b,Bool.or_true,Bool.or_true]
  ·rw[Nat.ble_eq_true_of_le (not_lt.mp q),Bool.true_or,Bool.or_true]
theorem mo{α β:Type}{f:α->β}:∀(l:List α) (s:List β),l.foldl (λs k=>s++[f k]) s=s++l.map f
 |[],s=>(append_nil s).symm
 |x::l,s=>by refine(?_:l.foldl _ (s++[f x])=_);rw[mo l,List.append_assoc];rfl
theorem fE{α β:Type}{f g:β->α->β}:∀{l:List α} (s:β),(∀s,∀a∈l,f s a=g s a)->l.foldl f s=l.foldl g s
 |[],_,_=>rfl
 |x::l,s,h=>by refine(?_:l.foldl f (f s x)=l.foldl g (g s x));rw[h s x (.head _)];exact fE _ λs a ha=>h s a (.tail _ ha)
theorem v0(l:List Nat):(aq l).isEmpty=l.isEmpty:=by cases l<;>rfl
theorem Hr{lt:Nat->Nat->Bool}(hk:k<n)(h:∀i j,i<j->j<n->lt i j=(H6 xss i j).isEmpty):nc xss k=lM lt k:=by
 unfold nc lM;refine fE _ λs j hj=>?_;have hj:j<k:=zero_add k▸(mem_range'_1.mp hj).2;rw[v0];have e:BG xss j k=(List.range' (j+1) (k+1-(j+1))).filter λm=>!lt j m:=by unfold BG;refine List.filter_congr λm hm=>?_;obtain⟨h1,h2⟩:=mem_range'_1.mp hm;rw[v0,h j m h1 (by lia)]
 rw[e]
theorem ma{p q:Nat->Bool}:∀{l:List Nat},(∀t∈l,p t=q t)->l.dropWhile p=l.dropWhile q
 |[],_=>rfl
 |x::l,h=>by rw[List.dropWhile_cons,List.dropWhile_cons,h x (.head _),ma λt ht=>h t (.tail _ ht)]
theorem pF{lt:Nat->Nat->Bool}:∀k,∀t∈fW lt k,t<=k
 |0,t,h=>le_of_eq (mem_singleton.mp h)
 |k+1,t,h=>by
  rcases mem_append.mp h with q|q
  ·exact le_succ_of_le (pF k t (mem_reverse.mp ((List.dropWhile_suffix _).subset (mem_reverse.mp q))))
  ·exact le_of_eq (mem_singleton.mp q)
theorem iy{lt lt':Nat->Nat->Bool}{n:Nat}(h:∀i j,i<j->j<n->lt i j=lt' i j):∀k,k<n->fW lt k=fW lt' k
 |0,_=>rfl
 |k+1,hk=>by refine(?_:oa lt (fW lt k) (k+1)=oa lt' (fW lt' k) (k+1));rw[<-iy h k (lt_of_succ_lt hk)];unfold oa;rw[ma λt ht=>by rw[h t (k+1) (lt_succ_of_le (pF k t (mem_reverse.mp ht))) hk]]
theorem eR:∀(l a:Nat) (H:List Nat),H.Pairwise (·<·)->(∀x∈H,a<=x/\x<a+l)->(List.range' a l).filter (λj=>H.contains j)=H
 |0,a,[],_,_=>rfl
 |0,a,x::H,_,h=>absurd (h x (.head _)) λq=>not_lt.mpr q.1 q.2
 |l+1,a,[],_,_=>List.filter_eq_nil_iff.mpr λ_ _ q=>nomatch q
 |l+1,a,x::H,hp,h=>by
  obtain⟨hx,hp'⟩:=List.pairwise_cons.mp hp;refine(?_:(a::List.range' (a+1) l).filter _=_);by_cases e:x=a
  ·subst e;rw[filter_cons_of_pos (contains_iff_mem.mpr (.head _))];have ih:=eR l (x+1) H hp' λy hy=>⟨hx y hy,by have:=(h y (.tail _ hy)).2;lia⟩;refine congrArg (x::·) (Eq.trans (List.filter_congr λj hj=>?_) ih);have hj:=(mem_range'_1.mp hj).1;rw[List.contains_cons,beq_eq_false_iff_ne.mpr (by(exact ne_of_gt (by assumption)):j≠x),Bool.false_or]
  ·have hlt:a<x:=Nat.lt_of_le_of_ne (h x (.head _)).1 (Ne.symm e);have ha:¬(x::H).contains a=true:=λq=>by
    rcases mem_cons.mp (contains_iff_mem.mp q)with r|r
    ·exact e r.symm
    ·exact Nat.lt_asymm hlt (hx a r)
   rw[List.filter_cons_of_neg ha];refine eR l (a+1) (x::H) hp λy hy=>⟨?_,by have:=(h y hy).2;lia⟩;rcases mem_cons.mp hy with r|r
   ·exact r▸hlt
   ·exact lt_trans hlt (hx y r)
theorem n3{p:Nat->Bool}{f:Nat->List Nat}:∀l:List Nat,((l.filter p).map f).flatten=(l.map λj=>cond (p j) (f j) []).flatten
 |[]=>rfl
 |x::l=>by
  rw[map_cons,flatten_cons,<-n3 l];cases e:p x with
  |true=>rw[filter_cons_of_pos e];rfl
  |false=>rw[List.filter_cons_of_neg (by rw[e];exact Bool.false_ne_true)];rfl
theorem mG{p:Nat->Bool}{f:Nat->Nat}:∀l:List Nat,((l.filter p).map f).sum=(l.map λj=>cond (p j) (f j) 0).sum
 |[]=>rfl
 |x::l=>by
  rw[map_cons,sum_cons,<-mG l];cases e:p x with
  |true=>rw[filter_cons_of_pos e];rfl
  |false=>rw[List.filter_cons_of_neg (by rw[e];exact Bool.false_ne_true)];exact(zero_add _).symm
noncomputable def tl(xs:List Nat):List Nat:=(av xs).drop 1
noncomputable def pX(xs:List Nat)(j:Nat):Bool:=(tl xs).contains j
theorem iB(R:RX xs):av xs=0::tl xs:=by
 obtain⟨k,hk⟩:=v9 xs;have hz:=R.z;unfold tl;unfold nX at hk;generalize av xs=H at hz hk;cases H with
 |nil=>cases hk
 |cons x H=>rw[show x=0 from hz];rfl
theorem zd(h:bh xs)(R:RX xs):tl xs=[1,2,3,4].filter (pX xs):=by have hp:=R.p;rw[iB R,List.pairwise_cons]at hp;refine(eR 4 1 (tl xs) hp.2 λx hx=>⟨hp.1 x hx,(po h R).h x ?_⟩).symm;rw[iB R];exact .tail _ hx
theorem tS:tl xs=(List.range' 1 (nX xs-1)).map (hX xs):=by
 refine List.ext_getElem? λi=>?_;unfold tl;rw[List.getElem?_drop,List.getElem?_map];by_cases hi:i<nX xs-1
 ·rw[List.getElem?_range' hi,one_mul];exact kA (by show 1+i<nX xs;lia)
 ·rw[List.getElem?_eq_none (by show nX xs<=1+i;lia),List.getElem?_eq_none (by rw[length_range'];lia)];rfl
noncomputable def kX(xs:List Nat)(j:Nat):Nat:=if wt xs j=1 then 0 else if(wd xs j).length=1 then 1 else 2
noncomputable def fX(xs:List Nat)(u j:Nat):Bool:=decide (65+j∈rM xs u)
theorem zI(xs:List Nat)(j:Nat):kX xs j<3:=by
 unfold kX;split
 ·decide
 ·split<;>decide
theorem Fs{j:Nat}:pV xs (rM xs u) j=kH (kX xs j) j (fX xs u j):=by
 unfold pV kX;have c1:((wt xs j:Int)=1)↔wt xs j=1:=Int.ofNat_inj (n:=1);have c2:(((wd xs j).length:Int)=1)↔(wd xs j).length=1:=Int.ofNat_inj (n:=1);rw[decide_eq_decide.mpr c1,decide_eq_decide.mpr c2];unfold fX;generalize decide (65+j∈rM xs u)=b;by_cases h1:wt xs j=1
 ·rw[if_pos h1,if_pos (decide_eq_true h1)];cases b<;>rfl
 ·rw[if_neg h1,if_neg λq=>h1 (of_decide_eq_true q)];by_cases h2:(wd xs j).length=1
  ·rw[if_pos h2,if_pos (decide_eq_true h2)];cases b<;>rfl
  ·rw[if_neg h2,if_neg λq=>h2 (of_decide_eq_true q)];cases b<;>rfl
theorem C9(h:bh xs){j:Nat}(h1:1<=j)(hj:j<5):wt xs j=1∨wt xs j=2:=by
 obtain⟨i,rfl⟩:∃i,j=i+1:=⟨j-1,(sub_add_cancel h1).symm⟩;have hl:i<xs.length:=h.1▸lt_of_succ_lt_succ hj;have e:wt xs (i+1)=1+xs[i]/60:=by refine(?_:(xs.map λx=>1+x/60).getD i 0=_);rw[List.getD_eq_getElem?_getD,List.getElem?_map,List.getElem?_eq_getElem hl];rfl
 have:=h.2 _ (getElem_mem hl);lia
theorem E4(h:bh xs){j:Nat}(h1:1<=j)(hj:j<5):wK (kX xs j)=wt xs j:=by
 unfold kX;rcases C9 h h1 hj with e|e<;>rw[e]
 ·rfl
 ·rw[if_neg (by decide)];split<;>rfl
noncomputable def HA(κ:Nat)(a b:Bool):Nat:=1+(κ*4+a.toNat*2+b.toNat)
noncomputable def ib(xs:List Nat)(u v j:Nat):Nat:=cond (pX xs j) (HA (kX xs j) (fX xs u j) (fX xs v j)) 0
theorem lO:∀κ,κ<3->∀a b:Bool,HA κ a b<13/\wC (HA κ a b)=wK κ/\dC (HA κ a b)=cond (a==b) 0 (wK κ):=by decide+kernel
theorem yJ{κ:Nat}(h:κ<3)(a b:Bool)(j:Nat):uK (HA κ a b) j=kH κ j a/\vK (HA κ a b) j=kH κ j b:=by rcases(by decide:∀κ,κ<3->κ=0∨κ=1∨κ=2) κ h with rfl|rfl|rfl<;>cases a<;>cases b<;>exact⟨rfl,rfl⟩
theorem jB{v j:Nat}:ib xs u v j<13:=by
 unfold ib;cases pX xs j
 ·exact(by decide:0<13)
 ·exact(lO _ (zI xs j) _ _).1
theorem CC{v j:Nat}:wC (ib xs u v j)=cond (pX xs j) (wK (kX xs j)) 0:=by
 unfold ib;cases pX xs j
 ·rfl
 ·exact(lO _ (zI xs j) _ _).2.1
theorem DB{v j:Nat}:dC (ib xs u v j)=cond (pX xs j) (cond (fX xs u j==fX xs v j) 0 (wK (kX xs j))) 0:=by
 unfold ib;cases pX xs j
 ·rfl
 ·exact(lO _ (zI xs j) _ _).2.2
theorem Cq{v j:Nat}:cond (pX xs j) (kH (kX xs j) j (fX xs u j)) []=uK (ib xs u v j) j:=by
 unfold ib;cases pX xs j
 ·rfl
 ·exact(yJ (zI xs j) _ _ j).1.symm
theorem DO{v j:Nat}:cond (pX xs j) (kH (kX xs j) j (fX xs v j)) []=vK (ib xs u v j) j:=by
 unfold ib;cases pX xs j
 ·rfl
 ·exact(yJ (zI xs j) _ _ j).2.symm
noncomputable def dk(xs:List Nat)(u:Nat):List Nat:=wn xs (rM xs u)
theorem nH{f:Nat->List Nat}:∀(l s:List Nat),l.foldl (λw j=>w++f j) s=s++(l.map f).flatten
 |[],s=>(append_nil s).symm
 |x::l,s=>by refine(?_:l.foldl _ (s++f x)=_);rw[nH l,List.append_assoc];rfl
theorem wj(h:bh xs)(R:RX xs)(u:Nat):dk xs u=cond (pX xs 1) (kH (kX xs 1) 1 (fX xs u 1)) []++(cond (pX xs 2) (kH (kX xs 2) 2 (fX xs u 2)) []++(cond (pX xs 3) (kH (kX xs 3) 3 (fX xs u 3)) []++cond (pX xs 4) (kH (kX xs 4) 4 (fX xs u 4)) [])):=by
 have e:dk xs u=(([1,2,3,4].filter (pX xs)).map λj=>kH (kX xs j) j (fX xs u j)).flatten:=by rw[<-zd h R];refine(?_:(tl xs).foldl (λw j=>w++pV xs (rM xs u) j) []=_);rw[nH,List.nil_append];exact congrArg List.flatten (map_congr_left λj _=>Fs)
 rw[e,n3];refine(?_:_++(_++(_++(_++[])))=_);rw[append_nil]
theorem HN(f:Nat->Nat):([1,2,3,4].map f).sum=f 1+(f 2+(f 3+f 4)):=rfl
noncomputable def eX(xs:List Nat)(u v:Nat):Nat:=((tl xs).map λj=>cond (fX xs u j==fX xs v j) 0 (wK (kX xs j))).sum
noncomputable def wX(xs:List Nat):Nat:=((tl xs).map λj=>wK (kX xs j)).sum
theorem IS(h:bh xs)(R:RX xs)(u v:Nat):eX xs u v=dC (ib xs u v 1)+(dC (ib xs u v 2)+(dC (ib xs u v 3)+dC (ib xs u v 4))):=by unfold eX;rw[zd h R,mG,HN,DB,DB,DB,DB]
theorem w_eq(h:bh xs)(R:RX xs)(u v:Nat):wX xs=wC (ib xs u v 1)+(wC (ib xs u v 2)+(wC (ib xs u v 3)+wC (ib xs u v 4))):=by unfold wX;rw[zd h R,mG,HN,CC,CC,CC,CC]
theorem BE(xs:List Nat)(u v:Nat):eX xs u v=eX xs v u:=by unfold eX;exact congrArg List.sum (map_congr_left λj _=>by rw[show(fX xs u j==fX xs v j)=(fX xs v j==fX xs u j)from Bool.beq_comm])
theorem Ii(xs:List Nat)(u v:Nat):eX xs u v<=wX xs:=by
 unfold eX wX;generalize tl xs=l;induction l with
 |nil=>exact le_refl _
 |cons j l ih=>
  rw[map_cons,map_cons,sum_cons,sum_cons];refine add_le_add ?_ ih;cases fX xs u j==fX xs v j
  ·exact le_refl _
  ·exact zero_le _
theorem GU:∀c,c<13->∀j,j<5->1<=j->((uK c j).all wZ.contains&&Nat.ble (uK c j).length 2)=true:=by decide+kernel
theorem d0:∀c,c<13->dC c=0->∀j,j<5->uK c j=vK c j:=by decide+kernel
theorem q7:∀l:List Nat,FQ l l=true
 |[]=>rfl
 |x::l=>by refine(?_:cond (Nat.beq x x) (FQ l l) false=true);rw[show Nat.beq x x=true from Nat.beq_refl x];exact q7 l
theorem mM{a b:List Nat}(h:dR a)(h':dR b):dR (a++b):=λc hc=>(mem_append.mp hc).elim (h c) (h' c)
theorem ux(h:bh xs)(R:RX xs)(u v:Nat):dk xs u=uK (ib xs u v 1) 1++(uK (ib xs u v 2) 2++(uK (ib xs u v 3) 3++uK (ib xs u v 4) 4)):=by rw[wj h R,Cq (v:=v),Cq (v:=v),Cq (v:=v),Cq (v:=v)]
theorem AW(h:bh xs)(R:RX xs)(u v:Nat):dk xs v=vK (ib xs u v 1) 1++(vK (ib xs u v 2) 2++(vK (ib xs u v 3) 3++vK (ib xs u v 4) 4)):=by rw[wj h R,DO (u:=u),DO (u:=u),DO (u:=u),DO (u:=u)]
theorem pG(h:bh xs)(R:RX xs)(u:Nat):dR (dk xs u)/\(dk xs u).length<=8:=by
 rw[ux h R u u];have A:∀j,j<5->1<=j->dR (uK (ib xs u u j) j)/\(uK (ib xs u u j) j).length<=2:=λj hj h1=>by have q:=and_eq_true_iff.mp (GU _ (jB (xs:=xs) (u:=u) (v:=u) (j:=j)) j hj h1);exact⟨λc hc=>contains_iff_mem.mp (all_eq_true.mp q.1 c hc),le_of_ble_eq_true q.2⟩
 obtain⟨a1,l1⟩:=A 1 (by decide) (by decide);obtain⟨a2,l2⟩:=A 2 (by decide) (by decide);obtain⟨a3,l3⟩:=A 3 (by decide) (by decide);obtain⟨a4,l4⟩:=A 4 (by decide) (by decide);refine⟨mM a1 (mM a2 (mM a3 a4)),?_⟩;rw[List.length_append,List.length_append,List.length_append];exact add_le_add l1 (add_le_add l2 (add_le_add l3 l4))
theorem An(l:List Nat)(mx:Int):dJ l l mx=0:=if_pos rfl
theorem Bi{b d e:Nat}{x y:List Nat}(h:hZ a b c d=true)(hx:x=uK a 1++(uK b 2++(uK c 3++uK d 4)))(hy:y=vK a 1++(vK b 2++(vK c 3++vK d 4)))(he:e=dC a+(dC b+(dC c+dC d)))(hw:w=wC a+(wC b+(wC c+wC d)))(h0:e≠0):x≠y/\Bc x y w=e:=by
 have h:cond (Nat.beq e 0) true (cond (FQ x y) false (Nat.beq (Bc x y w) e))=true:=by rw[hx,hy,he,hw];exact h
 rw[show Nat.beq e 0=false from eq_false_iff.mpr λq=>h0 (Nat.eq_of_beq_eq_true q)]at h;have h:cond (FQ x y) false (Nat.beq (Bc x y w) e)=true:=h;cases q:FQ x y with
 |true=>rw[q]at h;cases h
 |false=>rw[q]at h;exact⟨(λe'=>by rw[e',q7]at q;cases q),Nat.eq_of_beq_eq_true h⟩
theorem qD(h:bh xs)(R:RX xs)(u v:Nat):dJ (dk xs u) (dk xs v) (wX xs:Nat)=(eX xs u v:Nat):=by
 by_cases h0:eX xs u v=0
 ·have e:=IS h R u v;rw[h0]at e;have e1:dC (ib xs u v 1)=0:=by lia
  have e2:dC (ib xs u v 2)=0:=by lia
  have e3:dC (ib xs u v 3)=0:=by lia
  have e4:dC (ib xs u v 4)=0:=by lia
  have:dk xs u=dk xs v:=by rw[ux h R u v,AW h R u v,d0 _ jB e1 1 (by decide),d0 _ jB e2 2 (by decide),d0 _ jB e3 3 (by decide),d0 _ jB e4 4 (by decide)]
  rw[this,An,h0];rfl
 ·obtain⟨n1,n2⟩:=Bi (Jy _ _ _ _ jB jB jB jB) (ux h R u v) (AW h R u v) (IS h R u v) (w_eq h R u v) h0;rw[FI (pG h R u).1 (pG h R v).1 n1,n2]
theorem BB(h:bh xs)(R:RX xs)(u v:Nat):dJ (dk xs v) (dk xs u) ((eX xs u v:Nat)-1)=(eX xs u v:Nat):=by
 have e:=qD h R v u;rw[BE xs v u]at e;have hle:dJ (dk xs v) (dk xs u) (wX xs:Nat)<=(wX xs:Nat):=by rw[e];exact ofNat_le.mpr (Ii xs u v)
 rcases Du (mx:=(eX xs u v:Nat)-1) hle with q|q
 ·rw[q,e]
 ·rw[q];exact Int.sub_add_cancel _ _
theorem AA{α β γ:Type}(f:β->γ)(g:α->β)(x:α):(f∘g) x=f (g x):=rfl
theorem Jm(xs:List Nat):wt xs 0=0:=rfl
theorem EN(h:bh xs)(R:RX xs)(hu:u<nX xs)(hi:i<nX xs):fX xs u (hX xs i)=BP (yh xs) u i:=by
 unfold fX BP;have key:65+hX xs i∈rM xs u↔i∈fW (yh xs) u:=by
  unfold rM be;rw[map_map];constructor
  ·intro q;obtain⟨l,hl,hc⟩:=List.mem_flatten.mp q;obtain⟨t,ht,rfl⟩:=mem_map.mp hl;have tn:t<nX xs:=lt_of_le_of_lt (pF u t ht) hu;dsimp only[Function.comp,Ao]at hc;rcases mem_append.mp hc with r|r
   ·have:=(km h (l6 R tn)).w _ r;lia
   ·have e:hX xs i=hX xs t:=Nat.add_left_cancel (mem_singleton.mp r);have e:i=t:=by
     rcases Nat.lt_trichotomy i t with q|q|q
     ·exact absurd e (ne_of_lt (tQ R q tn))
     ·exact q
     ·exact absurd e.symm (ne_of_lt (tQ R q hi))
    exact e▸ht
  ·intro q;exact List.mem_flatten.mpr ⟨_,mem_map.mpr ⟨i,q,rfl⟩,mem_append_right _ (.head _)⟩
 by_cases q:i∈fW (yh xs) u
 ·rw[decide_eq_true (key.mpr q),contains_iff_mem.mpr q]
 ·rw[decide_eq_false λr=>q (key.mp r),eq_false_iff.mpr λr=>q (contains_iff_mem.mp r)]
structure BX(xs:List Nat)(m w:Nat):Prop where
 lt:∀i j,i<j->j<nX xs->yh xs i j=mR m i j
 w:∀i,1<=i->i<nX xs->wt xs (hX xs i)=wM w i
theorem hU(h:k∈List.range' 1 (n-1)):1<=k/\k<n:=by have:=mem_range'_1.mp h;omega
theorem yS(h:bh xs)(R:RX xs){m:Nat}(B:BX xs m w){v:Nat}(hu:u<nX xs)(hv:v<nX xs):eX xs u v=vk (mR m) (wM w) (nX xs) u v:=by
 unfold eX vk;rw[tS,map_map];refine congrArg List.sum (map_congr_left λi hi=>?_);obtain⟨h1,hn⟩:=hU hi;refine(?_:cond (fX xs u (hX xs i)==fX xs v (hX xs i)) 0 (wK (kX xs (hX xs i)))=_);have e1:BP (mR m) u i=BP (yh xs) u i:=by unfold BP;rw[iy B.lt u hu]
 have e2:BP (mR m) v i=BP (yh xs) v i:=by unfold BP;rw[iy B.lt v hv]
 rw[EN h R hu hn,EN h R hv hn,E4 h (rj R h1 hn) (l6 R hn),B.w i h1 hn,e1,e2]
theorem H8(h:bh xs)(R:RX xs){m:Nat}(B:BX xs m w):wX xs=F7 (wM w) (nX xs):=by unfold wX F7;rw[tS,map_map];refine congrArg List.sum (map_congr_left λi hi=>?_);obtain⟨h1,hn⟩:=hU hi;rw[AA,E4 h (rj R h1 hn) (l6 R hn),B.w i h1 hn]
theorem r9:∀l:List Nat,(l.map λx=>((x:Nat):Int)).sum=(l.sum:Nat)
 |[]=>rfl
 |x::l=>by rw[map_cons,sum_cons,sum_cons,r9 l];rfl
theorem vM(R:RX xs){m:Nat}(B:BX xs m w):Dj xs=De (wM w) (nX xs):=by unfold Dj De;rw[iB R,tS,map_cons,map_map,Jm];refine congrArg (((0:Nat):Int)::·) (map_congr_left λi hi=>?_);obtain⟨h1,hn⟩:=hU hi;exact congrArg (λx:Nat=>(x:Int)) (B.w i h1 hn)
theorem zL(R:RX xs){m:Nat}(B:BX xs m w):yg xs=(F7 (wM w) (nX xs):Nat):=by unfold yg F7;rw[vM R B,De,sum_cons,Int.zero_add,<-r9,map_map];rfl
theorem i9(xs:List Nat):(c8 xs).length=nX xs:=length_map _
theorem oE{j:Nat}(hj:j<nX xs):(c8 xs).getD j []=jI (lX xs j):=by have e:=kA (l:=av xs) (d:=0) hj;unfold c8;rw[List.getD_eq_getElem?_getD,List.getElem?_map,e];rfl
theorem Ce{j:Nat}(hi:i<nX xs)(hj:j<nX xs):H6 (c8 xs) i j=Cs (lX xs i) (lX xs j):=by unfold H6 Cs gy;rw[oE hi,oE hj]
theorem i6(h:bh xs)(R:RX xs){m:Nat}(B:BX xs m w)(hk:k<nX xs):nc (c8 xs) k=lM (mR m) k:=Hr hk λi j hij hj=>by rw[<-B.lt i j hij hj,oZ h R (lt_trans hij hj) (lt_of_le_of_lt (zero_le _) hij) hj,Ce (lt_trans hij hj) hj]
theorem lZ(h:bh xs)(R:RX xs){m:Nat}(B:BX xs m w):gz (c8 xs)=nN (mR m) (nX xs):=by unfold gz nN;rw[i9];refine fE _ λs k hk=>?_;unfold qN;rw[i6 h R B (hU hk).2]
theorem qk(lt:Nat->Nat->Bool)(n:Nat):nN lt n= -1::(List.range' 1 (n-1)).map λk=>((dv (lM lt k):Nat):Int):=by unfold nN;rw[mo];rfl
theorem qz(lt:Nat->Nat->Bool)(h:1<=n):(nN lt n).length=n:=by rw[qk,length_cons,length_map,length_range'];exact sub_add_cancel h
theorem Hf(h:bh xs)(R:RX xs){m:Nat}(B:BX xs m w)(hn:1<=nX xs):pY xs=D8 (mR m) (wM w) (nX xs):=by
 unfold pY D8 mN;rw[lZ h R B,vM R B,zL R B,qz _ hn];refine fE _ λs k hk=>?_;have e:Fm xs k=dv (lM (mR m) k):=by unfold Fm;rw[i6 h R B (hU hk).2]
 unfold uR;rw[e]
theorem vY(h:bh xs)(R:RX xs):zx xs=(List.range (nX xs)).map (dk xs):=by unfold zx;rw[mo,List.nil_append,uW h R,map_map];unfold dk;exact map_congr_left λ_ _=>AA ..
theorem uI(h:bh xs)(R:RX xs)(hu:u<nX xs):(zx xs).getD u []=dk xs u:=by rw[vY h R,List.getD_eq_getElem?_getD,List.getElem?_map,List.getElem?_range hu,Option.map_some,Option.getD_some]
theorem l0{α:Type}{f:α->Nat->α}{n:Nat}{I:Nat->α->Prop}{s:α}(h0:I 0 s)(h:∀k,k<n->∀s,I k s->I (k+1) (f s k)):∀k,k<=n->I k ((List.range' 0 k).foldl f s)
 |0,_=>h0
 |k+1,hk=>by rw[List.range'_1_concat,foldl_append,zero_add];exact h k hk _ (l0 h0 h k (Nat.le_of_succ_le hk))
theorem sX(hM:jL n M){j b:Nat}(hi:i<n)(hj:j<n){x:Int}:gy (putAt M i j x) a b=if a=i/\b=j then x else gy M a b:=by
 obtain⟨r,e1,e2,e3⟩:=hM.row hi;unfold gy putAt;rw[e2,List.getD_eq_getElem?_getD (l:=M.set i (r.set j x)),List.getElem?_set];by_cases ea:i=a
 ·subst ea;rw[if_pos rfl,if_pos (hM.1▸hi)];refine(?_:(r.set j x).getD b 0=_);rw[List.getD_eq_getElem?_getD,List.getElem?_set];by_cases eb:j=b
  ·subst eb;rw[if_pos rfl,if_pos (e3▸hj),if_pos ⟨rfl,rfl⟩];rfl
  ·rw[if_neg eb,if_neg λq=>eb q.2.symm,e2,List.getD_eq_getElem?_getD]
 ·rw[if_neg ea,if_neg λq=>ea q.1.symm,List.getD_eq_getElem?_getD (l:=M)]
theorem FS{D:Nat->Nat->Int}(hD:∀u v,D u v=D v u) (h1:∀u v,u<ls.length->v<ls.length->dJ (ls.getD u []) (ls.getD v []) whole=D u v) (h2:∀u v,u<ls.length->v<ls.length->dJ (ls.getD v []) (ls.getD u []) (D u v-1)=D u v):jL ls.length (Bu ls whole)/\∀i j,i<ls.length->j<ls.length->gy (Bu ls whole) i j=D i j:=by
 have step:∀u v M,u<ls.length->v<ls.length->jL ls.length M->ui ls whole u M v=putAt (putAt M u v (D u v)) v u (D u v):=λu v M hu hv hM=>by
  have p:∀x,gy (putAt M u v x) u v=x:=λx=>by rw[sX hM hu hv,if_pos ⟨rfl,rfl⟩]
  unfold ui sF;dsimp only;rw[p];by_cases e:(u+v)%2=0
  ·rw[if_pos e,if_pos e,h1 u v hu hv,h2 u v hu hv]
  ·rw[if_neg e,if_neg e,h1 v u hv hu,hD v u,hD u v,h2 v u hv hu,hD v u]
 have I0:jL ls.length (ls.map λ_=>List.replicate ls.length 0):=⟨length_map _,λr hr=>by obtain⟨l,_,rfl⟩:=mem_map.mp hr;exact List.length_replicate⟩;have out:=l0 (n:=ls.length) (f:=λM u=>(List.range' 0 (u+1)).foldl (ui ls whole u) M) (s:=ls.map λ_=>List.replicate ls.length 0) (I:=λu M=>jL ls.length M/\∀i j,i<u->j<u->i<ls.length->j<ls.length->gy M i j=D i j) ⟨I0,λi j hi=>absurd hi (not_lt_zero _)⟩ (λu hu M IM=>by
   have inn:=l0 (n:=u+1) (f:=ui ls whole u) (s:=M) (I:=λv M=>jL ls.length M/\∀i j,(i<u/\j<u)∨(i=u/\j<v)∨(j=u/\i<v)->i<ls.length->j<ls.length->gy M i j=D i j) ⟨IM.1,λi j hij hi hj=>by
     rcases hij with q|q|q
     ·exact IM.2 i j q.1 q.2 hi hj
     ·exact absurd q.2 (not_lt_zero _)
     ·exact absurd q.2 (not_lt_zero _)⟩
    (λv hv M' I'=>by
     have hv':v<ls.length:=lt_of_le_of_lt (le_of_lt_succ hv) hu;rw[step u v M' hu hv' I'.1];have s1:=I'.1.put (j:=v) hu (D u v);refine⟨s1.put hv' _,λi j hij hi hj=>?_⟩;rw[sX s1 hv' hu,sX I'.1 hu hv'];by_cases a:i=v/\j=u
     ·rw[if_pos a,a.1,a.2];exact hD u v
     ·rw[if_neg a];by_cases b:i=u/\j=v
      ·rw[if_pos b,b.1,b.2]
      ·rw[if_neg b];refine I'.2 i j ?_ hi hj;rcases hij with q|q|q
       ·exact .inl q
       ·exact .inr (.inl ⟨q.1,Nat.lt_of_le_of_ne (le_of_lt_succ q.2) λr=>b ⟨q.1,r⟩⟩)
       ·exact .inr (.inr ⟨q.1,Nat.lt_of_le_of_ne (le_of_lt_succ q.2) λr=>a ⟨r,q.1⟩⟩)) (u+1) (le_refl _)
   refine⟨inn.1,λi j hi hj hil hjl=>inn.2 i j ?_ hil hjl⟩;rcases Nat.lt_or_eq_of_le (le_of_lt_succ hi)with a|a
   ·rcases Nat.lt_or_eq_of_le (le_of_lt_succ hj)with b|b
    ·exact .inl ⟨a,b⟩
    ·exact .inr (.inr ⟨b,hi⟩)
   ·exact .inr (.inl ⟨a,hj⟩)) ls.length (le_refl _)
 exact⟨out.1,λi j hi hj=>out.2 i j hi hj hi hj⟩
theorem IH(h:bh xs)(R:RX xs){m:Nat}(B:BX xs m w):jL (nX xs) (pE xs)/\∀u v,u<nX xs->v<nX xs->gy (pE xs) u v=(vk (mR m) (wM w) (nX xs) u v:Nat):=by
 have hl:(zx xs).length=nX xs:=by rw[vY h R,length_map,length_range]
 have hw:yg xs=(wX xs:Nat):=by rw[zL R B,H8 h R B]
 have T:=FS (ls:=zx xs) (whole:=yg xs) (D:=λu v=>(eX xs u v:Nat)) (λu v=>congrArg (λx:Nat=>(x:Int)) (BE xs u v)) (λu v hu hv=>by rw[uI h R (hl▸hu),uI h R (hl▸hv),hw];exact qD h R u v) (λu v hu hv=>by rw[uI h R (hl▸hv),uI h R (hl▸hu)];exact BB h R u v);rw[hl]at T;refine⟨T.1,λu v hu hv=>?_⟩;rw[<-yS h R B hu hv];exact T.2 u v hu hv
theorem Gr{hs ws:List Int}{jf:Nat->Nat}{wh:Int}(hl:hs.length=n)(hj:∀k,1<=k->k<n->jf k<n):jL n (mN hs jf ws wh):=by
 have go:∀(l:List Nat) (M:List (List Int)),(∀k∈l,1<=k/\k<n)->jL n M->jL n (l.foldl (uR jf (Hv ws wh)) M):=λl=>by
  induction l with
  |nil=>exact λM _ h=>h
  |cons k l ih=>intro M hm h;obtain⟨h1,hk⟩:=hm k (.head _);have hj:=hj k h1 hk;exact ih _ (λa ha=>hm a (.tail _ ha)) ((((h.put hk _).put hj _).put hk _).put hj _)
 unfold mN;rw[hl];refine go _ _ (λk hk=>hU hk) ⟨by rw[lG,length_map,length_range',hl],λr hr=>?_⟩;obtain⟨u,_,rfl⟩:=mem_map.mp hr;rw[length_map,length_range',hl]
theorem IY(h:bh xs)(R:RX xs):∃m w,BX xs m w/\eC (nX xs) m w=true/\HP (mR m)=false:=by obtain⟨m,hm,hlt,htr⟩:=Ez (zR R) (λj h1 hj=>C8 h R h1 hj) (λi j k a b c=>xG h R a b c);obtain⟨w,hw,hb⟩:=IX λi=>decide (wt xs (hX xs i)=2);obtain⟨k,hk⟩:=v9 xs;refine⟨m,w,⟨hlt,λi h1 hi=>?_⟩,DM (hk▸succ_le_succ (zero_le _)) (zR R) hm hw,htr⟩;rw[hb i h1 (lt_of_lt_of_le hi (zR R))];rcases C9 h (rj R h1 hi) (l6 R hi)with e|e<;>rw[e]<;>rfl
theorem D0(h:bh xs)(R:RX xs):PD xs:=by
 obtain⟨m,w,B,hc,ht⟩:=IY h R;obtain⟨n',hn'⟩:=v9 xs;have hn:1<=nX xs:=hn'▸succ_le_succ (zero_le _);have n5:=zR R;unfold eC at hc;rw[ht,Bool.false_or]at hc;obtain⟨c1,c2⟩:=and_eq_true_iff.mp hc;have A:=λu (hu:u<nX xs) v (hv:v<nX xs)=>and_eq_true_iff.mp (all_eq_true.mp (all_eq_true.mp c1 u (mem_range.mpr hu)) v (mem_range.mpr hv));have C:=λk (h1:1<=k) (hk:k<nX xs)=>and_eq_true_iff.mp (all_eq_true.mp c2 k (mem_range'_1.mpr ⟨h1,by lia⟩));obtain⟨t1,t2⟩:=IH h R B;have et:=Hf h R B hn;have ej:∀k,k<nX xs->Fm xs k=dv (lM (mR m) k):=λk hk=>by unfold Fm;rw[i6 h R B hk]
 have jn:∀k,1<=k->k<nX xs->dv (lM (mR m) k)<nX xs:=λk h1 hk=>lt_trans (le_of_ble_eq_true (C k h1 hk).2) hk;have hp:=po h R;have hh:=qz (mR m) hn;refine⟨⟨Nat.le_trans n5 (by decide),hp.h⟩,λk hk=>Nat.le_trans (km h hk).l (by decide),⟨by rw[vY h R,length_map,length_range];rfl,λwd hwd=>?_⟩,λj hj=>?_,λk h1 hk=>?_,?_,λk h1 hk=>?_,λk h1 hk=>?_,λj hj=>?_,⟨t1,?_⟩,λu k hu hk=>?_,λu v hu hv=>?_⟩
 ·rw[vY h R]at hwd;obtain⟨u,_,rfl⟩:=mem_map.mp hwd;obtain⟨a,l⟩:=pG h R u;exact⟨zY a,lt_of_le_of_lt l (by decide)⟩
 ·rw[i9]at hj;have e:=kA (d:=([]:List Int)) (show j<(c8 xs).length by rw[i9];exact hj);exact⟨_,e,by rw[oE hj];rfl⟩
 ·rw[i9]at hk;rw[i6 h R B hk];have:=(C k h1 hk).1;intro q;rw[q]at this;cases this
 ·rw[lZ h R B];exact hh
 ·have hk:k<nX xs:=hk;refine⟨?_,ej k hk▸jn k h1 hk⟩;rw[lZ h R B,qk,ej k hk];obtain⟨i,rfl⟩:∃i,k=i+1:=⟨k-1,(sub_add_cancel h1).symm⟩;rw[List.getElem?_cons_succ,List.getElem?_map,List.getElem?_range' (by lia),one_mul,add_comm 1 i];rfl
 ·have hk:k<nX xs:=hk;refine⟨(wt xs (hX xs k):Nat),?_,?_⟩
  ·have e:=kA (l:=av xs) (d:=0) hk;unfold Dj;rw[List.getElem?_map,e];rfl
  ·rcases C9 h (rj R h1 hk) (l6 R hk)with e|e<;>rw[e]
   ·exact .inl rfl
   ·exact .inr rfl
 ·rcases j with _|j
  ·rw[Jm];exact zero_le 2
  ·rcases C9 h (j:=j+1) (succ_le_succ (zero_le _)) hj with e|e<;>rw[e]
   ·exact(by decide:1<=2)
   ·exact le_refl 2
 ·rw[et];exact Gr hh jn
 ·have hu:u<nX xs:=hu;have hk:k<nX xs:=hk;rw[t2 u k hu hk,et];refine⟨?_,Nat.le_trans (of_decide_eq_true (A u hu k hk).2) (by decide)⟩;have:=yS h R B hu hk▸Ii xs u k;have w8:wX xs<=100000:=by
   rw[H8 h R B];unfold F7;have:=oH (B:=2) ((List.range' 1 (nX xs-1)).map (wM w)) λx hx=>by obtain⟨i,_,rfl⟩:=mem_map.mp hx;unfold wM;cases w.testBit (i-1)<;>decide
   rw[length_map,length_range']at this;lia
  rw[Int.natAbs_natCast];exact Nat.le_trans this w8
 ·have hu:u<nX xs:=hu;have hv:v<nX xs:=hv;unfold Fo;have:=of_decide_eq_true (A u hu v hv).1;rw[zL R B,<-this,et];refine congrArg List.sum (map_congr_left λk hk=>?_);rw[t2 u k hu (zero_add (nX xs)▸(mem_range'_1.mp hk).2)]
theorem xn(h:bh xs):PA xs/\PB xs/\PC xs/\PD xs:=⟨DK h (iW h),CO h (iW h),po h (iW h),D0 h (iW h)⟩
section Zax
open PySem.W PyProof.Rows
theorem Ij:T2.fn 308=some Ie:=by kernel_rfl
theorem Bo(a:Addr)(ha:∃o,h.get? a=some o):∃n₀,(∀b o,h.get? b=some o->b<n₀)/\∃b o,h.get? b=some o/\n₀<=b+1:=by
 have key:∀N,(∀b o,h.get? b=some o->b<N)->∃n₀,(∀b o,h.get? b=some o->b<n₀)/\∃b o,h.get? b=some o/\n₀<=b+1:=by
  intro N;induction N with
  |zero=>intro k;obtain⟨o,e⟩:=ha;exact absurd (k a o e) (not_lt_zero _)
  |succ N ih=>
   intro k;cases e:h.get? N with
   |some o=>exact⟨N+1,k,N,o,e,le_refl _⟩
   |none=>exact ih λb o eb=>Nat.lt_of_le_of_ne (le_of_lt_succ (k b o eb)) λq=>by rw[q,e]at eb;cases eb
 exact key _ λb o e=>lt_size e
noncomputable def iE:List (Addr×Addr):=[(158,154),(165,161)]
theorem vZ{K:Frag}(hK:K.In h){c P:Addr}{o:Obj}{vs:Array Value}(e:K.lookup c=some o)(hc:o.cls=.type "code")(hd:o.data=.fields vs)(h11:vs[11]?=some (.ref P)){file:Str}{tf:Tok}(h18:vs.getD 18 .none=.str file tf){flags:Int}{tg:Tok}(h7:vs.getD 7 .none=.int flags tg) {inF:Bool}(h9:vs.getD 9 .none=.bool inF){text:Int}{tt:Tok}(h10:vs.getD 10 .none=.int text tt)(hP:h.get? P=some A9)(ne:c≠P):h.IsCode c P #[]/\h.TableAt c P #[]:=by
 refine⟨⟨o,vs,file,tf,flags,tg,inF,text,tt,A9,hK _ _ e,hd,?_,h18,h7,h9,h10,hP,rfl,?_,ne⟩,⟨o,vs,hK _ _ e,hc,hd,h11⟩,hP⟩
 ·rw[Array.getD_eq_getD_getElem?,h11];rfl
 ·trivial
theorem Gg{α:Type}(l:List α)(k:Nat):c9 l none (some (k:Int))=l.take (min k l.length):=by unfold c9;rw[ft];rfl
theorem yA{α:Type}(l:List α)(k:Nat):c9 l (some (k:Int)) none=(l.drop (min k l.length)).take (l.length-min k l.length):=by unfold c9;rw[ft];rfl
theorem Kz(xs ys:List Int)(hy:ys.length=4):(c9 (xs++c9 ys (some xs.length) none) none (some 4)).length=4:=by
 have e:c9 (xs++c9 ys (some xs.length) none) none (some 4)=_:=Gg (xs++c9 ys (some xs.length) none) 4;have h:4<=(xs++c9 ys (some (xs.length:Int)) none).length:=by
  rw[yA,List.length_append,length_take,length_drop,hy,Nat.min_self];rcases le_total xs.length 4 with q|q
  ·rw[min_eq_left q,Nat.add_sub_cancel' q];exact le_refl _
  ·exact Nat.le_trans q (le_add_right ..)
 rw[e,min_eq_left h,length_take,min_eq_left h]
noncomputable def BF(l:List Int):List Nat:=l.map λx=>(Int.fmod x 120).toNat
theorem Aj(x:Int):((Int.fmod x 120).toNat:Int)=Int.fmod x 120/\(Int.fmod x 120).toNat<120:=by have h1:=Int.fmod_nonneg_of_pos x (b:=120) (by decide);have h2:=Int.fmod_lt_of_pos x (b:=120) (by decide);exact⟨Int.toNat_of_nonneg h1,(Int.toNat_lt h1).mpr h2⟩
theorem yP{l:List Int}(h:l.length=4):bh (BF l):=⟨by rw[BF,length_map];exact h,λx hx=>by obtain⟨y,_,rfl⟩:=mem_map.mp hx;exact(Aj y).2⟩
theorem z6(l:List Int):(l.map λx=>PV.int (Int.fmod x 120))=aq (BF l):=by unfold aq BF;rw[map_map];exact map_congr_left λx _=>congrArg PV.int (Aj x).1.symm
theorem CR{r:Nat}{l:List Int}(hl:l.length<4000)(e:V[r]?=some (.list (l.map .int))):Wp (lB (al T2 (n+4)) uV m "x" o0 [] (.ref r)) V λv V'=>dp (λ_=>True) V' v (.lst (aq (BF l))):=by
 refine(qH (F:=False) (l:=[]) (l':=[]) (f:=λx:Int=>.sc (.int (Int.fmod x 120))) (q:=λ_=>true) (cO (g:=PV.int) (xs:=l)) rfl hl rfl (λh=>h.elim) (λ_ _=>lW) (λx _ _ A V m c=>?_) (Cx.nil λ_ _=>trivial) ⟨r,rfl,trivial,e⟩).mono λv V' h=>?_
 ·unfold o0;exact(aA (aa rfl rfl) an (du rfl) A V m c).mono λ_ _ h=>⟨h,λh=>h.elim⟩
 ·obtain⟨k,ρ,ws,rfl,hρ,e,r,_⟩:=h;rw[eY]at r;exact⟨ρ,rfl,trivial,by rw[<-z6,<-oy r];exact e⟩
theorem A7(h:bh xs)(c:Cx (λ_=>True) V m [("numbers",.lst (aq xs))]):∃m' V',(al T2 300).ss hW m (iq.drop 1) V=some ((.ret (.bool true),m'),V'):=by obtain⟨pa,pb,pc,pd⟩:=xn h;obtain⟨⟨f,m'⟩,V',e,hf⟩:=J3 (n:=200) (S:=λfm _=>fm.1=.ret (.bool true)) h c λm V c=>Ju h pa c λA m V c=>KM h pb c λm V c=>KC h pc c λm V c=>Kv h pd c λm' V'=>rfl;exact⟨m',V',by rw[e,show f=_ from hf]⟩
end Zax
section Zbx
open PySem.W PyProof.Rows
theorem ED{w:World}{s:Shared}{L:Addr}{vs:List Value}{xs:List Int}(hK:(K2 w.params).In s.heap)(hB:iD s.heap)(ht:∀c∈zm,s.heap.get? c=some A9)(hg:s.gens= #[])(hL:s.heap.IsList L vs.toArray)(hI:IntsAre vs xs)(hlen:xs.length<=63) {E:Value->Shared->Prop}{Q:Value->Shared->Prop}(q:∀s',OldK s.heap s'.heap->s'.os=s.os->AllBare s'.gens->Q (.bool true) s'):wpAny (model cq w) callerA (call (.ref 308) [.ref L]) Q E s:=by
 obtain⟨n₀,hlow,hlast⟩:=Bo (h:=s.heap) 308 ⟨_,hK 308 _ rfl⟩;have hbn:builtinsNs<n₀:=by obtain⟨o,_,e,_⟩:=hB;exact hlow _ _ e
 have X:eU (K2 w.params) aR n₀:=Kf _ (λa o e=>hlow a o (hK a o e)) hbn;have cds:∀cp∈iE,∃ps,cp.1<n₀/\cp.2<n₀/\s.heap.IsCode cp.1 cp.2 ps/\s.heap.TableAt cp.1 cp.2 ps:=by
  intro cp h;have t1:=ht 154 (by decide);have t2:=ht 161 (by decide);simp only[iE,mem_cons,not_mem_nil,or_false]at h;rcases h with rfl|rfl
  ·exact⟨#[],hlow _ _ (hK 158 _ rfl),hlow _ _ t1,vZ hK (c:=158) rfl rfl rfl rfl rfl rfl rfl rfl t1 (by decide)⟩
  ·exact⟨#[],hlow _ _ (hK 165 _ rfl),hlow _ _ t2,vZ hK (c:=165) rfl rfl rfl rfl rfl rfl rfl rfl t2 (by decide)⟩
 have tb:∀cp∈iE,∃ps,s.heap.TableAt cp.1 cp.2 ps:=λcp h=>by obtain⟨ps,_,_,_,t⟩:=cds cp h;exact⟨ps,t⟩
 let t₀:gI n₀:=⟨0,s.heap,hlow,hlast,iE,by decide,tb⟩
 let Mt:gI n₀:=⟨1,s.heap,hlow,hlast,iE,by decide,tb⟩
 have I:Inv (ai X t₀) s ⟨λ_=>none,[]⟩ []:={
  top:=⟨hK,hB,OldK.refl _,cds⟩
  len:=rfl
  rep:=λi o e=>by simp at e
  fresh:=λ_ _=>rfl
  old:=λ_ _=>rfl
  bare:=by rw[hg];exact λ_ h=>by simp at h
  tok:=zero_le _}
 obtain⟨hok,hF⟩:=yw (t₀:=t₀) X (ET w.params) 308 Ie Ij (by kernel_rfl);refine wpAny_call (ki hok hF (as:=[.obj L]) (m:=Loc.set (λ_=>none) "script" (.obj L)) (by kernel_rfl) I (.one rfl) (by decide) λenv LK G₁ I₁ F₁ S1 fr=>?_);obtain⟨oL,eL,hcL,hdL⟩:=id hL;have nL:L∉bB env:=λh=>by rw[fr L h]at eL;cases eL
 have kL:=S1.keep L oL eL rfl nL (.inl (by rw[hcL];exact λh=>nomatch h));have F1':aF (ai X Mt) env hW (Loc.set (λ_=>none) "script" (.obj L)) G₁ LK.heap:={kind:=F₁.kind,gl:=F₁.gl,bl:=F₁.bl,kinds:=F₁.kinds,above:=F₁.above,own:=F₁.own,loc:=F₁.loc,cell:=F₁.cell,apart:=F₁.apart};refine(?_:wpAny _ _ (execs iq env) _ _ _);have hb:iq=iq.headD (.Pass ⟨0,0,0,0⟩)::iq.drop 1:=rfl;rw[hb];refine wpAny_execs_cons ?_;have h4:=Kz xs [91,12,41,62] rfl;have h1:(158,154)∈Mt.codes:=show(158,154)∈iE by decide
 have h2:(165,161)∈Mt.codes:=show(165,161)∈iE by decide
 generalize hl:c9 (xs++c9 [91,12,41,62] (some xs.length) none) none (some 4)=l at h4;obtain⟨v,V1,hc,hr⟩:=CR (n:=296) (r:=1) (m:=Loc.set (λ_=>none) "script" (.obj L)) (V:=[.list (c9 [.int 91,.int 12,.int 41,.int 62] (some xs.length) none),.list (l.map .int)]) (by rw[h4];decide) rfl;refine jG (zE h1 h2 (le_refl _)) (y0 h1 h2 (le_refl _) 300) (m:=Loc.set (λ_=>none) "script" (.obj L)) (m':=Loc.set (Loc.set (λ_=>none) "script" (.obj L)) "numbers" v) rfl (by kernel_rfl) (λQ E k=>?_) hc rfl F1' ⟨rfl,by show 1+claimMargin+1+2*(300+21)<recursionLimit;decide,by show 4+3+20*(300+21)<cLine;decide⟩ _ _ λfl LL G₂ I₂ S2 LW=>?_
 ·refine ug (xs:=xs) (vs:=vs) (L:=L) cq I₁ F₁ rfl rfl rfl (by kernel_rfl) ⟨oL,kL.1,hcL,hdL⟩ kL.2 hI hlen λy s' G' I' S' r tk=>k y s' G' ?_ S' r;rw[hl]at I';exact{top:=I'.top,len:=I'.len,rep:=I'.rep,fresh:=I'.fresh,old:=I'.old,bare:=I'.bare,tok:=tk}
 obtain⟨F₂,rfl⟩:=LW;obtain⟨m',V',hev⟩:=A7 (yP h4) ((Cx.nil (m:=Loc.set (λ_=>none) "script" (.obj L)) λ_ _=>trivial).set hr);refine(y0 (w:=w) h1 h2 (le_refl _) 300).ss hev I₂ F₂ ⟨rfl,by show 1+claimMargin+1+2*(300+20)<recursionLimit;decide,by show 4+3+20*(300+20)<cLine;decide⟩ _ _ λfl s₃ G₃ I₄ S3 r=>?_;obtain⟨y,rfl,ry⟩:=r.2;have ry:y=.bool true:=ry;subst ry;exact q s₃ I₄.top.2.2.1 ((S3.os.trans S2.os).trans S1.os) I₄.bare
end Zbx
section Zcx
open PySem.W PySem.Challenge PySem.Calls PyProof.Rows
set_option tactic.hygienic true in
theorem walk1{q:Program}{loose:List Str}{XP:(Str->Option Value)->Heap->Prop}{d:DefRec}{kwd:List (Str×Expr)}(hd:d.name=("law":Str)):WalkO q loose XP (ze K2 GF uS zm).says rw_sr0085_01.row.toRowW d kwd (λf vs=>PySem.call f vs):=by
 intro w s₀ LK mg mb G Y a o pm cd doc dV kV hao hdat hcode hdf hmg hgens args vals as hpre hlay hrd hwell hsys
 wrow_args hpre hlay hrd hwell hsys
 rename_i hL ra w1 r0 hI hr hlen _;obtain⟨hK,⟨ob,eb,cb⟩,ht⟩:=Y;have hB:iD LK.heap:=⟨ob,mb,eb,by rw[cb];exact(λh=>nomatch h),G.T.b,G.T.builtins⟩;have ha:a=308:=by have e:=mg_of hK G.T.g (show nsIn (K2 w.params) mainGlobals ("law":Str)=some (some (.ref 308)) by kernel_rfl);rw[hd,e]at hmg;cases hmg;rfl
 subst ha;refine ED hK hB ht hgens hL hI (by lia) λs' hO hos hba=>?_;refine⟨.inl ⟨.bool true,.bool true,[],rfl,?_,.bool true,?_,?_⟩,hO,hos,hba⟩
 ·intro cls;rfl
 ·wrow_post
 ·intro _;exact⟨List.nodup_nil,λ_ h=>by cases h⟩
end Zcx
end R3
end Mine.Internal.Mine
theorem PySem.Challenge.cw_sr0085_01_holds : PySem.Challenge.rw_sr0085_01.Holds :=
 Mine.Internal.Mine.headOf (Mine.Internal.Mine.walk1 (by kernel_rfl))
