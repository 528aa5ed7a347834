import PyProof.Rows.All
import Wide.All
import OpenK.AllK
import Wide.FinOn
import Lean
import PySem.Challenge.RW_wz0032_01
set_option Elab.async false
set_option maxRecDepth 1000000
set_option genSizeOf false
set_option backward.match.sparseCases false
set_option genInjectivity false
set_option linter.all false
set_option tactic.hygienic false
set_option bootstrap.genMatcherCode false
set_option compiler.extract_closed false

namespace Mine.Internal
open PySem PySem.Calls PyProof.Rows PySem.W
open Nat (le_trans le_refl lt_of_lt_of_le not_lt le_of_eq le_of_lt le_of_ble_eq_true le_add_right zero_le lt_of_le_of_lt succ_le_succ ne_of_lt add_le_add add_le_add_left lt_succ_self le_succ succ_pos lt_succ_of_lt lt_irrefl le_of_succ_le le_of_add_right_le zero_add add_right_comm add_le_add_right sub_le succ_ne_zero le_succ_of_le le_add_left add_comm mul_le_mul_left min_eq_left not_le ne_of_gt min_le_left lt_or_ge add_assoc sub_self min_self log2_lt le_total)
open List (length_map mem_cons mem_map mem_append all_eq_true mem_cons_self mem_cons_of_mem length_append map_map map_cons mem_singleton mem_append_right map_append mem_filter getElem?_map mem_append_left replicate mem_range length_filter_le getElem?_eq_getElem append_assoc mem_flatMap append_nil mem_of_getElem? nodup_cons not_mem_nil getD_eq_getElem?_getD contains_iff_mem any_eq_true pairwise_cons sum_cons replicate_succ nodup_append forIn_nil flatMap_cons toArray lookup_cons length_reverse length_range length_cons find?_eq_none filter_cons map_reverse length_singleton forIn_cons find?_cons Nodup zipIdx_map reverse_cons mem_of_mem_take map_nil map_congr_left lookup_append foldl_cons foldl_append foldl find?_some zipWith take_length size_toArray of_mem_zip mem_reverse mem_flatten map_set map_replicate map_flatMap length_zipIdx length_set length_nil length_drop getElem_idxOf flatten_cons cons_ne_nil all_cons zip_map range' map_drop findIdx? any_map all_map)
open Str (ofString cps_append ext')
open Heap (lt_size get?_push_of_some get?_push_size size_push SameBut get?_update_self get?_update_ne DictOf IsTuple ExtBut Ns)
open Int (natCast_nonneg ofNat_lt toNat_natCast ofNat_le lt_trans one_mul toNat_lt toNat_of_nonneg fmod_nonneg_of_pos fmod_lt_of_pos neg_lt_neg ofNat mul_add add_zero add_mul toNat)
open Bool (and_eq_true and_eq_true_iff not_eq_true' false_eq_true or_eq_true not_not)
open Array (getElem?_toList toList_append getElem?_eq_none toArray_toList getElem_mem any_toList)
open Option (isSome_iff_exists map_eq_some_iff map_eq_none_iff)
section
variable {C:Prop}
theorem X02{A B:Prop}(h:A∧B)(k:A→B→C):C:=k h.1 h.2
theorem X03{A B D:Prop}(h:A∧B∧D)(k:A→B→D→C):C:=k h.1 h.2.1 h.2.2
theorem X04{A B D E:Prop}(h:A∧B∧D∧E)(k:A→B→D→E→C):C:=k h.1 h.2.1 h.2.2.1 h.2.2.2
theorem X05{A B D E F:Prop}(h:A∧B∧D∧E∧F)(k:A→B→D→E→F→C):C:=k h.1 h.2.1 h.2.2.1 h.2.2.2.1 h.2.2.2.2
theorem X06{A B D E F G:Prop}(h:A∧B∧D∧E∧F∧G)(k:A→B→D→E→F→G→C):C:=k h.1 h.2.1 h.2.2.1 h.2.2.2.1 h.2.2.2.2.1 h.2.2.2.2.2
theorem X07{A B D E F G H:Prop}(h:A∧B∧D∧E∧F∧G∧H)(k:A→B→D→E→F→G→H→C):C:=k h.1 h.2.1 h.2.2.1 h.2.2.2.1 h.2.2.2.2.1 h.2.2.2.2.2.1 h.2.2.2.2.2.2
theorem znM{A B D E F G H I J K L:Prop}(h:A∧B∧D∧E∧F∧G∧H∧I∧J∧K∧L)(k:A→B→D→E→F→G→H→I→J→K→L→C):C:=k h.1 h.2.1 h.2.2.1 h.2.2.2.1 h.2.2.2.2.1 h.2.2.2.2.2.1 h.2.2.2.2.2.2.1 h.2.2.2.2.2.2.2.1 h.2.2.2.2.2.2.2.2.1 h.2.2.2.2.2.2.2.2.2.1 h.2.2.2.2.2.2.2.2.2.2
theorem X11{a:Sort _}{A:a→Prop}(h:∃ s,A s)(k:∀ s,A s→C):C:=h.elim k
theorem X12{a:Sort _}{A B:a→Prop}(h:∃ s,A s∧B s)(k:∀ s,A s→B s→C):C:=h.elim fun x h=>X02 h (k x)
theorem X13{a:Sort _}{A B D:a→Prop}(h:∃ s,A s∧B s∧D s)(k:∀ s,A s→B s→D s→C):C:=h.elim fun x h=>X03 h (k x)
theorem X14{a:Sort _}{A B D E:a→Prop}(h:∃ s,A s∧B s∧D s∧E s)(k:∀ s,A s→B s→D s→E s→C):C:=h.elim fun x h=>X04 h (k x)
theorem X15{a:Sort _}{A B D E F:a→Prop}(h:∃ s,A s∧B s∧D s∧E s∧F s)(k:∀ s,A s→B s→D s→E s→F s→C):C:=h.elim fun x h=>X05 h (k x)
theorem X16{a:Sort _}{A B D E F G:a→Prop}(h:∃ s,A s∧B s∧D s∧E s∧F s∧G s)(k:∀ s,A s→B s→D s→E s→F s→G s→C):C:=h.elim fun x h=>X06 h (k x)
theorem X17{a:Sort _}{A B D E F G H:a→Prop}(h:∃ s,A s∧B s∧D s∧E s∧F s∧G s∧H s)(k:∀ s,A s→B s→D s→E s→F s→G s→H s→C):C:=h.elim fun x h=>X07 h (k x)
theorem X21{a b:Sort _}{A:a→b→Prop}(h:∃ s t,A s t)(k:∀ s t,A s t→C):C:=h.elim fun x h=>X11 h (k x)
theorem X22{a b:Sort _}{A B:a→b→Prop}(h:∃ s t,A s t∧B s t)(k:∀ s t,A s t→B s t→C):C:=h.elim fun x h=>X12 h (k x)
theorem X23{a b:Sort _}{A B D:a→b→Prop}(h:∃ s t,A s t∧B s t∧D s t)(k:∀ s t,A s t→B s t→D s t→C):C:=h.elim fun x h=>X13 h (k x)
theorem X24{a b:Sort _}{A B D E:a→b→Prop}(h:∃ s t,A s t∧B s t∧D s t∧E s t)(k:∀ s t,A s t→B s t→D s t→E s t→C):C:=h.elim fun x h=>X14 h (k x)
theorem X25{a b:Sort _}{A B D E F:a→b→Prop}(h:∃ s t,A s t∧B s t∧D s t∧E s t∧F s t)(k:∀ s t,A s t→B s t→D s t→E s t→F s t→C):C:=h.elim fun x h=>X15 h (k x)
theorem X26{a b:Sort _}{A B D E F G:a→b→Prop}(h:∃ s t,A s t∧B s t∧D s t∧E s t∧F s t∧G s t)(k:∀ s t,A s t→B s t→D s t→E s t→F s t→G s t→C):C:=h.elim fun x h=>X16 h (k x)
theorem X27{a b:Sort _}{A B D E F G H:a→b→Prop}(h:∃ s t,A s t∧B s t∧D s t∧E s t∧F s t∧G s t∧H s t)(k:∀ s t,A s t→B s t→D s t→E s t→F s t→G s t→H s t→C):C:=h.elim fun x h=>X17 h (k x)
theorem X31{a b c:Sort _}{A:a→b→c→Prop}(h:∃ s t u,A s t u)(k:∀ s t u,A s t u→C):C:=h.elim fun x h=>X21 h (k x)
theorem X32{a b c:Sort _}{A B:a→b→c→Prop}(h:∃ s t u,A s t u∧B s t u)(k:∀ s t u,A s t u→B s t u→C):C:=h.elim fun x h=>X22 h (k x)
theorem X33{a b c:Sort _}{A B D:a→b→c→Prop}(h:∃ s t u,A s t u∧B s t u∧D s t u)(k:∀ s t u,A s t u→B s t u→D s t u→C):C:=h.elim fun x h=>X23 h (k x)
theorem X34{a b c:Sort _}{A B D E:a→b→c→Prop}(h:∃ s t u,A s t u∧B s t u∧D s t u∧E s t u)(k:∀ s t u,A s t u→B s t u→D s t u→E s t u→C):C:=h.elim fun x h=>X24 h (k x)
theorem X35{a b c:Sort _}{A B D E F:a→b→c→Prop}(h:∃ s t u,A s t u∧B s t u∧D s t u∧E s t u∧F s t u)(k:∀ s t u,A s t u→B s t u→D s t u→E s t u→F s t u→C):C:=h.elim fun x h=>X25 h (k x)
theorem X36{a b c:Sort _}{A B D E F G:a→b→c→Prop}(h:∃ s t u,A s t u∧B s t u∧D s t u∧E s t u∧F s t u∧G s t u)(k:∀ s t u,A s t u→B s t u→D s t u→E s t u→F s t u→G s t u→C):C:=h.elim fun x h=>X26 h (k x)
theorem X37{a b c:Sort _}{A B D E F G H:a→b→c→Prop}(h:∃ s t u,A s t u∧B s t u∧D s t u∧E s t u∧F s t u∧G s t u∧H s t u)(k:∀ s t u,A s t u→B s t u→D s t u→E s t u→F s t u→G s t u→H s t u→C):C:=h.elim fun x h=>X27 h (k x)
theorem X41{a b c d:Sort _}{A:a→b→c→d→Prop}(h:∃ s t u v,A s t u v)(k:∀ s t u v,A s t u v→C):C:=h.elim fun x h=>X31 h (k x)
theorem X42{a b c d:Sort _}{A B:a→b→c→d→Prop}(h:∃ s t u v,A s t u v∧B s t u v)(k:∀ s t u v,A s t u v→B s t u v→C):C:=h.elim fun x h=>X32 h (k x)
theorem X44{a b c d:Sort _}{A B D E:a→b→c→d→Prop}(h:∃ s t u v,A s t u v∧B s t u v∧D s t u v∧E s t u v)(k:∀ s t u v,A s t u v→B s t u v→D s t u v→E s t u v→C):C:=h.elim fun x h=>X34 h (k x)
theorem X45{a b c d:Sort _}{A B D E F:a→b→c→d→Prop}(h:∃ s t u v,A s t u v∧B s t u v∧D s t u v∧E s t u v∧F s t u v)(k:∀ s t u v,A s t u v→B s t u v→D s t u v→E s t u v→F s t u v→C):C:=h.elim fun x h=>X35 h (k x)
theorem X46{a b c d:Sort _}{A B D E F G:a→b→c→d→Prop}(h:∃ s t u v,A s t u v∧B s t u v∧D s t u v∧E s t u v∧F s t u v∧G s t u v)(k:∀ s t u v,A s t u v→B s t u v→D s t u v→E s t u v→F s t u v→G s t u v→C):C:=h.elim fun x h=>X36 h (k x)
theorem X51{a b c d e:Sort _}{A:a→b→c→d→e→Prop}(h:∃ s t u v w,A s t u v w)(k:∀ s t u v w,A s t u v w→C):C:=h.elim fun x h=>X41 h (k x)
theorem X52{a b c d e:Sort _}{A B:a→b→c→d→e→Prop}(h:∃ s t u v w,A s t u v w∧B s t u v w)(k:∀ s t u v w,A s t u v w→B s t u v w→C):C:=h.elim fun x h=>X42 h (k x)
theorem X61{a b c d e f:Sort _}{A:a→b→c→d→e→f→Prop}(h:∃ s t u v w y,A s t u v w y)(k:∀ s t u v w y,A s t u v w y→C):C:=h.elim fun x h=>X51 h (k x)
theorem X62{a b c d e f:Sort _}{A B:a→b→c→d→e→f→Prop}(h:∃ s t u v w y,A s t u v w y∧B s t u v w y)(k:∀ s t u v w y,A s t u v w y→B s t u v w y→C):C:=h.elim fun x h=>X52 h (k x)
theorem X71{a b c d e f g:Sort _}{A:a→b→c→d→e→f→g→Prop}(h:∃ s t u v w y z,A s t u v w y z)(k:∀ s t u v w y z,A s t u v w y z→C):C:=h.elim fun x h=>X61 h (k x)
theorem sj{α:Type _}{a b:α}(h:some a=some b):a=b:=Option.some.inj h
@[elab_as_elim] theorem rwR{α:Sort _}{a b:α}{P:α→Prop}(h:a=b)(p:P b):P a:=h▸p
@[elab_as_elim] theorem rwL{α:Sort _}{a b:α}{P:α→Prop}(h:a=b)(p:P a):P b:=h▸p
local macro_rules | `(tactic| rw [$rs,*]) => do
  let ts ← rs.getElems.mapM fun r => do
    let e : Lean.Term := ⟨r.raw[1]⟩
    let l := Lean.mkIdent (if r.raw[0].getNumArgs == 0 then `Mine.Internal.rwR else `Mine.Internal.rwL)
    if (e.raw.find? fun s => s.getKind == ``Lean.Parser.Term.byTactic).isSome then `(tactic| rewrite [$r])
    else `(tactic| first | with_reducible refine $l ($e ..) ?_ | rewrite [$r])
  `(tactic| ($[$ts:tactic];*; try (with_reducible rfl)))
section
noncomputable def vn(i:Nat):Stmt:=PySem.Challenge.pw_wz0032_01.main.body.getD i (.Pass default)
noncomputable def kid(i j:Nat):Stmt:=match vn i with
 | .ClassDef z y x b .. =>b.getD j (.Pass default)
 |s=>s
noncomputable def zvl(P:Params)(l:List (String × Nat × Value))(n:Nat):Obj:={ cls:=.type "dict",data:=.dict (l.map fun e=>⟨PyData.keyHash P e.1,.str e.1 e.2.1,e.2.2⟩).toArray n }
noncomputable def znN(a:Nat)(m:Value)(y:Option String):Stmt→Obj
 | .FunctionDef n ar b z x v sc u q t=>{ cls:=.type "function",data:=.func { name:=n,qualname:=y.elim q .ofString,params:=ar,body:=.stmts b,scope:=sc,globals:=3,closure:=[],defaults:=.none,kwdefaults:=.none,pyModule:=m,code:=.ref (a - 1) } }
 |_=>{ cls:=.none,data:=.plain }
noncomputable def znR(a t l k e:Nat)(y:Option String):Stmt→Obj
 | .FunctionDef n z x v u s r p q o=>{ cls:=.type "code",data:=.fields (#[.str n t,.str (y.elim q .ofString) (t+1),.str "/claim/cut.py" (t+2),.int l 0,.int k 0,.int 0 0,.int 0 0,.int 3 0]++
   (if a<170 then #[.ref (a - 6),.bool true,.int 181 0,.ref (a - 5),.none,.ref (a - 4),.ref (a - 3),.ref (a - 2)] else #[.ref (a - 4),.bool true,.int 181 0,.ref (a - 3),.none,.none,.none,.ref (a - 2)])++ #[.int e 0,.int l 0,.str "/claim/cut.py" (e+1)]) }
 |_=>{ cls:=.none,data:=.plain }
noncomputable def zn0(n:Str)(a s t u:Nat):Obj:={ cls:=.type "type",data:=.cls { name:=n,bases:=[.type "object"],mro:=[.ref a,.type "object"],ns:=s,qualname:=n },slots:= #[none,none,some (.str n t),some (.str n u),some (.builtin "object.__new__"),some (.bool true)] }
noncomputable def znS:List String:=["LPAR","RPAR","LSQB","RSQB","COLON","COMMA","SEMI","PLUS","MINUS","STAR","SLASH","VBAR","AMPER","LESS","GREATER","EQUAL","DOT","PERCENT","LBRACE","RBRACE","EQEQUAL","NOTEQUAL","LESSEQUAL","GREATEREQUAL","TILDE","CIRCUMFLEX","LEFTSHIFT","RIGHTSHIFT","DOUBLESTAR","PLUSEQUAL","MINEQUAL","STAREQUAL","SLASHEQUAL","PERCENTEQUAL","AMPEREQUAL","VBAREQUAL","CIRCUMFLEXEQUAL","LEFTSHIFTEQUAL","RIGHTSHIFTEQUAL","DOUBLESTAREQUAL","DOUBLESLASH","DOUBLESLASHEQUAL","AT","ATEQUAL","RARROW","ELLIPSIS","COLONEQUAL","EXCLAMATION"]
noncomputable def zhT:List (String × Nat):=[("!",54),("!=",28),("%",24),("%=",40),("&",19),("&=",41),("(",7),(")",8),("*",16),("**",35),("**=",46),("*=",38),("+",14),("+=",36),(",",12),("-",15),("-=",37),("->",51),(".",23),("...",52),("/",17),("//",47),("//=",48),("/=",39),(":",11),(":=",53),(";",13),("<",20),("<<",33),("<<=",44),("<=",29),("=",22),("==",27),(">",21),(">=",30),(">>",34),(">>=",45),("@",49),("@=",50),("[",9),("]",10),("^",32),("^=",43),("{",25),("|",18),("|=",42),("}",26),("~",31)]
noncomputable def k3a:List (String × Nat × Value):=[("__name__",165,.str "law_wz0032_01" 606),("__doc__",166,.none),("__package__",167,.none),("__loader__",168,.builtin "__main__.__loader__#opaque"),("__spec__",169,.none),("__annotations__",170,.ref 6),("__builtins__",171,.ref 4),("__file__",173,.str "/claim/cut.py" 172),("__cached__",174,.none),("_wall",193,.ref 21),("TupleComp",237,.ref 45),("func_std_string",245,.ref 56),("add_func_stats",263,.ref 63),("add_callers",274,.ref 70),("count_calls",283,.ref 77),("Whitespace",385,.ref 139),("ENDMARKER",389,.int 0 388)]
noncomputable def k3b:List (String × Nat × Value):=[("NT_OFFSET",487,.int 256 486),("EXACT_TOKEN_TYPES",584,.ref 144),("ISTERMINAL",591,.ref 153),("ISNONTERMINAL",598,.ref 160),("ISEOF",605,.ref 167),("_law_page",613,.ref 172),("_law_ends",619,.ref 177),("_law_rules",625,.ref 182),("_law_roads",631,.ref 187),("_law_run",637,.ref 192),("_law_book",643,.ref 197),("_law_due",649,.ref 202),("_law_told",655,.ref 207),("_law_alike",661,.ref 212),("law",667,.ref 217)]
noncomputable def k44:List (String × Nat × Value):=[("__module__",203,.str "cpy313.pstats" 194),("__firstlineno__",207,.int 5 206),("__init__",215,.ref 35),("compare",228,.ref 42),("__static_attributes__",230,.ref 43),("__dict__",232,.ref 46),("__weakref__",234,.ref 47),("__doc__",235,.none)]
noncomputable def znT:List (String × Nat × Value):=[("__module__",293,.str "cpy313.tabnanny" 284),("__firstlineno__",297,.int 51 296),("S",301,.str " " 299),("T",302,.str "\t" 300),("__init__",317,.ref 94),("longest_run_of_spaces",326,.ref 101),("indent_level",338,.ref 108),("equal",346,.ref 115),("not_equal_witness",354,.ref 122),("less",364,.ref 129),("not_less_witness",372,.ref 136),("__static_attributes__",378,.ref 137),("__dict__",380,.ref 140),("__weakref__",382,.ref 141),("__doc__",383,.none)]
noncomputable def k3:List (String × Nat × Value):=k3a++znS.mapIdx (fun i n=>(n,391+2 *i,.int (7+i) (390+2 *i)))++k3b
noncomputable def znL:List (String × Nat × Value):=zhT.mapIdx fun i e=>(e.1,if i<35 then 488+2 *i else 522+i,.int e.2 (376+2 *e.2))
noncomputable def fns:List (Nat × Option String × Stmt × Value × Nat × Nat × Nat × Nat):=[(35,some "TupleComp.__init__",kid 2 0,(.str "cpy313.pstats" 194),208,7,2,213),
 (42,some "TupleComp.compare",kid 2 1,(.str "cpy313.pstats" 194),216,10,3,226),
 (56,none,vn 3,(.str "cpy313.pstats" 194),238,19,1,243),
 (63,none,vn 4,(.str "cpy313.pstats" 194),246,28,2,261),
 (70,none,vn 5,(.str "cpy313.pstats" 194),264,32,2,272),
 (77,none,vn 6,(.str "cpy313.pstats" 194),275,45,1,281),
 (94,some "Whitespace.__init__",kid 8 1,(.str "cpy313.tabnanny" 284),303,54,2,315),
 (101,some "Whitespace.longest_run_of_spaces",kid 8 2,(.str "cpy313.tabnanny" 284),318,77,1,324),
 (108,some "Whitespace.indent_level",kid 8 3,(.str "cpy313.tabnanny" 284),327,81,2,336),
 (129,some "Whitespace.less",kid 8 6,(.str "cpy313.tabnanny" 284),355,94,2,362),
 (153,none,vn 61,(.str "cpy313.token" 386),585,159,1,589),
 (160,none,vn 62,(.str "cpy313.token" 386),592,161,1,596),
 (167,none,vn 63,(.str "cpy313.token" 386),599,163,1,603),
 (172,none,vn 65,(.str "law_wz0032_01" 606),608,166,1,611),
 (177,none,vn 66,(.str "law_wz0032_01" 606),614,174,2,617),
 (182,none,vn 67,(.str "law_wz0032_01" 606),620,185,2,623),
 (187,none,vn 68,(.str "law_wz0032_01" 606),626,196,3,629),
 (192,none,vn 69,(.str "law_wz0032_01" 606),632,202,2,635),
 (197,none,vn 70,(.str "law_wz0032_01" 606),638,211,3,641),
 (202,none,vn 71,(.str "law_wz0032_01" 606),644,220,5,647),
 (207,none,vn 72,(.str "law_wz0032_01" 606),650,229,4,653),
 (212,none,vn 73,(.str "law_wz0032_01" 606),656,235,4,659),
 (217,none,vn 74,(.str "law_wz0032_01" 606),662,241,1,665)]
noncomputable def KK(P:Params):Frag:=[(2,{ cls:=.none,data:=.dict #[] }),(3,zvl P k3 80),(44,zvl P k44 4),(45,zn0 "TupleComp" 45 44 196 204),(138,zvl P znT 4),(139,zn0 "Whitespace" 139 138 286 294),(144,zvl P znL 48)]++
 fns.flatMap fun (a,y,s,m,t,l,k,e)=>[(a,znN a m y s),(a - 1,znR a t l k e y s)]
noncomputable def asK:List Nat:=[2,3,44,45,138,139,144,35,34,42,41,56,55,63,62,70,69,77,76,94,93,101,100,108,107,129,128,153,152,160,159,167,166,172,171,177,176,182,181,187,186,192,191,197,196,202,201,207,206,212,211,217,216]
theorem zdX(P:Params):asK=(KK P).map (fun z=>z.1):=by kernel_rfl
end
variable {β α:Type}{k:Nat}
section
noncomputable abbrev rr:OpenRow:=PySem.Challenge.rw_wz0032_01.row
noncomputable def qv:Program:={ rr.prog with main:={ rr.prog.main with body:=[vn 5,vn 74] } }
noncomputable def xN:List Str:=((k3.drop 9).map fun e=>ofString e.1).filter fun x=> !(x=="add_callers")&& !(x=="law")
noncomputable def HK:Hook:=kHook KK asK zdX
noncomputable def xtV(s:Shared):Bool:=xlAt qv [] s&&recOk (RowW.records rr.toRowW) s
noncomputable def zdW(s:Shared):=(openSeen qv xN (importedModules rr.prog.main.body) xtV true s,HK.obs s)
noncomputable def zhL(w:World)(s₀:Shared):Option Shared:=match s₀.heap.isNs mainGlobals&&s₀.gens.size==0 with
 |true=>(Fast.tw14082659384304107361 Fast.tw14364793385576792824 rr.prog w s₀.heap.objs.size (s₀.heap.nsMap mainGlobals "__annotations__") 6000 s₀ (topStub rr.prog)).bind fun s₁=>
  match staticsOk (importedModules rr.prog.main.body) s₀.heap s₁.heap&&namesBound rr.prog s₁.heap&&gensDone s₁&&laidKept s₀.heap s₁.heap with
  |true=>some s₁
  |false=>none
 |false=>none
theorem zpn(w:World)(s₀:Shared):topFrom treeTable rr.prog w 6000 s₀=zhL w s₀:=by
 unfold topFrom zhL;rw [Fast.te14082659384304107361,Fast.te14364793385576792824];rfl
noncomputable abbrev zdV(b:Bool):Prop:=∀ (w:World) (os:OsState),(zhL (w.withFollow "special-get-raises" b) ⟨boot_heap w.params, #[],boot_drawn,boot_toks,os⟩).map zdW=some (openGood qv xN,HK.val (w.withFollow "special-get-raises" b))
theorem zdU:zdV false:=fun w os=>by kernel_rfl
theorem zdG:zdV true:=fun w os=>by kernel_rfl
theorem zhC:∀ w:World,(fencedOpening treeTable rr.prog w 6000).map (fun s=>(s.heap,s.gens,s.drawn,s.toks))=some (boot_heap w.params, #[],boot_drawn,boot_toks):=boot_open (by kernel_rfl) (by kernel_rfl) (fun s=>by kernel_rfl)
theorem zdP{p:Program}{w:World}{N:Nat}{H:Heap}{g:Array GenState}{d:Drawn}(h:(fencedOpening treeTable p w N).map (fun s=>(s.heap,s.gens,s.drawn,s.toks))=some (H,g,d,k)):∃ os,fencedOpening treeTable p w N=some ⟨H,g,d,k,os⟩:=by
 obtain ⟨⟨h,g,d,k,os⟩,e,e'⟩:=map_eq_some_iff.mp h;cases e';exact ⟨os,e⟩
theorem zhO{γ:Type}{x:Option α}{f:α→Option β}{m:β→γ}{s:α}{r:Option γ}(e:x=some s)(h:(f s).map m=r):(x.bind f).map m=r:=e▸h
theorem zhA:LeftO rr.prog qv xN xtV HK.obs HK.val 6000:=fun w=>by
 obtain ⟨os,e⟩:=zdP (zhC w);refine zhO e ?_
 show (topFrom treeTable rr.prog w 6000 _).map zdW=some (openGood qv xN,HK.val w)
 rw [zpn];cases hb:w.params.followText "special-get-raises" with
 |false=>
  have:=zdU w os
  rwa [←hb,World.withFollow_self] at this
 |true=>
  have:=zdG w os
  rwa [←hb,World.withFollow_self] at this
noncomputable def dV0:DefRec × List (Str × Expr):=(defOf qv rr.name).getD ((recsOf qv).headD ⟨"",⟨[],[],none,[],[],none,[]⟩,[],{ kind:=.function,names:=[],isGenerator:=false,isCoroutine:=false },default⟩,[])
theorem zjZ(call:WalkO qv xN (XL qv []) HK.says rr.toRowW dV0.1 dV0.2 fun f vs=>PySem.call f vs):PySem.Challenge.rw_wz0032_01.Holds:=
 holds_law ((congrFun Fast.te9446332074065402090 _).trans (by kernel_rfl)) fun said=>holds_open (q:=qv) (loose:=xN) (Xt:=xtV) (XP:=XL qv []) (Yf:=HK.obs) (Ya:=HK.val) (YP:=HK.says) (N:=6000) zhA HK.of HK.keeps
  (fun s e=>xl_of s (and_eq_true_iff.mp e).1) XL.keeps (by kernel_rfl) (by kernel_rfl) (by kernel_rfl) (fun s e=>recFacts_of (and_eq_true_iff.mp e).2) (by kernel_rfl) said (by kernel_rfl) ⟨rfl,rfl,rfl,rfl,rfl,by decide+kernel⟩ (by w_witness2) call
end
section
structure G0 where
 w:World
 s:Shared
 mg:Str→Option Value
 mb:Str→Option Value
theorem G0.ne:Nonempty G0:=⟨⟨⟨fun z z=>0,{ strHash:=fun z=>0,shareClass:=fun z=>0,mergeTok:=id,idOf:=fun z=>0,idOfShared:=fun z z=>0,followText:=fun z=>false,idOfImm:=fun z=>0 }⟩,{},fun z=>none,fun z=>none⟩⟩
noncomputable def prog:Program:=rr.prog
def G0.Goal(g:G0):Prop:=∀ (mean:ExcName→Option Value),(KK g.w.params).In g.s.heap→Top qv (looseW qv xN) mean g.mg g.mb g.s.heap→g.s.gens= #[]→
 ∀ (vs:List Value) (ns:List Int) (l:Addr),g.s.heap.PlainList l vs.toArray→IntsAre vs ns→ns.length≤63→∀ (Q:Value→Shared→Prop) (E:Value→Shared→Prop),
 (∀ s',OldK g.s.heap s'.heap→s'.os=g.s.os→AllBare s'.gens→Q (.bool true) s')→wpAny (model prog g.w) callerA (call (.ref 217) [.ref l]) Q E g.s
noncomputable def g₀:G0:=@Classical.epsilon _ G0.ne fun g=>¬ g.Goal
theorem G0.all(h:g₀.Goal)(g:G0):g.Goal:=Classical.byContradiction fun n=>@Classical.epsilon_spec _ (p:=fun g:G0=>¬ g.Goal) ⟨g,n⟩ h
noncomputable def w:World:=g₀.w
noncomputable def P:Params:=w.params
noncomputable def h₀:Heap:=g₀.s.heap
noncomputable def mg:Str→Option Value:=g₀.mg
noncomputable def mb:Str→Option Value:=g₀.mb
noncomputable def P₀:Addr:=65
noncomputable def cc:Addr:=69
end
variable {h h':Heap}{v:Value}{t b:Bool}{a:Addr}{X X':List Addr}{vs:List Value}
section
inductive D where
 |none
 |bool (b:Bool)
 |int (i:Int)
 |str (s:Str)
 |tup (ds:List D)
 |list (ds:List D)
 |dS (kvs:List (Str × D))
 |dI (kvs:List (Int × D))
 |obj (c:Nat) (fs:List (Str × D))
 deriving Inhabited
def xR(h:Heap)(a:Addr)(vs:Array Value):Prop:=∃ n,h.get? a=some { cls:=.type "tuple",data:=.seq vs n }
theorem xR.isTuple{vs:Array Value}(x:xR h a vs):h.IsTuple a vs:=X11 x fun n q=>⟨_,q,rfl,n,rfl⟩
theorem xR.at{vs:Array Value}(x:xR h a vs)(e:∀ o,h.get? a=some o→h'.get? a=some o):xR h' a vs:=
 X11 x fun n q=>⟨n,e _ q⟩
structure RootOk(X:List Addr)(t:Bool)(a:Addr):Prop where
 ne:a≠P₀∧a≠cStatics
 out:t=false→a∉X
structure zpr(X:List Addr)(t:Bool)(a dx:Addr):Prop extends RootOk X t dx where
 lt:dx<a
section
mutual
inductive Rep(h:Heap)(X:List Addr):Bool→Value→D→Prop
 |none (t:Bool):Rep h X t .none .none
 |bool (t b:Bool):Rep h X t (.bool b) (.bool b)
 |int (t:Bool) (i:Int) (u:Tok):Rep h X t (.int i u) (.int i)
 |str (t:Bool) (x:Str) (u:Tok):Rep h X t (.str x u) (.str x)
 |tup {t:Bool} {a:Addr} {vs:Array Value} {ds:List D}:RootOk X t a→xR h a vs→zu h X vs.toList ds→Rep h X t (.ref a) (.tup ds)
 |list {t:Bool} {a:Addr} {vs:Array Value} {ds:List D}:RootOk X t a→h.PlainList a vs→zu h X vs.toList ds→Rep h X t (.ref a) (.list ds)
 |dS {t:Bool} {a:Addr} {kvs:List (Str × Value)} {ds:List (Str × D)}:RootOk X t a→(a==sysModules)=false→h.DictOf (strKind prog w) a kvs→
   kvs.map (fun z=>z.1)=ds.map (fun z=>z.1)→zu h X (kvs.map (fun z=>z.2)) (ds.map (fun z=>z.2))→Rep h X t (.ref a) (.dS ds)
 |dI {t:Bool} {a:Addr} {kvs:List (Int × Value)} {ds:List (Int × D)}:RootOk X t a→(a==sysModules)=false→h.DictOf (intKind prog w) a kvs→
   kvs.map (fun z=>z.1)=ds.map (fun z=>z.1)→zu h X (kvs.map (fun z=>z.2)) (ds.map (fun z=>z.2))→Rep h X t (.ref a) (.dI ds)
 |obj {t:Bool} {a dx C:Addr} {kvs:List (Str × Value)} {ds:List (Str × D)}:RootOk X t a→zpr X t a dx→h.get? a=some (instObj C dx)→h.DictOf (strKind prog w) dx kvs→
   kvs.map (fun z=>z.1)=ds.map (fun z=>z.1)→zu h X (kvs.map (fun z=>z.2)) (ds.map (fun z=>z.2))→Rep h X t (.ref a) (.obj C ds)
inductive zu(h:Heap)(X:List Addr):List Value→List D→Prop
 |nil:zu h X [] []
 |cons {v:Value} {vs:List Value} {d:D} {ds:List D}:Rep h X false v d→zu h X vs ds→zu h X (v::vs) (d::ds)
end
end
section
structure pf(h:Heap)(X:List Addr)(h':Heap)(X':List Addr):Prop where
 off:∀ a o,(a≠P₀∧a≠cStatics)→a∉X→h.get? a=some o→h'.get? a=some o
 sub:∀ a o,a∉X→h.get? a=some o→a∉X'
theorem zq{a:α}(h:(none:Option α)=some a):C:=Option.noConfusion rfl (heq_of_eq h)
theorem yy(h:false=true):C:=Bool.noConfusion h
theorem zk{c:Prop}[Decidable c]{a:Option α}{r:α}(h:(if c then a else none)=some r):c∧a=some r:=
 if q:c then ⟨q,(if_pos q).symm.trans h⟩ else zq ((if_neg q).symm.trans h)
theorem bind_some{a:Option α}{f:α→Option β}{r:β}(h:a.bind f=some r):∃ x,a=some x∧f x=some r:=Option.bind_eq_some_iff.mp h
theorem map_some{a:Option α}{f:α→β}{r:β}(h:a.map f=some r):∃ x,a=some x∧f x=r:=map_eq_some_iff.mp h
noncomputable def zn1(h:Heap)(X:List Addr)(t:Bool)(v:Value):D→Prop
 | .none=>v= .none
 | .bool b=>v= .bool b
 | .int i=>∃ u,v= .int i u
 | .str x=>∃ u,v= .str x u
 | .tup ds=>∃ a vs n,v= .ref a∧RootOk X t a∧h.get? a=some { cls:=.type "tuple",data:=.seq vs n }∧zu h X vs.toList ds
 | .list ds=>∃ a vs n,v= .ref a∧RootOk X t a∧h.get? a=some { cls:=.type "list",data:=.seq vs n }∧zu h X vs.toList ds
 | .dS ds=>∃ a kvs,v= .ref a∧RootOk X t a∧(a==sysModules)=false∧h.DictOf (strKind prog w) a kvs∧kvs.map (fun z=>z.1)=ds.map (fun z=>z.1)∧zu h X (kvs.map (fun z=>z.2)) (ds.map (fun z=>z.2))
 | .dI ds=>∃ a kvs,v= .ref a∧RootOk X t a∧(a==sysModules)=false∧h.DictOf (intKind prog w) a kvs∧kvs.map (fun z=>z.1)=ds.map (fun z=>z.1)∧zu h X (kvs.map (fun z=>z.2)) (ds.map (fun z=>z.2))
 | .obj C ds=>∃ a dx kvs,v= .ref a∧RootOk X t a∧zpr X t a dx∧h.get? a=some (instObj C dx)∧h.DictOf (strKind prog w) dx kvs∧kvs.map (fun z=>z.1)=ds.map (fun z=>z.1)∧zu h X (kvs.map (fun z=>z.2)) (ds.map (fun z=>z.2))
noncomputable def zdB(h:Heap)(X:List Addr)(vs:List Value):List D→Prop
 |[]=>vs=[]
 |d::ds=>∃ v us,vs=v::us∧Rep h X false v d∧zu h X us ds
theorem Rep.inv{d:D}(r:Rep h X t v d):zn1 h X t v d:=
 Rep.casesOn (motive_1:=fun t v d z=>zn1 h X t v d) r (fun z=>rfl) (fun z z=>rfl) (fun z z u=>⟨u,rfl⟩) (fun z z u=>⟨u,rfl⟩) (fun r ⟨n,i⟩ l=>⟨_,_,n,rfl,r,i,l⟩) (fun r ⟨n,i⟩ l=>⟨_,_,n,rfl,r,i,l⟩)
  (fun r n i e l=>⟨_,_,rfl,r,n,i,e,l⟩) (fun r n i e l=>⟨_,_,rfl,r,n,i,e,l⟩) (fun r r' g i e l=>⟨_,_,_,rfl,r,r',g,i,e,l⟩)
theorem zu.inv{ds:List D}(r:zu h X vs ds):zdB h X vs ds:=
 zu.casesOn (motive_2:=fun vs ds z=>zdB h X vs ds) r rfl fun a b=>⟨_,_,rfl,a,b⟩
section
variable {M:Value→Prop} {ds:List D}
theorem Rep.noneE(x:Rep h X t v .none)(f:M .none):M v:=x.inv▸f
theorem Rep.boolE(x:Rep h X t v (.bool b))(f:M (.bool b)):M v:=x.inv▸f
theorem Rep.intE{k:Int}(x:Rep h X t v (.int k))(f:∀ j,M (.int k j)):M v:=X11 x.inv fun j e=>e▸f j
theorem Rep.strE{k:Str}(x:Rep h X t v (.str k))(f:∀ j,M (.str k j)):M v:=X11 x.inv fun j e=>e▸f j
theorem Rep.tupE(x:Rep h X t v (.tup ds))(f:∀ a vs n,RootOk X t a→h.get? a=some { cls:=.type "tuple",data:=.seq vs n }→zu h X vs.toList ds→M (.ref a)):M v:=
 X34 x.inv fun a vs n e r i l=>e▸f a vs n r i l
theorem Rep.listE(x:Rep h X t v (.list ds))(f:∀ a vs n,RootOk X t a→h.get? a=some { cls:=.type "list",data:=.seq vs n }→zu h X vs.toList ds→M (.ref a)):M v:=
 X34 x.inv fun a vs n e r i l=>e▸f a vs n r i l
theorem Rep.dSE{ds:List (Str × D)}(x:Rep h X t v (.dS ds))(f:∀ a kvs,RootOk X t a→(a==sysModules)=false→h.DictOf (strKind prog w) a kvs→kvs.map (fun z=>z.1)=ds.map (fun z=>z.1)→zu h X (kvs.map (fun z=>z.2)) (ds.map (fun z=>z.2))→M (.ref a)):M v:=
 X26 x.inv fun a kvs e r n i k l=>e▸f a kvs r n i k l
theorem Rep.dIE{ds:List (Int × D)}(x:Rep h X t v (.dI ds))(f:∀ a kvs,RootOk X t a→(a==sysModules)=false→h.DictOf (intKind prog w) a kvs→kvs.map (fun z=>z.1)=ds.map (fun z=>z.1)→zu h X (kvs.map (fun z=>z.2)) (ds.map (fun z=>z.2))→M (.ref a)):M v:=
 X26 x.inv fun a kvs e r n i k l=>e▸f a kvs r n i k l
theorem Rep.objE{C:Nat}{ds:List (Str × D)}(x:Rep h X t v (.obj C ds))(f:∀ a dx kvs,RootOk X t a→zpr X t a dx→h.get? a=some (instObj C dx)→h.DictOf (strKind prog w) dx kvs→kvs.map (fun z=>z.1)=ds.map (fun z=>z.1)→zu h X (kvs.map (fun z=>z.2)) (ds.map (fun z=>z.2))→M (.ref a)):M v:=
 X37 x.inv fun a dx kvs e r r' g i k l=>e▸f a dx kvs r r' g i k l
end
theorem zu.nilE{M:List Value→Prop}(x:zu h X vs [])(f:M []):M vs:=x.inv▸f
theorem zu.consE{M:List Value→Prop}{d:D}{ds:List D}(x:zu h X vs (d::ds))(f:∀ v us,Rep h X false v d→zu h X us ds→M (v::us)):M vs:=
 X23 x.inv fun v us e a b=>e▸f v us a b
theorem zu.oneE{M:List Value→Prop}{d:D}(x:zu h X vs [d])(f:∀ v,Rep h X false v d→M [v]):M vs:=
 x.consE fun v us a b=>b.nilE (M:=fun us=>M (v::us)) (f v a)
theorem pf.root{o:Obj}(m:pf h X h' X')(k:t=true→∀ a o,(a≠P₀∧a≠cStatics)→h.get? a=some o→h'.get? a=some o)(r:RootOk X t a)(q:h.get? a=some o):h'.get? a=some o:=by
 cases t
 ·exact m.off _ _ r.ne (r.out rfl) q
 ·exact k rfl _ _ r.ne q
theorem pf.rootOk{o:Obj}(m:pf h X h' X')(r:RootOk X t a)(q:h.get? a=some o):RootOk X' t a:=⟨r.ne,fun ht=>m.sub _ _ (r.out ht) q⟩
theorem Rep.move(m:pf h X h' X'){d:D}(k:t=true→∀ a o,(a≠P₀∧a≠cStatics)→h.get? a=some o→h'.get? a=some o)(r:Rep h X t v d):Rep h' X' t v d:=
 Rep.rec (motive_1:=fun t v d z=>(t=true→∀ a o,(a≠P₀∧a≠cStatics)→h.get? a=some o→h'.get? a=some o)→Rep h' X' t v d) (motive_2:=fun vs ds z=>zu h' X' vs ds)
  (fun t z=>.none t) (fun t b z=>.bool t b) (fun t i u z=>.int t i u) (fun t x u z=>.str t x u) (fun r ⟨n,i⟩ z l k=>.tup (m.rootOk r i) ⟨n,m.root k r i⟩ l) (fun r ⟨n,i⟩ z l k=>.list (m.rootOk r i) ⟨n,m.root k r i⟩ l)
  (fun r n i e z l k=>.dS (X32 i fun z z z q z=>m.rootOk r q) n (i.at fun z=>m.root k r) e l) (fun r n i e z l k=>.dI (X32 i fun z z z q z=>m.rootOk r q) n (i.at fun z=>m.root k r) e l)
  (fun r r' g i e z l k=>.obj (m.rootOk r g) ⟨X32 i fun z z z q z=>m.rootOk r'.toRootOk q,r'.lt⟩ (m.root k r g) (i.at fun z=>m.root k r'.toRootOk) e l) .nil (fun z z a b=>.cons (a fun e=>nomatch e) b) r k
theorem zu.move(m:pf h X h' X'):∀ {vs:List Value} {ds:List D},zu h X vs ds→zu h' X' vs ds
 |_,[],r=>r.nilE (M:=fun vs=>zu h' X' vs []) .nil
 |_,d::ds,r=>r.consE (M:=fun vs=>zu h' X' vs (d::ds)) fun z z a b=>.cons (Rep.move m (fun e=>nomatch e) a) (zu.move m b)
theorem RootOk.top(r:RootOk X t a):RootOk X true a:=⟨r.ne,fun e=>nomatch e⟩
theorem Rep.top{d:D}(r:Rep h X t v d):Rep h X true v d:=
 Rep.casesOn (motive_1:=fun z v d z=>Rep h X true v d) r (fun z=>.none _) (fun z z=>.bool _ _) (fun z z z=>.int _ _ _) (fun z z z=>.str _ _ _) (fun r i l=>.tup r.top i l) (fun r i l=>.list r.top i l)
  (fun r n i e l=>.dS r.top n i e l) (fun r n i e l=>.dI r.top n i e l) (fun r r' g i e l=>.obj r.top ⟨r'.toRootOk.top,r'.lt⟩ g i e l)
theorem zu.length:∀ {vs:List Value} {ds:List D},zu h X vs ds→vs.length=ds.length
 |_,[],r=>r.nilE (M:=fun vs=>vs.length=0) rfl
 |_,d::ds,r=>r.consE (M:=fun vs=>vs.length=(d::ds).length) fun z z z b=>congrArg Nat.succ b.length
theorem zu.get:∀ {vs:List Value} {ds:List D},zu h X vs ds→∀ (i:Nat) {d:D},ds[i]? =some d→∃ v,vs[i]? =some v∧Rep h X false v d
 |_,[],_,_,_,e=>zq e
 |_,d::ds,r,i,x,e=>r.consE (M:=fun vs=>∃ v,vs[i]? =some v∧Rep h X false v x) fun v us a b=>match i,e with
  |0,e=>⟨v,rfl,sj e▸a⟩
  |i+1,e=>b.get i e
theorem zu.get':∀ {vs:List Value} {ds:List D},zu h X vs ds→∀ (i:Nat) {v:Value},vs[i]? =some v→∃ d,ds[i]? =some d∧Rep h X false v d
 |_,[],r,i,x,e=>zq (r.nilE (M:=fun vs=>vs[i]? =some x→none=some x) id e)
 |_,d::ds,r,i,x,e=>r.consE (M:=fun vs=>vs[i]? =some x→∃ d',(d::ds)[i]? =some d'∧Rep h X false x d') (fun v us a b=>match i with
  |0=>fun e=>⟨d,rfl,sj e▸a⟩
  |i+1=>fun e=>b.get' i e) e
theorem zu.append{us:List Value}{es:List D}:∀ {vs:List Value} {ds:List D},zu h X vs ds→zu h X us es→zu h X (vs++us) (ds++es)
 |_,[],r,r'=>r.nilE (M:=fun vs=>zu h X (vs++us) es) r'
 |_,d::ds,r,r'=>r.consE (M:=fun vs=>zu h X (vs++us) (d::ds++es)) fun z z a b=>.cons a (b.append r')
theorem zu.take:∀ {vs:List Value} {ds:List D},zu h X vs ds→∀ n:Nat,zu h X (vs.take n) (ds.take n)
 |_,_,_,0=>by rw [List.take_zero,List.take_zero];exact .nil
 |_,[],r,n+1=>r.nilE (M:=fun vs=>zu h X (vs.take (n+1)) []) .nil
 |_,d::ds,r,n+1=>r.consE (M:=fun vs=>zu h X (vs.take (n+1)) (d::ds.take n)) fun z z a b=>.cons a (b.take n)
theorem zu.drop:∀ {vs:List Value} {ds:List D},zu h X vs ds→∀ n:Nat,zu h X (vs.drop n) (ds.drop n)
 |_,_,r,0=>by rw [List.drop_zero,List.drop_zero];exact r
 |_,[],r,n+1=>r.nilE (M:=fun vs=>zu h X (vs.drop (n+1)) []) .nil
 |_,d::ds,r,n+1=>r.consE (M:=fun vs=>zu h X (vs.drop (n+1)) (ds.drop n)) fun z z z b=>b.drop n
theorem zu.reverse:∀ {vs:List Value} {ds:List D},zu h X vs ds→zu h X vs.reverse ds.reverse
 |_,[],r=>r.nilE (M:=fun vs=>zu h X vs.reverse []) .nil
 |_,d::ds,r=>r.consE (M:=fun vs=>zu h X vs.reverse (d::ds).reverse) fun v us a b=>by
  rw [reverse_cons,reverse_cons];exact b.reverse.append (.cons a .nil)
theorem zu.of_get:∀ {vs:List Value} {ds:List D},vs.length=ds.length→(∀ (i:Nat) (v:Value) (d:D),vs[i]? =some v→ds[i]? =some d→Rep h X false v d)→zu h X vs ds
 |[],[],_,_=>.nil
 |v::vs,d::ds,hl,hh=>.cons (hh 0 v d rfl rfl) (of_get (Nat.succ.inj hl) fun i=>hh (i+1))
end
end
variable {d:D}{ds es:List D}{s s':Shared}{A:Around}{E:Value→Shared→Prop}{tk:Nat}
section
theorem xT{M:Model}{Γ:Ctx}{p:Pos}{t:Sem Fin}{fs:List Frame}{e:End}(h:Runs M Γ p t fs s e s'):s.heap.objs.size≤s'.heap.objs.size:=by
 induction h<;>(try simp only [Shared.setGen,Heap.size_after_update,size_push] at *)<;>lia
theorem ph{M:Model}{Γ:Ctx}{p:Pos}{r:Result}(h:Returns M Γ p s r s'):s.heap.objs.size≤s'.heap.objs.size:=xT h
theorem zjJ{M:Model}{Γ:Ctx}{p:Pos}{g:Nat}{r:Resume}{res:GenResult}(h:Wakes M Γ p g r s res s'):s.heap.objs.size≤s'.heap.objs.size:=by
 unfold Wakes at h
 split at h
 ·exact h.elim
 ·split at h
  ·(refine X24 h fun e₁ s₁ hr z z z2=>?_;subst z2;try clear h);exact (xT hr:(s.setGen g .running).heap.objs.size≤s₁.heap.objs.size)
  ·rw [h.2];exact le_refl _
  ·rw [h.2];exact le_refl _
 ·(refine X24 h fun e₁ s₁ hr z z z1=>?_;subst z1;try clear h);exact (xT hr:(s.setGen g .running).heap.objs.size≤s₁.heap.objs.size)
 ·rw [h.2];exact le_refl _
 ·rw [h.2];exact le_refl _
theorem zps(M:Model)(Γ:Ctx)(n:Nat)(t:Sem α):∀ (Q:α→Pos→Shared→Prop) (E:Value→Pos→Shared→Prop) (p:Pos) (s:Shared),n≤s.heap.objs.size→Sem.wp M Γ t Q E p s→
  Sem.wp M Γ t (fun a p' s'=>n≤s'.heap.objs.size∧Q a p' s') (fun e p' s'=>n≤s'.heap.objs.size∧E e p' s') p s:=by
 induction t with
 |pure a=>intro Q E p s hn h;exact ⟨hn,h⟩
 |raise e=>intro Q E p s hn h;exact ⟨hn,h⟩
 |unsupported z=>intro Q E p s z h;exact h
 |finish z=>intro Q E p s z h;exact h
 |rule z k ih=>intro Q E p s hn h;exact ih () Q E p s hn h
 | «at» p' k ih=>intro Q E p s hn h;exact ih () Q E p' s hn h
 |load a z k ih=>intro Q E p s hn h;refine X12 h fun o ho h=>?_;exact ⟨o,ho,ih o Q E p s hn h⟩
 |update a z f k ih=>intro Q E p s hn h;exact ⟨h.1,ih () Q E p _ (by rw [Heap.size_after_update];exact hn) h.2⟩
 |loadIfAlive a k ih=>intro Q E p s hn h;exact ih _ Q E p s hn h
 |point z k ih=>intro Q E p s hn h;exact ih () Q E p s hn h
 |register z y=>intro Q E p s z h;exact h
 |alloc o k ih=>intro Q E p s hn h;exact ih _ Q E p _ (by rw [size_push];exact le_succ_of_le ‹_›) h
 |fresh k ih=>intro Q E p s hn h;exact ih _ Q E p _ hn h
 |ask k ih=>intro Q E p s hn h;exact ih _ Q E p s hn h
 |choose src m k ih=>intro Q E p s hn h;exact ⟨h.1,ih _ Q E p _ hn h.2⟩
 |os q z k ih=>intro Q E p s hn h;exact ih _ Q E p _ hn h
 |call c hd z y k ih=>intro Q E p s hn h;refine X22 h fun r s' hr h=>?_;exact ⟨r,s',hr,ih r Q E p s' (le_trans hn (ph hr)) h⟩
 |handled own k ih=>intro Q E p s hn h;exact ih _ Q E p s hn h
 |genState g k ih=>intro Q E p s hn h;refine X12 h fun st hs h=>?_;exact ⟨st,hs,ih _ Q E p s hn h⟩
 |newGen c k ih=>intro Q E p s hn h;exact ih _ Q E p _ hn h
 |resume g r z k ih=>intro Q E p s hn h;refine X22 h fun res s' hw h=>?_;exact ⟨res,s',hw,ih res Q E p s' (le_trans hn (zjJ hw)) h⟩
 |yield z y x v=>intro Q E p s z h;exact h
 |stack k ih=>intro Q E p s hn h;exact ih _ Q E p s hn h
 |fork z y=>intro Q E p s z h;exact h
 |thread k ih=>intro Q E p s hn h;exact ih _ Q E p s hn h
 |await z y x v u=>intro Q E p s z h;exact h
section
variable {M:Model}
theorem qg{t:Sem α}{Q:α→Shared→Prop}(h:wpAny M A t (fun a s'=>s.heap.objs.size≤s'.heap.objs.size→Q a s') E s):wpAny M A t Q E s:=
 fun Γ p hΓ=>Sem.wp_mono M Γ t (fun z z z x=>x.2 x.1) (fun z z z x=>x.2) p s (zps M Γ _ t _ _ p s (le_refl _) (h Γ p hΓ))
end
structure Grow(s s':Shared):Prop where
 keep:∀ b o,(b≠P₀∧b≠cStatics)→s.heap.get? b=some o→s'.heap.get? b=some o
 size:s.heap.objs.size≤s'.heap.objs.size
 cst:∀ o,s.heap.get? cStatics=some o→s'.heap.get? cStatics=some o
 stat:∀ m,s.heap.Ns cStatics m→s'.heap.Ns cStatics m
 os:s'.os=s.os
 gens:AllBare s.gens→AllBare s'.gens
 tab:∀ ps,s.heap.IsCode cc P₀ ps→s.heap.TableAt cc P₀ ps→∃ more,s'.heap.IsCode cc P₀ (ps++more)∧s'.heap.TableAt cc P₀ (ps++more)
theorem Grow.refl(s:Shared):Grow s s:=⟨fun z z z e=>e,le_refl _,fun z e=>e,fun z x=>x,rfl,id,fun ps a b=>⟨#[],by simpa using a,by simpa using b⟩⟩
theorem Grow.trans{s'':Shared}(x:Grow s s')(y:Grow s' s''):Grow s s'':=
 ⟨fun b o n e=>y.keep b o n (x.keep b o n e),le_trans x.size y.size,fun o e=>y.cst o (x.cst o e),fun m z=>y.stat m (x.stat m z),y.os.trans x.os,fun g=>y.gens (x.gens g),fun ps a b=>by
  refine X12 (x.tab ps a b) fun m a' b'=>?_;refine X12 (y.tab _ a' b') fun m' a'' b''=>?_;exact ⟨m++m',by simpa [Array.append_assoc] using a'',by simpa [Array.append_assoc] using b''⟩⟩
theorem Grow.of_keep(k:∀ b o,s.heap.get? b=some o→h'.get? b=some o)(sz:s.heap.objs.size≤h'.objs.size):Grow s { s with heap:=h',toks:=tk }:=
 ⟨fun b o z e=>k b o e,sz,fun o e=>k _ o e,fun z x=>x.keeps k,rfl,id,fun ps a b=>⟨#[],by simpa using a.keeps k,by simpa using b.keeps k⟩⟩
theorem Grow.toks(s:Shared)(tk:Nat):Grow s { s with toks:=tk }:=Grow.of_keep (h':=s.heap) (fun z z e=>e) (le_refl _)
theorem Grow.push(s:Shared)(o:Obj)(tk:Nat):Grow s { s with heap:=s.heap.push o,toks:=tk }:=
 Grow.of_keep (fun z z e=>get?_push_of_some o e) (by rw [size_push];exact le_add_right ..)
section
theorem Grow.moves(g:Grow s s'):pf s.heap X s'.heap X:=⟨fun a o n z e=>g.keep a o n e,fun z z n z=>n⟩
theorem Rep.grow(g:Grow s s')(r:Rep s.heap X t v d):Rep s'.heap X t v d:=Rep.move g.moves (fun z a o n e=>g.keep a o n e) r
theorem zu.grow(g:Grow s s')(r:zu s.heap X vs ds):zu s'.heap X vs ds:=zu.move g.moves r
theorem Rep.addX(hx:∀ a∈X',a∈X∨h.objs.size≤a)(r:Rep h X t v d):Rep h X' t v d:=
 Rep.move ⟨fun z z z z e=>e,fun a o n e m=>(hx a m).elim n fun l=>absurd (lt_size e) (not_lt.mpr l)⟩ (fun z z z z e=>e) r
theorem zu.addX(hx:∀ a∈X',a∈X∨h.objs.size≤a)(r:zu h X vs ds):zu h X' vs ds:=
 zu.move ⟨fun z z z z e=>e,fun a o n e m=>(hx a m).elim n fun l=>absurd (lt_size e) (not_lt.mpr l)⟩ r
theorem Rep.subX(hx:∀ a∈X',a∈X)(r:Rep h X t v d):Rep h X' t v d:=Rep.addX (fun a m=>.inl (hx a m)) r
theorem zu.subX(hx:∀ a∈X',a∈X)(r:zu h X vs ds):zu h X' vs ds:=zu.addX (fun a m=>.inl (hx a m)) r
theorem Rep.upd(k:∀ a o,a∉X→h.get? a=some o→h'.get? a=some o)(r:Rep h X false v d):Rep h' X false v d:=
 Rep.move ⟨fun a o z n e=>k a o n e,fun z z n z=>n⟩ (fun e=>nomatch e) r
theorem zu.upd(k:∀ a o,a∉X→h.get? a=some o→h'.get? a=some o)(r:zu h X vs ds):zu h' X vs ds:=
 zu.move ⟨fun a o z n e=>k a o n e,fun z z n z=>n⟩ r
end
structure kQ(A:Around)(k:Nat):Prop where
 hand:A.handled=none
 depth:A.depth+5 *k<900
 units:A.units+100 *k<9000
theorem kQ.le{A:Around}{k j:Nat}(r:kQ A k)(h:j≤k):kQ A j:=⟨r.hand,by have:=r.depth;lia,by have:=r.units;lia⟩
end
variable {r:D}{n:Nat}{u:Value}{t':Bool}{j i:Tok}
section
structure XOk(X:List Addr)(h:Heap):Prop where
 mem:P₀∈X∧cStatics∈X
 lt:∀ a∈X,a<h.objs.size
 mods:sysModules<h.objs.size
theorem XOk.grow(x:XOk X s.heap)(g:Grow s s'):XOk X s'.heap:=
 ⟨x.mem,fun a m=>lt_of_lt_of_le (x.lt a m) g.size,lt_of_lt_of_le x.mods g.size⟩
theorem XOk.root(x:XOk X h)(ha:h.objs.size≤a)(t:Bool):RootOk X t a:=
 ⟨⟨fun e=>lt_irrefl _ (lt_of_lt_of_le (x.lt _ (e▸x.mem.1)) ha),fun e=>lt_irrefl _ (lt_of_lt_of_le (x.lt _ (e▸x.mem.2)) ha)⟩,fun z m=>lt_irrefl _ (lt_of_lt_of_le (x.lt _ m) ha)⟩
theorem XOk.noMods(x:XOk X h)(ha:h.objs.size≤a):(a==sysModules)=false:=
 beq_eq_false_iff_ne.mpr fun e=>lt_irrefl _ (lt_of_lt_of_le x.mods (e▸ha))
def zj(A:Around)(X:List Addr)(t:Sem Value)(s:Shared)(d:D):Prop:=
 ∀ (Q:Value→Shared→Prop) (E:Value→Shared→Prop),(∀ v s',Grow s s'→Rep s'.heap X false v d→Q v s')→wpAny (model prog w) A t Q E s
section
variable {e:D}
theorem Rep.push(R:Rep s.heap X t v d)(o:Obj):Rep (s.heap.push o) X t v d:=
 Rep.move ⟨fun z z z z e=>get?_push_of_some o e,fun z z n z=>n⟩ (fun z z z z e=>get?_push_of_some o e) R
theorem zu.push(R:zu h X vs ds)(o:Obj):zu (h.push o) X vs ds:=
 zu.move ⟨fun z z z z e=>get?_push_of_some o e,fun z z n z=>n⟩ R
theorem kZ(x:XOk X s.heap){vs:Array Value}(R:zu s.heap X vs.toList ds):
  Rep (s.heap.push { cls:=.type "list",data:=.seq vs n }) X t (.ref s.heap.objs.size) (.list ds):=
 .list (x.root (le_refl _) _) ⟨n,get?_push_size _ rfl⟩ (R.push _)
theorem vA(x:XOk X s.heap){vs:Array Value}(R:zu s.heap X vs.toList ds):
  Rep (s.heap.push { cls:=.type "tuple",data:=.seq vs n }) X t (.ref s.heap.objs.size) (.tup ds):=
 .tup (x.root (le_refl _) _) ⟨n,get?_push_size _ rfl⟩ (R.push _)
theorem q9{i:Int}{m:Sem Value}(h:∀ (Q:Value→Shared→Prop) (E:Value→Shared→Prop),Q (.int i s.toks) { s with toks:=s.toks+1 }→wpAny (model prog w) A m Q E s):zj A X m s (.int i):=
 fun Q E k=>h Q E (k _ _ (Grow.toks ..) (.int _ _ _))
noncomputable def zz:Nat:=100000
noncomputable def zK(i:Int):Bool:=decide (-(2 ^ 62)<i)&&decide (i<2 ^ 62)
noncomputable def zn2(f:Str)(d:D):Option D:=
 match d with
 | .str x=>if f=ofString "{%s}"∧x.length≤zz then some (.str (ofString "{"++x++ofString "}")) else none
 | .tup [.str a,.int i,.str b]=>if f=ofString "%s:%d(%s)"∧a.length≤zz∧b.length≤zz∧0≤i∧i<1000000 then some (.str (a++ofString ":"++ofString (toString i)++ofString "("++b++ofString ")")) else none
 |_=>none
noncomputable def yQ(op:Operator)(a b:D):Option D:=
 match a with
 | .int a=>match b with
  | .int b=>match op with
   | .Add=>some (.int (a+b))
   | .Sub=>some (.int (a - b))
   | .Mult=>if zK a=true then some (.int (a *b)) else none
   | .FloorDiv=>if b≠0∧zK a=true∧zK b=true then some (.int (a.fdiv b)) else none
   | .Mod=>if b≠0 then some (.int (a.fmod b)) else none
   | .Pow=>if a=2∧0≤b∧b≤60 then some (.int (2 ^ b.toNat)) else none
   |_=>none
  |_=>none
 | .str a=>match op with
  | .Add=>match b with
   | .str b=>if a.length+b.length≤zz then some (.str (a++b)) else none
   |_=>none
  | .Mod=>zn2 a b
  |_=>none
 | .list a=>match op with
  | .Add=>match b with
   | .list b=>if a.length+b.length≤zz then some (.list (a++b)) else none
   |_=>none
  | .Mult=>match b with
   | .int b=>if a.length *b.toNat≤zz∧zK b=true then some (.list (replicate b.toNat a).flatten) else none
   |_=>none
  |_=>none
 | .tup a=>match op with
  | .Add=>match b with
   | .tup b=>if a.isEmpty=false∧b.isEmpty=false∧a.length+b.length≤zz then some (.tup (a++b)) else none
   |_=>none
  |_=>none
 |_=>none
set_option tactic.hygienic true in
theorem zjY{a:Int}(h:zK a=true):Builtin.Int.intBits a≤64:=by
 have hn:a.natAbs<2 ^ 62:=by simp [zK] at h;omega
 unfold Builtin.Int.intBits
 split
 ·exact zero_le _
 ·rename_i h0;have:=(log2_lt (n:=a.natAbs) (k:=62) (by simpa using h0)).mpr hn;exact lt_of_lt_of_le ‹_› (by decide)
theorem xk{a b:Int}(h:zK b=true):Builtin.divisionGoesByPylong a b=false:=by
 refine PyProof.noPylong_of_log2 ?_;have hn:b.natAbs<2 ^ 62:=by simp [zK] at h;omega
 by_cases h0:b.natAbs=0
 ·rw [h0];decide+kernel
 ·have:=(log2_lt (n:=b.natAbs) (k:=62) h0).mpr hn;exact lt_of_lt_of_le ‹_› (by decide)
theorem zqn{a b:Int}:zj A X (binaryOp .Add (.int a i) (.int b j)) s (.int (a+b)):=q9 fun z z k=>add_int k
theorem zqr{a b:Int}:zj A X (binaryOp .Sub (.int a i) (.int b j)) s (.int (a - b)):=q9 fun z z k=>sub_int' k
theorem zqs{a b:Int}(h:zK a=true):zj A X (binaryOp .Mult (.int a i) (.int b j)) s (.int (a *b)):=q9 fun z z k=>mul_int k (IntMulOk.of_left (zjY h))
theorem zqt{a b:Int}(h:b≠0):zj A X (binaryOp .Mod (.int a i) (.int b j)) s (.int (a.fmod b)):=q9 fun z z k=>mod_int' h k
theorem zql{a b:Int}(h:b≠0)(hb:zK b=true):zj A X (binaryOp .FloorDiv (.int a i) (.int b j)) s (.int (a.fdiv b)):=
 q9 fun z z k=>floordiv_int h k (.inl (xk hb))
theorem zqc{b:Int}(h:0≤b)(h':b≤60):zj A X (binaryOp .Pow (.int 2 i) (.int b j)) s (.int (2 ^ b.toNat)):=
 q9 fun z z k=>pow_int_small h (by exact Int.le_trans ‹_› (by decide)) (by decide) k
theorem zjK{a:Int}:zj A X (unaryOp .USub (.int a i)) s (.int (-a)):=q9 fun z z k=>neg_int k
theorem zn(h:n≤zz):n≤sizeLine:=by unfold zz at h;unfold sizeLine;exact le_trans ‹_› (by decide)
theorem zqo{a b:Str}(h:a.length+b.length≤zz):zj A X (binaryOp .Add (.str a i) (.str b j)) s (.str (a++b)):=
 fun z z k=>add_str (fun z z=>k _ _ (Grow.toks ..) (.str _ _ _)) (zn h)
theorem zqa(x:XOk X s.heap)(R:Rep s.heap X t v (.list ds))(R':Rep s.heap X t' u (.list es))(h:ds.length+es.length≤zz):
  zj A X (binaryOp .Add v u) s (.list (ds++es)):=
 R.listE (M:=fun v=>zj _ _ (binaryOp _ v u) _ _) fun z z z z i l=>R'.listE (M:=fun u=>zj _ _ (binaryOp _ _ u) _ _) fun z z z z i' l' z z k=>
  PySem.P.add_list i i' (k _ _ (Grow.push ..) (kZ x (by rw [toList_append];exact l.append l'))) (zn (by rw [←l.length, ←l'.length] at h;exact h))
theorem zzc{vs:Array Value}(l:vs.toList.length=ds.length)(h:ds.isEmpty=false):vs.isEmpty=false:=by
 obtain ⟨vs⟩:=vs;cases vs with
 |nil=>cases ds with
  |nil=>cases h
  |cons=>cases l
 |cons=>rfl
theorem zqe(x:XOk X s.heap)(R:Rep s.heap X t v (.tup ds))(R':Rep s.heap X t' u (.tup es))(h:ds.isEmpty=false∧es.isEmpty=false∧ds.length+es.length≤zz):
  zj A X (binaryOp .Add v u) s (.tup (ds++es)):=
 R.tupE (M:=fun v=>zj _ _ (binaryOp _ v u) _ _) fun z z z z i l=>R'.tupE (M:=fun u=>zj _ _ (binaryOp _ _ u) _ _) fun z z z z i' l' z z k=>
  PySem.P.add_tuple i i' (ne_true_of_eq_false (zzc l.length h.1)) (ne_true_of_eq_false (zzc l'.length h.2.1)) (k _ _ (Grow.push ..) (vA x (by rw [toList_append];exact l.append l'))) (zn (by rw [←l.length, ←l'.length] at h;exact h.2.2))
theorem zu.flatten{h:Heap}{vs:List Value}{ds:List D}(R:zu h X vs ds):∀ n:Nat,zu h X (replicate n vs).flatten (replicate n ds).flatten
 |0=>.nil
 |n+1=>by simpa [replicate_succ] using R.append (zu.flatten R n)
theorem pn(items:Array Value):∀ (n:Nat) (acc:Array Value),(foldl (fun x1 x2=>x1++x2) acc (replicate n items)).toList=acc.toList++(replicate n items.toList).flatten
 |0,acc=>by simp
 |n+1,acc=>by rw [replicate_succ,foldl_cons,pn items n];simp [replicate_succ]
theorem jr{k:Int}(h:zK k=true): -(2 ^ 62)<k∧k<2 ^ 62:=by
 unfold zK at h;exact (and_eq_true_iff.mp h).imp of_decide_eq_true of_decide_eq_true
theorem zvc{vs:Array Value}{b:Nat}(l:vs.toList.length=ds.length)(h:ds.length *b≤n):vs.size *b≤n:=by rw [←l] at h;exact h
theorem zvo{vs:Array Value}(n:Nat)(l:zu h X vs.toList ds):zu h X (foldl (fun x1 x2=>x1++x2) #[] (replicate (if vs.isEmpty=true then 0 else n) vs)).toList (replicate n ds).flatten:=by
 have q:=zu.flatten l n;rw [pn];by_cases hv:vs.isEmpty=true
 ·rw [Array.isEmpty_iff.mp hv] at q ⊢
  rwa [show (replicate n (#[]:Array Value).toList).flatten=[] from List.flatten_replicate_nil] at q
 ·rw [if_neg hv];exact q
theorem zqi{b:Int}(x:XOk X s.heap)(R:Rep s.heap X t v (.list ds))(h:ds.length *b.toNat≤zz∧zK b=true):
  zj A X (binaryOp .Mult v (.int b j)) s (.list (replicate b.toNat ds).flatten):=by
 refine R.listE (M:=fun v=>zj _ _ (binaryOp _ v _) _ _) fun a vs n r i l Q E k=>?_;have hb:=jr h.2;have h:=zvc l.length h.1
 refine wpAny_binaryOp_repeat_ref (T:="list") (U:="int") (by decide) ⟨_,i,rfl⟩ (fun s'=>typeIs_int s' b j) noFill_list_mul F.fills_int_mul F.slot_int_rmul repeat_list F.slot_int_index.lookup
  (call_meets F.slot_int_rmul (typeIs_int s b j) F.entry_int_rmul (F.args_int_rmul_2 _ _) (int___rmul___int_list b j _ vs n)
   ⟨i,rfl,⟨_,i,rfl⟩,call_meets F.slot_list_mul ⟨_,i,rfl⟩ F.entry_list_mul (F.args_list_mul_2 _ _)
    (AutoListH.list___mul___list_int_3 _ vs n b j (by simp [Builtin.List.listFitsIndex];lia) ?_ (by simp [Builtin.List.listTooLong,sizeLine];unfold zz at h;exact le_trans ‹_› (by decide)))
    ⟨i,k _ _ (Grow.push ..) (kZ x ?_)⟩⟩)
 ·unfold zz at h;lia
 ·exact zvo _ l
end
end
variable {f y:Str}{l:Addr}
section
section
variable {e:D}
theorem zjX(hy:y.length≤zz):zj A X (binaryOp .Mod (.str (ofString "{%s}") i) (.str y j)) s (.str (ofString "{"++y++ofString "}")):=by
 intro Q E k;refine KPc.mod_str (X':=⟨#[123,37,115,125]⟩) (T:=fun y=>ofString "{"++y++ofString "}") (by decide+kernel) (by unfold zz at hy;exact le_trans ‹_› (by decide)) ?_ (fun t' k'=>k _ _ (Grow.toks ..) (.str _ _ _))
 kpc_run_s
theorem zdD{b:Addr}{o:Obj}(hb:h.get? b=some o):News {} (b+1) h [(b,o)]:=fun p hp=>by
 simp at hp;subst hp;exact ⟨hb,by simp,rfl⟩
set_option maxHeartbeats 4000000 in
theorem zjW{a b:Str}{n:Int}{ua un ub:Tok}(ha:a.length≤100000)(hb:b.length≤100000)(h0:0≤n)(h1:n<10 ^ 10):
  Meets (Builtin.«str.__mod__» ⟨[.str ⟨#[37,115,58,37,100,40,37,115,41]⟩ i,.ref l],[]⟩)
   (fun z R s=>IsTup s.heap l #[.str a ua,.int n un,.str b ub]∧∀ t' k,R (.ok (.ret (.str (a++ofString ":"++ofString (toString n)++ofString "("++b++ofString ")") t'))) { s with toks:=k }):=by
 kpt_run
theorem zjV{a b:Str}{n:Int}(R:Rep s.heap X t v (.tup [.str a,.int n,.str b]))(h:f=ofString "%s:%d(%s)"∧a.length≤zz∧b.length≤zz∧0≤n∧n<1000000):
  zj A X (binaryOp .Mod (.str f i) v) s (.str (a++ofString ":"++ofString (toString n)++ofString "("++b++ofString ")")):=
 R.tupE (M:=fun v=>zj _ _ (binaryOp _ _ v) _ _) fun l vs m u hl L Q E k=>by
  have L:∃ x y z,vs= #[.str a x,.int n y,.str b z]:=L.consE (M:=fun l=>∀ vs:Array Value,vs.toList=l→∃ x y z,vs= #[.str a x,.int n y,.str b z]) (fun u u ra L=>L.consE (M:=fun l=>∀ vs:Array Value,vs.toList=_::l→∃ x y z,vs= #[.str a x,.int n y,.str b z]) fun u u rb L=>
   L.oneE (M:=fun l=>∀ vs:Array Value,vs.toList=_::_::l→∃ x y z,vs= #[.str a x,.int n y,.str b z]) fun u rc=>ra.strE (M:=fun v=>∀ vs:Array Value,vs.toList=[v,_,_]→∃ x y z,vs= #[.str a x,.int n y,.str b z]) fun x=>rb.intE (M:=fun v=>∀ vs:Array Value,vs.toList=[_,v,_]→∃ x y z,vs= #[.str a x,.int n y,.str b z]) fun y=>
   rc.strE (M:=fun v=>∀ vs:Array Value,vs.toList=[_,_,v]→∃ x y z,vs= #[.str a x,.int n y,.str b z]) fun z vs e=>⟨x,y,z,Array.toList_inj.mp e⟩) vs rfl
  (refine X31 L fun x y z e=>?_;try clear L)
  rw [e] at hl;rw [h.1];exact KPt.mod_tuple (zdD hl) (mem_singleton.mpr rfl) (by decide+kernel) (zjW h.2.1 h.2.2.1 h.2.2.2.1 (lt_trans h.2.2.2.2 (by decide))) (fun t' k'=>k _ _ (Grow.toks ..) (.str _ _ _))
theorem zjU{op:Operator}{a b:Int}(h:yQ op (.int a) (.int b)=some r):zj A X (binaryOp op (.int a i) (.int b j)) s r:=by
 cases op with
 |Add=>exact sj h▸zqn
 |Sub=>exact sj h▸zqr
 |Mult=>have h:=zk h;exact sj h.2▸zqs h.1
 |FloorDiv=>have h:=zk h;exact sj h.2▸zql h.1.1 h.1.2.2
 |Mod=>have h:=zk h;exact sj h.2▸zqt h.1
 |Pow=>have h:=zk h;rw [h.1.1];exact sj h.2▸zqc h.1.2.1 h.1.2.2
 |_=>exact zq h
theorem zva(h:zn2 f d=some r):(∃ x,d= .str x∧(f=ofString "{%s}"∧x.length≤zz)∧r= .str (ofString "{"++x++ofString "}"))∨
  ∃ a i b,d= .tup [.str a,.int i,.str b]∧(f=ofString "%s:%d(%s)"∧a.length≤zz∧b.length≤zz∧0≤i∧i<1000000)∧r= .str (a++ofString ":"++ofString (toString i)++ofString "("++b++ofString ")"):=by
 cases d with
 |str x=>have h:=zk h;exact .inl ⟨x,rfl,h.1,(sj h.2).symm⟩
 |tup ds=>match ds,h with
  |[.str a,.int i,.str b],h=>have h:=zk h;exact .inr ⟨a,i,b,rfl,h.1,(sj h.2).symm⟩
 |_=>exact zq h
theorem zyN{op:Operator}(x:XOk X s.heap)(Ra:Rep s.heap X t v d)(Rb:Rep s.heap X t' u e)(h:yQ op d e=some r):zj A X (binaryOp op v u) s r:=by
 cases d with
 |int a=>cases e with
  |int b=>exact Ra.intE (M:=fun v=>zj _ _ (binaryOp _ v _) _ _) fun z=>Rb.intE (M:=fun v=>zj _ _ (binaryOp _ _ v) _ _) fun z=>zjU h
  |_=>exact zq h
 |str a=>cases op with
  |Add=>cases e with
   |str b=>have h:=zk h;exact sj h.2▸Ra.strE (M:=fun v=>zj _ _ (binaryOp _ v _) _ _) fun z=>Rb.strE (M:=fun v=>zj _ _ (binaryOp _ _ v) _ _) fun z=>zqo h.1
   |_=>exact zq h
  |Mod=>
   refine Ra.strE (M:=fun v=>zj _ _ (binaryOp _ v _) _ _) fun z=>?_;rcases zva h with ⟨x,h1,h2,h3⟩|⟨a,i,b,h1,h2,h3⟩
   ·rw [h1] at Rb;rw [h3,h2.1];exact Rb.strE (M:=fun v=>zj _ _ (binaryOp _ _ v) _ _) fun z=>zjX h2.2
   ·rw [h1] at Rb;rw [h3];exact zjV Rb h2
  |_=>exact zq h
 |list a=>cases op with
  |Add=>cases e with
   |list b=>have h:=zk h;exact sj h.2▸zqa x Ra Rb h.1
   |_=>exact zq h
  |Mult=>cases e with
   |int b=>have h:=zk h;exact sj h.2▸Rb.intE (M:=fun v=>zj _ _ (binaryOp _ _ v) _ _) fun z=>zqi x Ra h.1
   |_=>exact zq h
  |_=>exact zq h
 |tup a=>cases op with
  |Add=>cases e with
   |tup b=>have h:=zk h;exact sj h.2▸zqe x Ra Rb h.1
   |_=>exact zq h
  |_=>exact zq h
 |_=>exact zq h
end
end
variable {x:Str}{Q:Value→Shared→Prop}{value:Expr}{items:Array Value}
section
open PySem.Builtin.Str
section
variable {e:D}
noncomputable def cut{α:Type}(xs:List α)(lo hi:Option Int):List α:=
 (xs.drop (lo.elim 0 (clipAt xs.length))).take (hi.elim xs.length (clipAt xs.length) - lo.elim 0 (clipAt xs.length))
noncomputable def jU(d:D)(lo hi st:Option Int):Option D:=
 match d with
 | .list ds=>match st with
  |none=>if ds.length≤zz then some (.list (cut ds lo hi)) else none
  |some k=>if ds.length≤zz∧k= -1∧lo=none∧hi=none then some (.list ds.reverse) else none
 | .str x=>match st with
  |none=>if x.length≤zz then some (.str ⟨(cut x.cps.toList lo hi).toArray⟩) else none
  |some z=>none
 | .tup ds=>match st with
  |none=>match lo with
   |none=>match hi with
    |some b=>if 1≤b∧b.toNat<ds.length∧ds.length≤zz then some (.tup (ds.take b.toNat)) else none
    |none=>none
   |some z=>none
  |some z=>none
 |_=>none
theorem zu.cut(R:zu h X vs ds)(lo hi:Option Int):zu h X (Mine.Internal.cut vs lo hi) (Mine.Internal.cut ds lo hi):=by
 unfold Mine.Internal.cut;rw [R.length];exact (R.drop _).take _
theorem pr{T sl:Addr}{b:Nat}(ht:IsTup s.heap T items)(hs:s.heap.IsSliceOf sl .none (.int b j) .none)(hb:b<items.size)
  (hsz:items.size≤sizeLine)(h:Q (.ref s.heap.objs.size) { s with heap:=s.heap.push { cls:=.type "tuple",data:=.seq (items.toList.take b).toArray } }):
  wpAny (model prog w) A (getItem (.ref T) (.ref sl)) Q E s:=by
 have hok:sizeOk (.seq (items.toList.take b).toArray):=by
  show (items.toList.take b).toArray.size≤sizeLine
  simp;lia
 refine X13 (id hs) fun os hos hcs hds=>?_;have hTs:s.TypeIs (.ref sl) "slice":=⟨os,hos,hcs⟩
 have happ:∀ {Q':Int × Int × Nat→Shared→Prop},Q' (0,1,b) s→wpAny (model prog w) A.in1 (Builtin.Slice.sliceApplied (.ref sl) (pure (items.size:Int))) Q' E s:=by
  intro Q' hq;unfold Builtin.Slice.sliceApplied Builtin.Slice.sliceFields;refine wpAny_bind (wpAny_bind (wpAny_field hos hds (x:=.none) rfl (wpAny_bind (wpAny_field hos hds (x:=.int b j) rfl (wpAny_bind (wpAny_field hos hds (x:=.none) rfl (wpAny_pure ?_)))))));refine wpAny_bind (slicePart_none ?_)
  show wpAny _ _ (if ((1:Int)==0)=true then _ else _) _ _ s
  rw [if_neg (by decide)];refine wpAny_bind (slicePart_none (wpAny_bind (slicePart_int (wpAny_bind (wpAny_pure ?_)))))
  show wpAny _ _ (match Builtin.Slice.sliceAdjust none (some (b:Int)) 1 (items.size:Int) with|(lo,hi)=>pure (lo,(1:Int),Builtin.Slice.slicePlaces lo hi 1)) _ _ s
  have e1:Builtin.Slice.sliceAdjust none (some (b:Int)) 1 (items.size:Int)=(0,(b:Int)):=by
   unfold Builtin.Slice.sliceAdjust;have h1:¬ ((1:Int)<0):=by decide
   have h2:¬ ((b:Int)<0):=by simp
   simp only [h1,h2,if_false]
   congr 1
   lia
  have e2:Builtin.Slice.slicePlaces 0 (b:Int) 1=b:=by
   unfold Builtin.Slice.slicePlaces;have h1:(1:Int)>0:=by exact Int.le_refl _
   simp only [h1,if_true,Int.ediv_one]
   split<;>lia
  rw [e1]
  show wpAny _ _ (pure ((0:Int),(1:Int),Builtin.Slice.slicePlaces 0 (b:Int) 1)) _ _ s
  rw [e2];exact wpAny_pure hq
 have hpick:((List.range b).filterMap fun (k:Nat)=>items[((0:Int)+(k:Int) *1).toNat]?).toArray=(items.toList.take b).toArray:=by
  have e:(fun (k:Nat)=>items[((0:Int)+(k:Int) *1).toNat]?)=fun k=>items[k]? :=by
   funext k
   have:((0:Int)+(k:Int) *1).toNat=k:=by simp
   rw [this]
  rw [e];have:=pick_run items 0 b
  simpa using this
 unfold getItem
 try with_reducible refine wpAny_holding ?_
 first|refine wpAny_bind (wpAny_pure ?_)|skip
 refine wpAny_bind (wpAny_sequenceKey ht.typeIs (by decide) ?_)
 refine wpAny_bind (wpAny_callSpecial?_slot (name:=ofString "__getitem__") ht.typeIs slot_tuple_getitem
  (wpAny_call_entry slot_tuple_getitem ht.typeIs entry_tuple_getitem ?_ (args_tuple_getitem _ _)))
 show wpAny _ _ (Builtin.Tuple.tupleItemsOf (.ref T) >>= _) _ _ s
 refine wpAny_bind (tupleItemsOf_ ht ?_);refine wpAny_bind (wpAny_typeOf hTs ?_);rw [if_pos (by decide)];refine wpAny_bind (happ ?_)
 have hno:¬ (((0:Int)==0&&(1:Int)==1&&b==items.size)=true):=by
  have:(b==items.size)=false:=by rw [beq_eq_false_iff_ne];exact ne_of_lt ‹_›
  rw [this];simp
 show wpAny _ _ (if ((0:Int)==0&&(1:Int)==1&&b==items.size)=true then _ else _) _ _ s
 rw [if_neg hno,hpick]
 first
  |exact wpAny_bind (m:=Builtin.Tuple.tupleExact _) (wpAny_newObj_type (wpAny_pure ⟨_,rfl,wpAny_pure h⟩) hok)
  |exact wpAny_bind (m:=Builtin.Tuple.tupleExact _) (wpAny_newObj_type (wpAny_bind (wpAny_pure (wpAny_pure ⟨_,rfl,wpAny_pure h⟩))) hok)
  |exact wpAny_bind (wpAny_bind (m:=Builtin.Tuple.tupleExact _) (wpAny_newObj_type (wpAny_pure (wpAny_pure ⟨_,rfl,wpAny_pure h⟩)) hok))
  |exact wpAny_bind (wpAny_bind (m:=Builtin.Tuple.tupleExact _) (wpAny_newObj_type (wpAny_pure ⟨_,rfl,wpAny_pure h⟩) hok))
theorem wA(slice:Expr)(o i:Value):∃ ops,subscripted slice false o i=operate ops (getItem o i):=by
 cases slice with
 |Slice z y st=>cases st<;>exact ⟨_,rfl⟩
 |_=>exact ⟨_,rfl⟩
theorem qk{slice:Expr}{o i:Value}{T id:String}(hT:s.TypeIs o T)(hl:typeLookup (.type T) (ofString "__getitem__")=pure (some (.builtin id)))(g:zj A X (getItem o i) s r):
  zj A X (subscriptTail value slice o i) s r:=fun Q E k=>by
 refine X11 (wA slice o i) fun ops he=>?_;exact tail_any hT hl (g Q E k) he
noncomputable def kJ:D→Option (Option Int)
 | .none=>some none
 | .int i=>if zK i=true then some (some i) else none
 |_=>none
theorem zyR{p:Option Int}(R:Rep h X t v d)(e:kJ d=some p):∃ q:Option (Int × Tok),v=partValue q∧q.map (fun z=>z.1)=p:=by
 cases d with
 |none=>exact ⟨none,R.inv,sj e⟩
 |int i=>exact R.intE (M:=fun v=>∃ q:Option (Int × Tok),v=partValue q∧q.map (fun z=>z.1)=p) fun j=>⟨some (i,j),rfl,sj (zk e).2⟩
 |_=>exact zq e
theorem zq0:∀ q:Option (Int × Tok),IsPart (partValue q) (q.map (fun z=>z.1))
 |none=>.none
 |some z=>.int _ _
theorem zg2(n:Nat)(lo hi:Option Int):strSliceIndices lo hi 1 n=(List.range (hi.elim n (clipAt n) - lo.elim 0 (clipAt n))).map (lo.elim 0 (clipAt n)+ ·):=by
 rw [←sliceRange_one];have:=sliceBounds_plain lo hi n;unfold strSliceIndices;cases lo<;>cases hi<;>simp [clipAt_cast]
theorem zdF(x:Str)(lo hi:Option Int):((strSliceIndices lo hi 1 x.length).filterMap (x.cps[·]?)).toArray=(cut x.cps.toList lo hi).toArray:=by
 rw [zg2,pick_run];rfl
theorem zpt:∀ hi:Option Int,hi.elim n (clipAt n)≤n
 |none=>le_refl _
 |some i=>by show clipAt n i≤n;simp [clipAt];omega
theorem zyS{l:List α}{a b:Nat}(hb:b≤l.length)(h:b - a=l.length):(l.drop a).take (b - a)=l:=by
 rw [h];have:a=0∨l.length=0:=by lia
 rcases this with rfl|q
 ·exact take_length
 ·rw [List.eq_nil_of_length_eq_zero q];simp
theorem po(x:Str)(lo hi:Option Int)(h:(strSliceIndices lo hi 1 x.length).length=x.length):(⟨(cut x.cps.toList lo hi).toArray⟩:Str)=x:=by
 rw [zg2,length_map,length_range] at h;exact congrArg Str.mk ((congrArg toArray (zyS (zpt hi) h)).trans (toArray_toList ..))
section
variable {slice:Expr} {ql qu qs:Option (Int × Tok)}
theorem vr(x:XOk X s.heap)(R:Rep s.heap X t v (.list ds))(hs:s.heap.IsSliceOf a (partValue ql) (partValue qu) (partValue qs))(h:ds.length≤zz)
  (hk:qs.map (fun z=>z.1)≠some 0)(hr:∀ vs:Array Value,zu s.heap X vs.toList ds→zu s.heap X (slicePick vs (ql.map (fun z=>z.1)) (qu.map (fun z=>z.1)) (qs.map (fun z=>z.1))).toList es):zj A X (subscriptTail value slice v (.ref a)) s (.list es):=
 R.listE (M:=fun v=>zj _ _ (subscriptTail _ _ v _) _ _) fun z z z z i L=>qk (T:="list") ⟨_,i,rfl⟩ list_getitem_lookup fun z z k=>
  wpAny_getItem_list_slice ⟨_,i,rfl,_,rfl⟩ hs (zq0 _) (zq0 _) (zq0 _) hk (k _ _ (Grow.push ..) (kZ x (hr _ L))) (zn (by rw [←L.length] at h;exact h))
theorem zjG{lo hi:Option Int}{vs:Array Value}(L:zu h X vs.toList ds):zu h X (slicePick vs lo hi none).toList (cut ds lo hi):=by
 rw [slicePick_plain];exact L.cut lo hi
theorem zyT{vs:Array Value}(L:zu h X vs.toList ds):zu h X (slicePick vs none none (some (-1))).toList ds.reverse:=by
 rw [krv_pick];exact L.reverse
set_option tactic.hygienic true in
theorem zyL(R:Rep s.heap X t v (.str x))(hs:s.heap.IsSliceOf a (partValue ql) (partValue qu) .none)(h:x.length≤zz):
  zj A X (subscriptTail value slice v (.ref a)) s (.str ⟨(cut x.cps.toList (ql.map (fun z=>z.1)) (qu.map (fun z=>z.1))).toArray⟩):=
 R.strE (M:=fun v=>zj _ _ (subscriptTail _ _ v _) _ _) fun _=>qk (T:="str") (typeIs_str s _ _) PyProof.Rows.slot_str_getitem.lookup fun Q E k=>by
  refine wpAny_getItem_str_slice (l:=ql) (u:=qu) (st:=none) hs (by rfl) ?_;have hp:slicePicked x ql qu none=strSliceIndices (ql.map (fun z=>z.1)) (qu.map (fun z=>z.1)) 1 x.length:=rfl;unfold sliceMade
  split
  ·rename_i hw;rw [hp] at hw;refine k _ _ (Grow.refl ..) ?_;rw [po x _ _ (beq_iff_eq.mp hw)];exact .str _ _ _
  ·rw [hp,zdF];exact ⟨zn (le_trans (le_trans (List.length_take_le' ..) (by rw [length_drop];exact sub_le ..)) h),k _ _ (Grow.toks ..) (.str _ _ _)⟩
theorem zyC{b:Int}(x:XOk X s.heap)(R:Rep s.heap X t v (.tup ds))(hs:s.heap.IsSliceOf a .none (.int b j) .none)(h:1≤b∧b.toNat<ds.length∧ds.length≤zz):
  zj A X (subscriptTail value slice v (.ref a)) s (.tup (ds.take b.toNat)):=
 R.tupE (M:=fun v=>zj _ _ (subscriptTail _ _ v _) _ _) fun z vs z z i L=>qk (T:="tuple") ⟨_,i,rfl⟩ PyProof.Rows.slot_tuple_getitem.lookup fun Q E k=>by
  have hb:(b:Int)=((b.toNat:Nat):Int):=(toNat_of_nonneg (Int.le_trans (by decide) h.1)).symm;rw [hb] at hs;have hl:vs.size=ds.length:=L.length;exact pr (b:=b.toNat) ⟨_,i,rfl,_,rfl⟩ hs (hl▸h.2.1) (hl▸zn h.2.2) (k _ _ (Grow.push ..) (vA x (L.take b.toNat)))
end
theorem zq1{slice:Expr}{vl vu vs:Value}{dl du ds:D}{lo hi st:Option Int}(x:XOk X s.heap)(R:Rep s.heap X t v d)(hs:s.heap.IsSliceOf a vl vu vs)
  {t1 t2 t3:Bool}(rl:Rep s.heap X t1 vl dl)(ru:Rep s.heap X t2 vu du)(rs:Rep s.heap X t3 vs ds)(el:kJ dl=some lo)(eu:kJ du=some hi)(es:kJ ds=some st)
  (h:jU d lo hi st=some r):zj A X (subscriptTail value slice v (.ref a)) s r:=by
 (refine X12 (zyR rl el) fun ql z9 z10=>?_;subst z9;subst z10)
 (refine X12 (zyR ru eu) fun qu z7 z8=>?_;subst z7;subst z8)
 (refine X12 (zyR rs es) fun qs z5 z6=>?_;subst z5;subst z6)
 clear rl ru rs el eu es;cases d with
 |list ds=>cases qs with
  |none=>have h:=zk h;exact sj h.2▸vr (qs:=none) x R hs h.1 (fun e=>nomatch e) fun z L=>zjG L
  |some k=>
   have h:=zk h;obtain ⟨⟨h1,h2,h3,h4⟩,h5⟩:=h;refine sj h5▸vr (qs:=some k) x R hs h1 (fun e=>?_) fun z L=>?_
   ·have e:some k.1=some 0:=e;rw [show k.1= -1 from h2] at e;cases e
   ·show zu _ _ (slicePick _ _ _ (some k.1)).toList _
    rw [h3,h4,show k.1= -1 from h2];exact zyT L
 |str x=>cases qs with
  |none=>have h:=zk h;exact sj h.2▸zyL R hs h.1
  |some z=>exact zq h
 |tup ds=>cases qs with
  |none=>cases ql with
   |none=>cases qu with
    |some b=>have h:=zk h;exact sj h.2▸zyC x R hs h.1
    |none=>exact zq h
   |some z=>exact zq h
  |some z=>exact zq h
 |_=>exact zq h
end
end
variable {kvs:List (Str × Value)}
section
open PySem.SeqAt
noncomputable def yZ(f:D→D→Option Bool):List D→List D→Option Bool
 |[],[]=>some true
 |x::xs,y::ys=>(f x y).bind fun b=>(yZ f xs ys).bind fun c=>some (b&&c)
 |_,_=>none
noncomputable def zd{K:Type}[DecidableEq K](ds:List (K × D))(k:K):Option D:=(ds.find? fun kv=>kv.1=k).map (fun z=>z.2)
noncomputable def wI(f:D→D→Option Bool)(es:List (Str × D)):List (Str × D)→Option Bool
 |[]=>some true
 |(k,d)::r=>match zd es k with
  |none=>some false
  |some e=>(f d e).bind fun b=>(wI f es r).bind fun c=>some (b&&c)
noncomputable def eqD:Nat→D→D→Option Bool
 |0,_,_=>none
 |n+1,d,e=>match d with
  | .none=>match e with
   | .none=>some true
   |_=>none
  | .bool a=>match e with
   | .bool b=>some (a==b)
   |_=>none
  | .int a=>match e with
   | .int b=>some (a==b)
   |_=>none
  | .str a=>match e with
   | .str b=>some (a==b)
   |_=>none
  | .list a=>match e with
   | .list b=>if a.length=b.length then yZ (eqD n) a b else some false
   |_=>none
  | .tup a=>match e with
   | .tup b=>if a.length=b.length then yZ (eqD n) a b else none
   |_=>none
  | .dS a=>match e with
   | .dS b=>if a.length=b.length then wI (eqD n) b a else some false
   |_=>none
  |_=>none
theorem xQ{M:D→D→Bool→Prop}(h0:M .none .none true)(h1:∀ x y,M (.bool x) (.bool y) (x==y))(h2:∀ x y,M (.int x) (.int y) (x==y))(h3:∀ x y,M (.str x) (.str y) (x==y))
  (h4:∀ x y b,(if x.length=y.length then yZ (eqD n) x y else some false)=some b→M (.list x) (.list y) b)(h5:∀ x y b,x.length=y.length→yZ (eqD n) x y=some b→M (.tup x) (.tup y) b)
  (h6:∀ x y b,(if x.length=y.length then wI (eqD n) y x else some false)=some b→M (.dS x) (.dS y) b):∀ {d e:D} {b:Bool},eqD (n+1) d e=some b→M d e b:=by
 intro d e b h;cases d with
 |none=>cases e with
  |none=>exact sj h▸h0
  |_=>exact zq h
 |bool a=>cases e with
  |bool=>exact sj h▸h1 _ _
  |_=>exact zq h
 |int a=>cases e with
  |int=>exact sj h▸h2 _ _
  |_=>exact zq h
 |str a=>cases e with
  |str=>exact sj h▸h3 _ _
  |_=>exact zq h
 |list a=>cases e with
  |list=>exact h4 _ _ _ h
  |_=>exact zq h
 |tup a=>cases e with
  |tup=>have h:=zk h;exact h5 _ _ _ h.1 h.2
  |_=>exact zq h
 |dS a=>cases e with
  |dS=>exact h6 _ _ _ h
  |_=>exact zq h
 |_=>exact zq h
theorem jG{f:D→D→Option Bool}:∀ {xs ys:List D} {b:Bool},yZ f xs ys=some b→xs.length=ys.length∧∃ e:Nat→Bool,(∀ (j:Nat) (x y:D),xs[j]? =some x→ys[j]? =some y→f x y=some (e j))∧b=(List.range xs.length).all e
 |[],[],b,h=>by cases h;exact ⟨rfl,fun z=>true,by simp,by simp⟩
 |x::xs,y::ys,b,h=>by
  refine X12 (bind_some h) fun b1 h1 h=>X12 (bind_some h) fun c h2 h3=>?_;obtain ⟨hl,e,he,hb⟩:=jG h2;cases h3;refine ⟨congrArg Nat.succ hl,fun j=>match j with|0=>b1|j+1=>e j,?_,?_⟩
  ·intro j x' y' e1 e2;cases j with
   |zero=>simp at e1 e2;subst e1 e2;exact h1
   |succ j=>simp at e1 e2;exact he j x' y' e1 e2
  ·rw [length_cons,List.range_succ_eq_map,all_cons,hb,all_map];rfl
 |[],_::_,_,h=>zq h
 |_::_,[],_,h=>zq h
section
set_option backward.match.sparseCases true in
theorem zyO{prog:Program}{w:World}{d:Addr}{o:Obj}{es:Array DictEntry}{ep:Nat}{t:Tok}{hs:Int}{Q:Option Nat→Shared→Prop}(ho:s.heap.get? d=some o)(hd:o.data= .dict es ep)
  (hk:StrKeys es)(hq:Q (es.findIdx? fun e=>e.key.isStr x) s):wpAny (model prog w) A (dictFind d (.str x t) hs) Q E s:=by
 have hall:(es.all fun e=>isExactStrKey e.key)=true:=by
  rw [Array.all_eq_true];intro i hi;refine X21 (hk es[i] (getElem_mem hi)) fun n t e=>?_;rw [e];rfl
 unfold dictFind
 try with_reducible refine wpAny_holding ?_
 refine wpAny_bind (wpAny_dictEntries ho hd ?_);dsimp only;rw [if_pos hall];unfold foundByValue
 have main:wpAny (model prog w) A (do
   let some i:=es.findIdx? (·.key.isStr x)|return none
   let some e:=es[i]? |return none
   let before ←dictEpoch d (keyPart (.str x t))
   let same ←eqBool e.key (.str x t)
   if (←dictEpoch d (keyPart (.str x t))) !=before then unsupported "dict.changed-during-lookup"
   if same then rule "dict.find.hit";return some i
   unsupported "internal:dict.find:equal-strs-compare-unequal") Q E s:=by
  cases hj:es.findIdx? (·.key.isStr x) with
  |none=>rw [hj] at hq;exact wpAny_pure hq
  |some j=>
   rw [hj] at hq;refine X12 (Array.findIdx?_eq_some_iff_getElem.mp hj) fun hlt hp z=>?_;dsimp only;rw [Array.getElem?_eq_getElem hlt];dsimp only;refine X21 (hk es[j] (getElem_mem hlt)) fun n u e=>?_;rw [e] at hp ⊢;have hnx:n=x:=by simpa [Value.isStr] using hp
   subst hnx;refine wpAny_bind (wpAny_dictEpoch ho hd ?_);refine wpAny_bind (EqAt.str_str n u n t prog w _ _ ?_);refine wpAny_bind (wpAny_dictEpoch ho hd ?_);rw [if_neg (by simp)]
   first
    |(rw [if_pos (by simp)];exact wpAny_bind (wpAny_rule (wpAny_pure hq)))
    |(refine wpAny_bind (wpAny_pure ?_);rw [if_pos (by simp)];exact wpAny_bind (wpAny_rule (wpAny_pure hq)))
    |(simp only [beq_self_eq_true,if_true];exact wpAny_bind (wpAny_rule (wpAny_pure hq)))
 first
  |exact main
  |exact wpAny_bind main
  |exact wpAny_bind (wpAny_mono main (fun z z h=>wpAny_pure h) fun z z h=>h)
inductive zyP(A:Around)(s:Shared)(kb:Str→Option Value):List (Str × Value)→Bool→Prop
 |nil:zyP A s kb [] true
 |miss {k:Str} {v:Value} {r:List (Str × Value)}:kb k=none→zyP A s kb ((k,v)::r) false
 |hit {k:Str} {v y:Value} {r:List (Str × Value)} {e b:Bool}:kb k=some y→EqAt A s v y e→zyP A s kb r b→zyP A s kb ((k,v)::r) (e&&b)
theorem zyP.inv{kb:Str→Option Value}{k:Str}{r:List (Str × Value)}(h:zyP A s kb ((k,v)::r) b):
  (kb k=none∧b=false)∨∃ y e b',kb k=some y∧EqAt A s v y e∧zyP A s kb r b'∧b=(e&&b'):=by
 cases h with
 |miss hn=>exact .inl ⟨hn,rfl⟩
 |hit hy he hr=>exact .inr ⟨_,_,_,hy,he,hr,rfl⟩
theorem ye{prog:Program}{w:World}{nm:String}{b:Addr}{oa ob:Obj}{es es':Array DictEntry}{ep ep':Nat}{ka:List (Str × Value)}{r:Bool}{Q:Bool→Shared→Prop}(ha:(a==sysModules)=false)(hb:(b==sysModules)=false)
  (hoa:s.heap.get? a=some oa)(hda:oa.data= .dict es ep)(hob:s.heap.get? b=some ob)(hdb:ob.data= .dict es' ep')(hkb:StrKeys es')
  (hka:∀ i (h:i<es.size),∃ k u,es[i].key= .str k u∧ka[i]? =some (k,es[i].val))(hla:ka.length=es.size)
  (hits:es.size=es'.size→zyP A s (nsFind es') ka r)(h:Q (es.size==es'.size&&r) s):
  wpAny (model prog w) A (Builtin.Dict.samePairs nm a b) Q E s:=by
 unfold Builtin.Dict.samePairs Builtin.Dict.showsAll;rw [if_neg (show ¬ (a==sysModules)=true by rw [ha];exact Bool.false_ne_true),if_neg (show ¬ (b==sysModules)=true by rw [hb];exact Bool.false_ne_true)];refine wpAny_bind (wpAny_pure (wpAny_bind (wpAny_pure ?_)));refine wpAny_bind (wpAny_dictEntries hoa hda ?_);dsimp only;refine wpAny_bind (wpAny_dictEntries hob hdb ?_);by_cases hsz:es.size=es'.size
 case neg=>
  rw [if_pos (by simpa using hsz)];have hbf:(es.size==es'.size)=false:=by simpa using hsz
  rw [hbf,Bool.false_and] at h;exact wpAny_bind (wpAny_rule (wpAny_pure h))
 case pos=>
  have h':Q r s:=by simpa [hsz] using h
  have hits':=hits hsz;rw [if_neg (by rw [hsz];simp)];refine wpAny_bind (wpAny_dictEpoch hoa hda ?_);refine wpAny_bind ?_;rw [Std.Legacy.Range.forIn_eq_forIn_range'];simp only [Std.Legacy.Range.size,Nat.sub_zero,Nat.add_sub_cancel,Nat.div_one]
  refine wpAny_forIn_list _
   (fun rest q s'=>s'=s∧q=(none,())∧∃ i,rest=range' i (es.size - i)∧i≤es.size∧zyP A s (nsFind es') (ka.drop i) r)
   _ ?_ ?_ _ _ ⟨rfl,rfl,0,by simp,zero_le _,hits'⟩
  ·rintro x rest q s' ⟨rfl,rfl,i,hr,hi,hpre⟩
   have hlt:i<es.size:=by
    rcases lt_or_ge i es.size with h|h
    ·exact h
    ·rw [Nat.sub_eq_zero_of_le h] at hr;simp at hr
   obtain ⟨rfl,hrest⟩:x=i∧rest=range' (i+1) (es.size - (i+1)):=by
    have e:es.size - i=(es.size - (i+1))+1:=by lia
    rw [e,List.range'_succ] at hr;injection hr with h1 h2
    exact ⟨h1,h2⟩
   refine wpAny_bind (wpAny_dictEntries hoa hda ?_);rw [Array.getElem?_eq_getElem hlt];refine X22 (hka x hlt) fun k u hkey hkv=>?_
   have hdrop:ka.drop x=(k,es[x].val)::ka.drop (x+1):=by
    have hx:x<ka.length:=by lia
    rw [List.drop_eq_getElem_cons hx];rw [getElem?_eq_getElem hx] at hkv;injection hkv with hkv
    rw [hkv]
   rw [hdrop] at hpre
   show wpAny _ _ (holding [es[x].key,es[x].val] _ >>= _) _ _ _
   rw [hkey];refine wpAny_bind (wpAny_holding (wpAny_bind (zyO hob hdb hkb ?_)));have hf:nsFind es' k=match es'.findIdx? fun e=>e.key.isStr k with|some i=>es'[i]?.map (·.val)|none=>none:=findBy_of_findIdx? _ _ _
   cases hj:es'.findIdx? fun e=>e.key.isStr k with
   |none=>
    rw [hj] at hf;rcases hpre.inv with ⟨_,er⟩|⟨y,_,_,hy,_⟩
    ·rw [er] at h';refine wpAny_pure ?_
     show wpAny _ _ (if (!false)=true then _ else _) _ _ _
     rw [if_pos (by decide)];exact wpAny_pure (wpAny_pure h')
    ·rw [hf] at hy;exact nomatch hy
   |some j=>
    refine X12 (Array.findIdx?_eq_some_iff_getElem.mp hj) fun hjlt z z=>?_;rw [hj] at hf;simp only [Array.getElem?_eq_getElem hjlt,Option.map_some] at hf;refine wpAny_bind (wpAny_dictEntries hob hdb ?_);rw [Array.getElem?_eq_getElem hjlt];rcases hpre.inv with ⟨hn,_⟩|⟨y,e,b',hy,he,hrr,er⟩
    ·rw [hf] at hn;exact nomatch hn
    ·have ey:es'[j].val=y:=sj (hf.symm.trans hy);rw [←ey] at he;refine wpAny_holding (he prog w _ _ ?_);cases e with
     |false=>
      rw [er,Bool.false_and] at h'
      show wpAny _ _ (if (!false)=true then _ else _) _ _ _
      rw [if_pos (by decide)];exact wpAny_pure (wpAny_pure h')
     |true=>
      rw [Bool.true_and] at er;rw [←er] at hrr
      show wpAny _ _ (if (!true)=true then _ else _) _ _ _
      rw [if_neg (by decide)];refine wpAny_bind (wpAny_dictEpoch hoa hda ?_);rw [if_neg (by simp)];exact wpAny_pure ⟨rfl,rfl,x+1,hrest,hlt,hrr⟩
  ·rintro q s' ⟨rfl,rfl,i,hr,hi,hpre⟩
   have hin:i=es.size:=by
    rcases lt_or_ge i es.size with h|h
    ·have e:es.size - i=(es.size - (i+1))+1:=by lia
     rw [e,List.range'_succ] at hr;exact nomatch hr
    ·exact Nat.le_antisymm hi h
   refine wpAny_pure ?_;rw [hin, ←hla,List.drop_length] at hpre;cases hpre;exact h'
structure yk(s:Shared)(a b:Addr)(ka:List (Str × Value))(es es':Array DictEntry):Prop where
 ha:(a==sysModules)=false
 hb:(b==sysModules)=false
 oa:∃ o ep,s.heap.get? a=some o∧o.cls= .type "dict"∧o.data= .dict es ep
 ob:∃ o ep,s.heap.get? b=some o∧o.cls= .type "dict"∧o.data= .dict es' ep
 kb:StrKeys es'
 kys:∀ i (h:i<es.size),∃ k u,es[i].key= .str k u∧ka[i]? =some (k,es[i].val)
 la:ka.length=es.size
theorem yk.eq{b:Addr}{ka:List (Str × Value)}{es es':Array DictEntry}{r:Bool}(P:yk s a b ka es es')(hu:A.units<cLine)(hits:es.size=es'.size→zyP A.in1 s (nsFind es') ka r):
  RcAt A s (.ref a) (.ref b) (es.size==es'.size&&r):=fun prog w E Q h=>by
 refine X23 P.oa fun oa ep hoa hca hda=>?_;refine X23 P.ob fun ob ep' hob hcb hdb=>?_;have Ta:s.TypeIs (.ref a) "dict":=⟨oa,hoa,hca⟩
 have Tb:s.TypeIs (.ref b) "dict":=⟨ob,hob,hcb⟩
 refine wpAny_richCompare_same_room (op:=.Eq) Ta Tb PySem.F.slot_dict_eq (wpAny_call_entry PySem.F.slot_dict_eq Ta PySem.F.entry_dict_eq ?_ (PySem.F.args_dict_eq_2 _ _)) hu
 show wpAny _ _ (Builtin.Dict.dictSlotArgs "__eq__" ⟨[.ref a,.ref b],[]⟩ >>= _) _ _ s
 refine wpAny_bind ?_;unfold Builtin.Dict.dictSlotArgs;refine wpAny_bind (wpAny_notOrdered_dict Ta ?_)
 show wpAny _ _ (pure (Value.ref a,Value.ref b)) _ _ s
 refine wpAny_pure ?_;refine wpAny_bind (wpAny_isInstance (T:="dict") Tb PySem.F.sub_dict_dict ?_);simp only [Bool.not_true,false_eq_true,if_false];refine wpAny_bind (wpAny_pure (wpAny_bind (wpAny_pure ?_)));refine wpAny_bind (ye P.ha P.hb hoa hda hob hdb P.kb P.kys P.la hits ?_);refine wpAny_pure ⟨_,rfl,?_,?_⟩
 ·exact fun x=>nomatch x
 ·simpa using h
theorem yk.ne{prog:Program}{w:World}{b:Addr}{ka:List (Str × Value)}{es es':Array DictEntry}{r:Bool}(P:yk s a b ka es es')(hu:A.units<cLine)(hits:es.size=es'.size→zyP A.in1 s (nsFind es') ka r)
  (h:Q (.bool (!(es.size==es'.size&&r))) s):wpAny (model prog w) A (compareOp .NotEq (.ref a) (.ref b)) Q E s:=by
 refine X23 P.oa fun oa ep hoa hca hda=>?_;refine X23 P.ob fun ob ep' hob hcb hdb=>?_;have Ta:s.TypeIs (.ref a) "dict":=⟨oa,hoa,hca⟩
 have Tb:s.TypeIs (.ref b) "dict":=⟨ob,hob,hcb⟩
 refine wpAny_richCompare_same_room (op:=.NotEq) Ta Tb PySem.F.slot_dict_ne (wpAny_call_entry PySem.F.slot_dict_ne Ta PySem.F.entry_dict_ne ?_ (PySem.F.args_dict_ne_2 _ _)) hu
 show wpAny _ _ (Builtin.Dict.dictSlotArgs "__ne__" ⟨[.ref a,.ref b],[]⟩ >>= _) _ _ s
 refine wpAny_bind ?_;unfold Builtin.Dict.dictSlotArgs;refine wpAny_bind (wpAny_notOrdered_dict Ta ?_)
 show wpAny _ _ (pure (Value.ref a,Value.ref b)) _ _ s
 refine wpAny_pure ?_;refine wpAny_bind (wpAny_isInstance (T:="dict") Tb PySem.F.sub_dict_dict ?_);simp only [Bool.not_true,false_eq_true,if_false];refine wpAny_bind (wpAny_pure (wpAny_bind (wpAny_pure ?_)));refine wpAny_bind (ye P.ha P.hb hoa hda hob hdb P.kb P.kys P.la hits ?_);refine wpAny_pure ⟨_,rfl,?_,?_⟩
 ·exact fun x=>nomatch x
 ·simpa using h
end
section
theorem zyA{K:Type}[DecidableEq K]{ds:List (K × D)}{k:K}:zd ((k,d)::ds) k=some d:=by simp [zd]
theorem zjP{K:Type}[DecidableEq K]{ds:List (K × D)}{k k':K}(h:k'≠k):zd ((k',d)::ds) k=zd ds k:=by simp [zd,h]
theorem jt{K:Type}[DecidableEq K]{knd:KeyKind prog w K}{h:Heap}(k:K):∀ {kvs:List (K × Value)} {ds:List (K × D)},kvs.map (fun z=>z.1)=ds.map (fun z=>z.1)→zu h X (kvs.map (fun z=>z.2)) (ds.map (fun z=>z.2))→
  (∀ d,zd ds k=some d→∃ v,valueAt kvs k=some v∧Rep h X false v d)∧(zd ds k=none→valueAt kvs k=none)
 |[],[],_,_=>⟨fun z e=>zq e,fun z=>rfl⟩
 |(k',v)::kvs,(k'',d)::ds,e,R=>by
  injection e with e e'
  have e:k'=k'':=e;subst e;have ⟨r,R⟩:Rep h X false v d∧zu h X (kvs.map (fun z=>z.2)) (ds.map (fun z=>z.2)):=X23 R.inv fun z z e a b=>by injection e with e1 e2;rw [←e1] at a;rw [←e2] at b;exact ⟨a,b⟩
  by_cases hk:k'=k
  ·subst hk;rw [zyA];exact ⟨fun x e=>⟨v,by simp [valueAt],sj e▸r⟩,fun e=>zq e.symm⟩
  ·rw [zjP hk,show valueAt ((k',v)::kvs) k=valueAt kvs k by simp [valueAt,hk]];exact jt (knd:=knd) k e' R
theorem zyE{K:Type}[DecidableEq K]{knd:KeyKind prog w K}{es:List DictEntry}{kvs kvs':List (K × Value)}(p:Pairs knd es kvs)(p':Pairs knd es kvs'):kvs=kvs':=by
 induction p generalizing kvs' with
 |nil=>cases p';rfl
 |cons h1 h2 z ih=>
  cases p' with
  |cons h1' h2' r=>
   rw [ih r]
   congr 1
   exact Prod.ext (knd.inj _ _ _ h1 h1') (h2.symm.trans h2')
theorem zjB{K:Type}[DecidableEq K]{knd:KeyKind prog w K}{kvs kvs':List (K × Value)}(p:h.DictOf knd a kvs)(p':h.DictOf knd a kvs'):kvs=kvs':=by
 (refine X36 p fun o es ep ho z hd z hp z=>?_;try clear p)
 (refine X36 p' fun o' es' ep' ho' z hd' z hp' z=>?_;try clear p')
 rw [ho] at ho';cases ho';rw [hd] at hd';cases hd';exact zyE hp hp'
theorem vq{K:Type}[DecidableEq K]{ds:List (K × D)}(hn:(ds.map (fun z=>z.1)).Nodup)(i:Nat){k:K}(e:ds[i]? =some (k,d)):zd ds k=some d:=by
 induction ds generalizing i with
 |nil=>simp at e
 |cons x ds ih=>
  simp only [map_cons,nodup_cons] at hn;cases i with
  |zero=>simp at e;subst e;simp [zd]
  |succ i=>
   simp at e;have hne:x.1≠k:=fun q=>hn.1 (q▸mem_map.mpr ⟨(k,d),mem_of_getElem? e,rfl⟩);have:=ih hn.2 i e
   simpa [zd,hne] using this
theorem zyI{T T':Value}{vs vs':Array Value}{n':Nat}(i:h.get? a=some { cls:=T,data:=.seq vs n })(i':h.get? a=some { cls:=T',data:=.seq vs' n' }):vs=vs':=
 congrArg (fun o:Option Obj=>match o with|some ⟨z,y,.seq x v,u⟩=>x|_=> #[]) (i.symm.trans i')
section
theorem zkq(R:Rep h X t v (.list ds))(R':Rep h X' t' v (.list es)):∃ vs,zu h X vs ds∧zu h X' vs es:=
 X34 R.inv fun a vs z e z i l=>
 X34 R'.inv fun a' vs' z e' z i' l'=>
 ⟨vs.toList,l,zyI (Value.ref.inj (e'.symm.trans e)▸i') i▸l'⟩
theorem zve(R:Rep h X t v (.tup ds))(R':Rep h X' t' v (.tup es)):∃ vs,zu h X vs ds∧zu h X' vs es:=
 X34 R.inv fun a vs z e z i l=>
 X34 R'.inv fun a' vs' z e' z i' l'=>
 ⟨vs.toList,l,zyI (Value.ref.inj (e'.symm.trans e)▸i') i▸l'⟩
theorem zpl{ds es:List (Str × D)}(R:Rep h X t v (.dS ds))(R':Rep h X' t' v (.dS es)):ds.map (fun z=>z.1)=es.map (fun z=>z.1)∧(es.map (fun z=>z.1)).Nodup∧∃ vs,zu h X vs (ds.map (fun z=>z.2))∧zu h X' vs (es.map (fun z=>z.2)):=
 X26 R.inv fun a kvs e z z i k l=>
 X26 R'.inv fun a' kvs' e' z z i' k' l'=>
 have q:kvs'=kvs:=zjB (Value.ref.inj (e'.symm.trans e)▸i') i;have k':=q▸k'
 ⟨k.symm.trans k',k'▸(X36 i fun z z z z z z z z hn=>hn),kvs.map (fun z=>z.2),l,q▸l'⟩
end
theorem kY{f:D→D→Option Bool}{h:Heap}{X':List Addr}(ih:∀ {v d e b},Rep h X false v d→Rep h X' false v e→f d e=some b→b=true):
  ∀ {vs:List Value} {ds es:List D} {b:Bool},zu h X vs ds→zu h X' vs es→yZ f ds es=some b→b=true
 |_,[],[],_,_,_,e=>(sj e).symm
 |_,d::ds,e::es,b,r,r',he=>by
  refine X23 r.inv fun v us q a r=>?_;refine X23 r'.inv fun v' us' q' a' r'=>?_;injection q'.symm.trans q with q1 q2
  rw [q1] at a';rw [q2] at r';refine X12 (bind_some he) fun b1 h1 h2=>?_;refine X12 (bind_some h2) fun c h2 h3=>?_;rw [←sj h3,ih a a' h1,kY ih r r' h2];rfl
theorem vt{f:D→D→Option Bool}{es:List (Str × D)}:∀ {ds:List (Str × D)} {b:Bool},(∀ p∈ds,∃ e,zd es p.1=some e∧∀ b,f p.2 e=some b→b=true)→wI f es ds=some b→b=true
 |[],_,_,e=>(sj e).symm
 |(k,d)::r,b,H,he=>by
  refine X12 (H _ (mem_cons_self ..)) fun e hl hb=>?_;unfold wI at he;rw [show zd es k=some e from hl] at he;refine X12 (bind_some he) fun b1 h1 h2=>?_;refine X12 (bind_some h2) fun c h2 h3=>?_;rw [←sj h3,hb b1 h1,vt (fun p m=>H p (mem_cons_of_mem _ m)) h2];rfl
theorem gq{h:Heap}{X':List Addr}:∀ (n:Nat) {t t':Bool} {v:Value} {d e:D} {b:Bool},Rep h X t v d→Rep h X' t' v e→eqD n d e=some b→b=true
 |0,_,_,_,_,_,_,_,_,he=>zq he
 |n+1,t,t',v,d,e,b,R,R',he=>xQ (n:=n) (M:=fun d e b=>Rep h X t v d→Rep h X' t' v e→b=true) (fun z z=>rfl)
   (fun z z R R'=>beq_iff_eq.mpr (Value.bool.inj (R.inv.symm.trans R'.inv))) (fun z z R R'=>X11 R.inv fun z q=>X11 R'.inv fun z q'=>beq_iff_eq.mpr (Value.int.inj (q.symm.trans q')).1)
   (fun z z R R'=>X11 R.inv fun z q=>X11 R'.inv fun z q'=>beq_iff_eq.mpr (Value.str.inj (q.symm.trans q')).1)
   (fun x y b q R R'=>X12 (zkq R R') fun z l l'=>kY (gq n) l l' (by rwa [if_pos (l.length.symm.trans l'.length)] at q))
   (fun x y b z q R R'=>X12 (zve R R') fun z l l'=>kY (gq n) l l' q)
   (fun x y b q R R'=>by
    obtain ⟨k,nd,vs,l,l'⟩:=zpl R R';have kl:x.length=y.length:=by simpa using congrArg List.length k
    rw [if_pos kl] at q;refine vt (fun p m=>?_) q;refine X11 (List.getElem?_of_mem m) fun i hi=>?_;have k1:(x.map (fun z=>z.1))[i]? =some p.1:=by rw [getElem?_map,hi];rfl
    rw [k,getElem?_map] at k1
    (refine X12 (map_some k1) fun z10 hj hk=>?_;obtain ⟨k',e⟩:=z10)
    have hk:k'=p.1:=hk;refine ⟨e,hk▸vq nd i hj,fun b hb=>?_⟩;refine X12 (l.get i (d:=p.2) (by rw [getElem?_map,hi];rfl)) fun v1 q1 r1=>?_;refine X12 (l'.get i (d:=e) (by rw [getElem?_map,hj];rfl)) fun v2 q2 r2=>?_;exact gq n r1 (sj (q2.symm.trans q1)▸r2) hb) he R R'
theorem yN(p:h.DictOf (strKind prog w) a kvs):
  ∃ o es ep,h.get? a=some o∧o.cls= .type "dict"∧o.data= .dict es ep∧StrKeys es∧(∀ k,nsFind es k=valueAt kvs k)∧kvs.length=es.size∧∀ i (h:i<es.size),∃ k u,es[i].key= .str k u∧kvs[i]? =some (k,es[i].val):=by
 (refine X36 p fun o es ep ho hx hd hk hp hn=>?_;try clear p)
 have hkey:∀ {e:DictEntry} {k:Str},(strKind prog w).is k e.key=true→∃ u,e.key= .str k u:=by
  intro e k hh;have:Value.isStrOf k e.key=true:=hh;rw [←isStr_of] at this;cases he:e.key with
  |str y u=>rw [he] at this;simp [Value.isStr] at this;exact ⟨u,by rw [this]⟩
  |_=>rw [he] at this;simp [Value.isStr] at this
 refine ⟨o,es,ep,ho,hx.1,hd,?_,?_,?_,?_⟩
 ·intro e he;refine X12 (hk e he) fun k hk z=>?_;refine X11 (hkey hk) fun u hu=>?_;exact ⟨k,u,hu⟩
 ·intro k;have:=hp.find k;rw [←this];obtain ⟨l⟩:=es;unfold nsFind findBy;rw [List.find?_toArray]
  congr 2
  funext e
  exact isStr_of k e.key
 ·rw [←hp.length];exact Array.length_toList
 ·intro i hi;have hl:i<kvs.length:=by rw [←hp.length];simpa using hi
  obtain ⟨k,v,hkv⟩:∃ k v,kvs[i]=(k,v):=⟨_,_,rfl⟩
  refine X02 (hp.get? (i:=i) (e:=es[i]) (k:=k) (v:=v) (by simp [hi]) (by rw [getElem?_eq_getElem hl,hkv])) fun h1 h2=>?_;refine X11 (hkey h1) fun u hu=>?_;exact ⟨k,u,hu,by rw [getElem?_eq_getElem hl,hkv,h2]⟩
set_option tactic.hygienic true in
theorem zzo(ih:∀ {A:Around} {t t':Bool} {v u:Value} {d e:D} {b:Bool},Rep s.heap X t v d→Rep s.heap X' t' u e→eqD n d e=some b→A.units+n<cLine→EqAt A s v u b)
  {l':Addr}{kvs':List (Str × Value)}{ds es:List (Str × D)}(nm:(l==sysModules)=false)(nm':(l'==sysModules)=false)(i:s.heap.DictOf (strKind prog w) l kvs)(i':s.heap.DictOf (strKind prog w) l' kvs')
  (e1:kvs.map (fun z=>z.1)=ds.map (fun z=>z.1))(e1':kvs'.map (fun z=>z.1)=es.map (fun z=>z.1))(L:zu s.heap X (kvs.map (fun z=>z.2)) (ds.map (fun z=>z.2)))(L':zu s.heap X' (kvs'.map (fun z=>z.2)) (es.map (fun z=>z.2)))
  (he:(if ds.length=es.length then wI (eqD n) es ds else some false)=some b)(hu:A.units+n<cLine):
  ∃ ent ent' r,yk s l l' kvs ent ent'∧(ent.size=ent'.size→zyP A s (nsFind ent') kvs r)∧b=(ent.size==ent'.size&&r):=by
 refine X37 (yN i) fun o ent ep ho hc hd hk hf hln hes=>?_;refine X37 (yN i') fun o' ent' ep' ho' hc' hd' hk' hf' hln' hes'=>?_;have P:yk s l l' kvs ent ent':=⟨nm,nm',⟨o,ep,ho,hc,hd⟩,⟨o',ep',ho',hc',hd'⟩,hk',hes,hln⟩
 have q1:kvs.length=ds.length:=by have:=congrArg List.length e1;simpa using this
 have q2:kvs'.length=es.length:=by have:=congrArg List.length e1';simpa using this
 split at he
 ·rename_i hsz;have hsz':ent.size=ent'.size:=by lia
  refine ⟨ent,ent',b,P,fun _=>?_,by simp [hsz']⟩;clear P hes hln hf hk hd ho q1 hsz hsz' i
  induction kvs generalizing ds b with
  |nil=>cases ds with
   |nil=>simp [wI] at he;subst he;exact .nil
   |cons=>simp at e1
  |cons kv kvs ihk=>cases ds with
   |nil=>simp at e1
   |cons x ds=>
    obtain ⟨k,v⟩:=kv;obtain ⟨k',d⟩:=x;simp only [map_cons,List.cons.injEq] at e1;simp only [map_cons] at L;cases L with|cons r L=>
    obtain ⟨rfl,e1⟩:=e1;have hlk:=jt (knd:=strKind prog w) k e1' L';simp only [wI] at he;cases hl:zd es k with
    |none=>
     rw [hl] at he;cases he;exact .miss (by rw [hf'];exact hlk.2 hl)
    |some d'=>
     rw [hl] at he;simp only [Option.bind_eq_some_iff] at he;obtain ⟨b1,h1,c,h2,h3⟩:=he;cases h3;refine X12 (hlk.1 d' hl) fun y hy ry=>?_;exact .hit (by rw [hf'];exact hy) (ih r ry h1 hu) (ihk e1 L h2)
 ·rename_i hne;cases he;exact ⟨ent,ent',false,P,fun hh=>absurd hh (by lia),by simp⟩
section
variable (ih:∀ {A:Around} {t t':Bool} {v u:Value} {d e:D} {b:Bool},Rep s.heap X t v d→Rep s.heap X' t' u e→eqD n d e=some b→A.units+n<cLine→EqAt A s v u b)
include ih
theorem xZ{f:Nat→Bool}{vs vs':Array Value}(L:zu s.heap X vs.toList ds)(L':zu s.heap X' vs'.toList es)(hf:∀ (j:Nat) (x y:D),ds[j]? =some x→es[j]? =some y→eqD n x y=some (f j))(hu:A.units+n<cLine)
  (j:Nat)(j1:j<vs.size)(j2:j<vs'.size):EqAt A s vs[j] vs'[j] (f j):=by
 refine X12 (L.get' j (v:=vs[j]) (by rw [getElem?_toList];exact Array.getElem?_eq_getElem j1)) fun d1 q1 r1=>?_;refine X12 (L'.get' j (v:=vs'[j]) (by rw [getElem?_toList];exact Array.getElem?_eq_getElem j2)) fun d2 q2 r2=>?_;exact ih r1 r2 (hf j d1 d2 q1 q2) hu
theorem pe{t t':Bool}{v u:Value}{d e:D}{b:Bool}(R:Rep s.heap X t v d)(R':Rep s.heap X' t' u e)(he:eqD (n+1) d e=some b)(hu:A.units+(n+1)<cLine):RcAt A s v u b:=by
 have hu1:A.units<cLine:=lt_of_le_of_lt (le_add_right ..) hu;have hu2:A.in1.units+n<cLine:=by have:A.in1.units+n=A.units+(n+1):=add_right_comm A.units 1 n;rw [this];exact hu
 refine xQ (n:=n) (M:=fun d e b=>Rep s.heap X t v d→Rep s.heap X' t' u e→RcAt A s v u b) ?_ ?_ ?_ ?_ ?_ ?_ ?_ he R R'
 ·exact fun R R'=>R.noneE (M:=fun v=>RcAt _ _ v _ _) (R'.noneE (M:=fun v=>RcAt _ _ _ v _) RcAt.none_none)
 ·exact fun z z R R'=>R.boolE (M:=fun v=>RcAt _ _ v _ _) (R'.boolE (M:=fun v=>RcAt _ _ _ v _) (RcAt.bool_bool _ _))
 ·exact fun z z R R'=>R.intE (M:=fun v=>RcAt _ _ v _ _) fun z=>R'.intE (M:=fun v=>RcAt _ _ _ v _) fun z=>RcAt.int_int _ _ _ _
 ·exact fun z z R R'=>R.strE (M:=fun v=>RcAt _ _ v _ _) fun z=>R'.strE (M:=fun v=>RcAt _ _ _ v _) fun z=>RcAt.str_str _ _ _ _
 ·refine fun x y b he R R'=>R.listE (M:=fun v=>RcAt _ _ v _ _) fun z vs z z i L=>R'.listE (M:=fun v=>RcAt _ _ _ v _) fun z vs' z z i' L'=>?_;have hl:vs.size=x.length:=L.length;have hl':vs'.size=y.length:=L'.length;by_cases hs:x.length=y.length
  ·rw [if_pos hs] at he;obtain ⟨_,e,h1,h2⟩:=jG he;rw [h2, ←hl];exact RcAt.lists ⟨_,i,rfl,_,rfl⟩ ⟨_,i',rfl,_,rfl⟩ (hl.trans (hs.trans hl'.symm)) hu1 fun j j1 j2=>xZ ih L L' h1 hu2 j j1 j2
  ·rw [if_neg hs] at he;exact sj he▸RcAt.lists_lengths ⟨_,i,rfl,_,rfl⟩ ⟨_,i',rfl,_,rfl⟩ (bne_iff_ne.mpr fun q=>hs (hl.symm.trans (q.trans hl'))) hu1
 ·refine fun x y b hs he R R'=>R.tupE (M:=fun v=>RcAt _ _ v _ _) fun z vs z z i L=>R'.tupE (M:=fun v=>RcAt _ _ _ v _) fun z vs' z z i' L'=>?_;have hl:vs.size=x.length:=L.length;have hl':vs.size=vs'.size:=(hl.trans hs).trans L'.length.symm;obtain ⟨_,e,h1,h2⟩:=jG he;have:b=((List.range (min vs.size vs'.size)).all e&&vs.size==vs'.size):=by rw [h2, ←hl',min_self,hl,beq_self_eq_true,Bool.and_true]
  rw [this];exact RcAt.tuples ⟨_,i,rfl,_,rfl⟩ ⟨_,i',rfl,_,rfl⟩ hu1 fun j j1 j2=>xZ ih L L' h1 hu2 j j1 j2
 ·refine fun x y b he R R'=>R.dSE (M:=fun v=>RcAt _ _ v _ _) fun z kvs z nm i e1 L=>R'.dSE (M:=fun v=>RcAt _ _ _ v _) fun z kvs' z nm' i' e1' L'=>?_;refine X33 (zzo (A:=A.in1) ih nm nm' i i' e1 e1' L L' he hu2) fun ent ent' r P h1 h2=>?_;rw [h2];exact P.eq hu1 h1
end
theorem yR{X':List Addr}:∀ (n:Nat) {A:Around} {t t':Bool} {v u:Value} {d e:D} {b:Bool},Rep s.heap X t v d→Rep s.heap X' t' u e→eqD n d e=some b→A.units+n<cLine→EqAt A s v u b
 |0,_,_,_,_,_,_,_,_,_,_,he,_=>zq he
 |n+1,A,t,t',v,u,d,e,b,R,R',he,hu=>by
  have st:=pe (yR n) R R' he hu;by_cases hvu:v=u
  ·subst hvu;rw [gq _ R R' he];exact EqAt.same _
  ·have key:∀ {x:D} {y:D} {b:Bool},(∃ a,v= .ref a)→(∃ a,u= .ref a)→RcAt A s v u b→EqAt A s v u b:=fun ⟨a,q⟩ ⟨a',q'⟩ st=>by
    rw [q,q'] at st hvu ⊢; exact EqAt.of_refs (fun q=>hvu (by rw [q])) st
   refine xQ (n:=n) (M:=fun d e b=>Rep s.heap X t v d→Rep s.heap X' t' u e→RcAt A s v u b→EqAt A s v u b) ?_ ?_ ?_ ?_ ?_ ?_ ?_ he R R' st
   ·exact fun R R' z=>absurd (R.inv.trans R'.inv.symm) hvu
   ·exact fun z z R R' z=>R.boolE (M:=fun v=>EqAt _ _ v _ _) (R'.boolE (M:=fun v=>EqAt _ _ _ v _) (EqAt.bool_bool _ _))
   ·exact fun z z R R' z=>R.intE (M:=fun v=>EqAt _ _ v _ _) fun z=>R'.intE (M:=fun v=>EqAt _ _ _ v _) fun z=>EqAt.int_int _ _ _ _
   ·exact fun z z R R' z=>R.strE (M:=fun v=>EqAt _ _ v _ _) fun z=>R'.strE (M:=fun v=>EqAt _ _ _ v _) fun z=>EqAt.str_str _ _ _ _
   ·exact fun x y z z R R'=>key (x:=d) (y:=d) (X32 R.inv fun a z z q z=>⟨a,q⟩) (X32 R'.inv fun a z z q z=>⟨a,q⟩)
   ·exact fun x y z z z R R'=>key (x:=d) (y:=d) (X32 R.inv fun a z z q z=>⟨a,q⟩) (X32 R'.inv fun a z z q z=>⟨a,q⟩)
   ·exact fun x y z z R R'=>key (x:=d) (y:=d) (X22 R.inv fun a z q z=>⟨a,q⟩) (X22 R'.inv fun a z q z=>⟨a,q⟩)
theorem zvi:∀ (n:Nat) {A:Around} {t t':Bool} {v u:Value} {d e:D} {b:Bool},Rep s.heap X t v d→Rep s.heap X' t' u e→eqD n d e=some b→A.units+n<cLine→RcAt A s v u b
 |0,_,_,_,_,_,_,_,_,_,_,he,_=>zq he
 |n+1,_,_,_,_,_,_,_,_,R,R',he,hu=>pe (yR n) R R' he hu
end
end
section
open PySem.SeqAt
open AutoSeq1 (wpAny_loadPart')
theorem zhB{M:Model}{tag:String}{k z:Sem α}{Q:α→Shared→Prop}(h:wpAny M A k Q E s):wpAny M A (if (!false)=true then (do rule tag;k) else z) Q E s:=by
 rw [if_pos (by decide)];exact wpAny_bind (wpAny_rule h)
theorem pi{prog:Program}{w:World}{a b:Int}{t u:Tok}(h:Q (.bool (decide (a>b))) s):wpAny (model prog w) A (richCompare .Gt (.int a t) (.int b u)) Q E s:=PySem.P.gt_int h
theorem p0{prog:Program}{w:World}{a b:Int}{t u:Tok}(h:Q (.bool (decide (a<b))) s):wpAny (model prog w) A (richCompare .Lt (.int a t) (.int b u)) Q E s:=PySem.P.lt_int h
theorem zkz(l b:Addr)(x y x' y':Int)(t u t' u':Tok)(n n2:Nat):
  Meets (Builtin.«tuple.__lt__» ⟨[.ref l,.ref b],[]⟩)
   (fun z R s=>s.heap.get? l=some { cls:=.type "tuple",data:=.seq #[.int x t,.int y u] n }∧s.heap.get? b=some { cls:=.type "tuple",data:=.seq #[.int x' t',.int y' u'] n2 }∧
    R (.ok (.ret (.bool (decide (x<x')||(x==x'&&decide (y<y')))))) s):=
 .of_wp fun prog w A R s h=>by
  obtain ⟨hp,g,d,tk,os⟩:=s;refine X03 h fun hl hb h=>?_;have f2:=AutoSeq1.sub_tuple_tuple;have f3:Builtin.Tuple.tupleCompareSizes .Lt 2 2= .bool false:=rfl
  wp_walk using wpAny_loadPart' hl,wpAny_loadPart' hb,wpAny_forIn_list _ (fun rest b s'=>b.1=none∧s'=⟨hp,g,d,tk,os⟩∧
   (rest=[(.int x t,.int x' t'),(.int y u,.int y' u')]∨(x=x'∧rest=[(.int y u,.int y' u')])∨(x=x'∧y=y'∧rest=[]))) _
  case turn=>
   rintro ⟨p,q⟩ rest b s' ⟨hb',rfl,hr⟩
   rcases hr with hr|⟨hx,hr⟩|⟨_,_,hr⟩
   ·injection hr with h1 h2
    injection h1 with h1 h1'
    subst h1 h1' h2;refine wpAny_bind (EqAt.int_int x t x' t' prog w _ _ ?_);by_cases hx:x=x'
    ·have e:(x==x')=true:=by simp [hx]
     rw [e]
     wp_walk
     exact ⟨rfl,rfl,.inr (.inl ⟨hx,rfl⟩)⟩
    ·have e:(x==x')=false:=by simp [hx]
     rw [e];refine zhB ?_;refine wpAny_bind (p0 ?_)
     wp_walk
     refine ⟨_,rfl,?_⟩
     simpa [e] using h
   ·injection hr with h1 h2
    injection h1 with h1 h1'
    subst h1 h1' h2;refine wpAny_bind (EqAt.int_int y u y' u' prog w _ _ ?_);by_cases hy:y=y'
    ·have e:(y==y')=true:=by simp [hy]
     rw [e]
     wp_walk
     exact ⟨rfl,rfl,.inr (.inr ⟨hx,hy,rfl⟩)⟩
    ·have e:(y==y')=false:=by simp [hy]
     rw [e];refine zhB ?_;refine wpAny_bind (p0 ?_)
     wp_walk
     refine ⟨_,rfl,?_⟩
     simpa [hx] using h
   ·cases hr
  case fin=>
   rintro ⟨b1,b2⟩ s' ⟨hb,rfl,hr⟩
   simp only at hb;subst hb;rcases hr with hr|⟨_,hr⟩|⟨hx,hy,_⟩
   ·cases hr
   ·cases hr
   ·wp_walk
    refine ⟨_,rfl,?_⟩;rw [show (#[Value.int x t,Value.int y u].size)=2 from rfl,show (#[Value.int x' t',Value.int y' u'].size)=2 from rfl,f3]
    simpa [hx,hy] using h
  case h=>
   exact ⟨rfl,rfl,.inl (by simp)⟩
theorem zkj(l b:Addr)(x y x' y':Int)(t u t' u':Tok)(n n2:Nat):
  Meets (Builtin.«tuple.__gt__» ⟨[.ref l,.ref b],[]⟩)
   (fun z R s=>s.heap.get? l=some { cls:=.type "tuple",data:=.seq #[.int x t,.int y u] n }∧s.heap.get? b=some { cls:=.type "tuple",data:=.seq #[.int x' t',.int y' u'] n2 }∧
    R (.ok (.ret (.bool (decide (x>x')||(x==x'&&decide (y>y')))))) s):=
 .of_wp fun prog w A R s h=>by
  obtain ⟨hp,g,d,tk,os⟩:=s;refine X03 h fun hl hb h=>?_;have f2:=AutoSeq1.sub_tuple_tuple;have f3:Builtin.Tuple.tupleCompareSizes .Gt 2 2= .bool false:=rfl
  wp_walk using wpAny_loadPart' hl,wpAny_loadPart' hb,wpAny_forIn_list _ (fun rest b s'=>b.1=none∧s'=⟨hp,g,d,tk,os⟩∧
   (rest=[(.int x t,.int x' t'),(.int y u,.int y' u')]∨(x=x'∧rest=[(.int y u,.int y' u')])∨(x=x'∧y=y'∧rest=[]))) _
  case turn=>
   rintro ⟨p,q⟩ rest b s' ⟨hb',rfl,hr⟩
   rcases hr with hr|⟨hx,hr⟩|⟨_,_,hr⟩
   ·injection hr with h1 h2
    injection h1 with h1 h1'
    subst h1 h1' h2;refine wpAny_bind (EqAt.int_int x t x' t' prog w _ _ ?_);by_cases hx:x=x'
    ·have e:(x==x')=true:=by simp [hx]
     rw [e]
     wp_walk
     exact ⟨rfl,rfl,.inr (.inl ⟨hx,rfl⟩)⟩
    ·have e:(x==x')=false:=by simp [hx]
     rw [e];refine zhB ?_;refine wpAny_bind (pi ?_)
     wp_walk
     refine ⟨_,rfl,?_⟩
     simpa [e] using h
   ·injection hr with h1 h2
    injection h1 with h1 h1'
    subst h1 h1' h2;refine wpAny_bind (EqAt.int_int y u y' u' prog w _ _ ?_);by_cases hy:y=y'
    ·have e:(y==y')=true:=by simp [hy]
     rw [e]
     wp_walk
     exact ⟨rfl,rfl,.inr (.inr ⟨hx,hy,rfl⟩)⟩
    ·have e:(y==y')=false:=by simp [hy]
     rw [e];refine zhB ?_;refine wpAny_bind (pi ?_)
     wp_walk
     refine ⟨_,rfl,?_⟩
     simpa [hx] using h
   ·cases hr
  case fin=>
   rintro ⟨b1,b2⟩ s' ⟨hb,rfl,hr⟩
   simp only at hb;subst hb;rcases hr with hr|⟨_,hr⟩|⟨hx,hy,_⟩
   ·cases hr
   ·cases hr
   ·wp_walk
    refine ⟨_,rfl,?_⟩;rw [show (#[Value.int x t,Value.int y u].size)=2 from rfl,show (#[Value.int x' t',Value.int y' u'].size)=2 from rfl,f3]
    simpa [hx,hy] using h
  case h=>
   exact ⟨rfl,rfl,.inl (by simp)⟩
noncomputable def asI:D→Option Int
 | .int i=>some i
 |_=>none
theorem zW{i:Int}(h:asI d=some i):d= .int i:=by
 cases d with
 |int=>exact congrArg D.int (sj h)
 |_=>exact zq h
noncomputable def yi:List D→Option (List Int)
 |[]=>some []
 |d::r=>match d with
  | .int i=>(yi r).map (i:: ·)
  |_=>none
noncomputable def isD(a b:D):Option Bool:=
 match a with
 | .none=>match b with
  | .none=>some true
  |_=>none
 | .bool a=>match b with
  | .bool b=>some (a==b)
  |_=>none
 | .list z=>match b with
  | .none=>some false
  |_=>none
 |_=>none
noncomputable def inD(k c:D):Option Bool:=
 match c with
 | .list ds=>match k with
  | .int x=>(yi ds).map fun ns=>ns.any (· ==x)
  |_=>none
 | .dS kvs=>match k with
  | .str x=>some (zd kvs x).isSome
  |_=>none
 | .dI kvs=>match k with
  | .int x=>some (zd kvs x).isSome
  |_=>none
 |_=>none
noncomputable def gz{α:Type}(d:D)(f:Int→Int→Option α):Option α:=match d with
 | .tup ds=>match ds with
  |a::r=>match r with
   |b::r=>match r with
    |[]=>(asI a).bind fun x=>(asI b).bind (f x)
    |_=>none
   |_=>none
  |_=>none
 |_=>none
theorem yS{f:Int→Int→Option α}{r:α}(h:gz d f=some r):∃ x y,d= .tup [.int x,.int y]∧f x y=some r:=by
 cases d with
 |tup ds=>match ds,h with
  |[a,b],h=>
   refine X12 (bind_some h) fun x h1 h=>?_;refine X12 (bind_some h) fun y h2 h=>?_;exact ⟨x,y,by rw [zW h1,zW h2],h⟩
 |_=>exact zq h
noncomputable def xJ(op:CmpOp)(a b:D):Option Bool:=
 match op with
 | .Eq=>eqD 8 a b
 | .NotEq=>(eqD 8 a b).map (!·)
 | .Lt=>match a with
  | .int x=>(asI b).bind fun y=>some (decide (x<y))
  |_=>gz a fun x y=>gz b fun x' y'=>some (decide (x<x')||(x==x'&&decide (y<y')))
 | .Gt=>match a with
  | .int x=>(asI b).bind fun y=>some (decide (x>y))
  |_=>gz a fun x y=>gz b fun x' y'=>some (decide (x>x')||(x==x'&&decide (y>y')))
 | .LtE=>(asI a).bind fun x=>(asI b).bind fun y=>some (decide (x≤y))
 | .GtE=>(asI a).bind fun x=>(asI b).bind fun y=>some (decide (x≥y))
 | .Is=>isD a b
 | .IsNot=>(isD a b).map (!·)
 | .In=>inD a b
 | .NotIn=>(inD a b).map (!·)
section
variable {e:D}
theorem zs{m:Sem Value}(h:∀ (Q:Value→Shared→Prop) (E:Value→Shared→Prop),Q (.bool b) s→wpAny (model prog w) A m Q E s):zj A X m s (.bool b):=
 fun Q E k=>h Q E (k _ _ (Grow.refl ..) (.bool _ _))
theorem qo{m:Sem Value}(h:∀ (Q:Value→Shared→Prop) (E:Value→Shared→Prop),Q (.bool b) { s with toks:=s.toks+1 }→wpAny (model prog w) A m Q E s):zj A X m s (.bool b):=
 fun Q E k=>h Q E (k _ _ (Grow.toks ..) (.bool _ _))
theorem zu.twoInts{x y:Int}(L:zu h X vs [.int x,.int y]):∃ i j,vs=[.int x i,.int y j]:=
 L.consE (M:=fun vs=>∃ i j,vs=[.int x i,.int y j]) fun z z ra L=>L.oneE (M:=fun vs=>∃ i j,_::vs=[.int x i,.int y j]) fun z rb=>ra.intE (M:=fun v=>∃ i j,[v,_]=[.int x i,.int y j]) fun i=>rb.intE (M:=fun v=>∃ i j,[_,v]=[.int x i,.int y j]) fun j=>⟨i,j,rfl⟩
theorem gj{x y:Int}(R:Rep s.heap X t v (.tup [.int x,.int y])):∃ a n i j,v= .ref a∧s.heap.get? a=some { cls:=.type "tuple",data:=.seq #[.int x i,.int y j] n }:=
 X34 R.inv fun a z n e z hl L=>
 X21 L.twoInts fun i j q=>
 ⟨a,n,i,j,e,(Array.toList_inj.mp q:_= #[Value.int x i,.int y j])▸hl⟩
theorem zv0{a:Bool}:zj A X (compareOp .Is (.bool a) (.bool b)) s (.bool (a==b))∧zj A X (compareOp .IsNot (.bool a) (.bool b)) s (.bool (!(a==b))):=by
 have e:(Value.bool a==Value.bool b)=(a==b):=by cases a<;>cases b<;>rfl
 rw [←e];exact ⟨zs fun Q E q=>wpAny_is_plain rfl q,zs fun Q E q=>wpAny_isNot_plain rfl q⟩
theorem p6(x:Rep s.heap X t v d)(y:Rep s.heap X t' u e)(h:isD d e=some b):zj A X (compareOp .Is v u) s (.bool b)∧zj A X (compareOp .IsNot v u) s (.bool (!b)):=by
 cases d with
 |none=>cases e with
  |none=>exact sj h▸x.noneE (M:=fun v=>zj _ _ (compareOp .Is v _) _ _∧zj _ _ (compareOp _ v _) _ _) (y.noneE (M:=fun v=>zj _ _ (compareOp .Is _ v) _ _∧zj _ _ (compareOp _ _ v) _ _) ⟨zs fun Q E q=>wpAny_is_plain rfl q,zs fun Q E q=>wpAny_isNot_plain rfl q⟩)
  |_=>exact zq h
 |bool a=>cases e with
  |bool b=>exact sj h▸x.boolE (M:=fun v=>zj _ _ (compareOp .Is v _) _ _∧zj _ _ (compareOp _ v _) _ _) (y.boolE (M:=fun v=>zj _ _ (compareOp .Is _ v) _ _∧zj _ _ (compareOp _ _ v) _ _) zv0)
  |_=>exact zq h
 |list a=>cases e with
  |none=>exact sj h▸x.listE (M:=fun v=>zj _ _ (compareOp .Is v _) _ _∧zj _ _ (compareOp _ v _) _ _) fun z z z z z z=>y.noneE (M:=fun v=>zj _ _ (compareOp .Is _ v) _ _∧zj _ _ (compareOp _ _ v) _ _) ⟨zs fun Q E q=>wpAny_is_plain rfl q,zs fun Q E q=>wpAny_isNot_plain rfl q⟩
  |_=>exact zq h
 |_=>exact zq h
theorem p7{h:Heap}:∀ {vs:List Value} {ds:List D} {ns:List Int},zu h X vs ds→yi ds=some ns→IntsAre vs ns
 |_,[],_,r,h=>sj h▸r.nilE (M:=fun vs=>IntsAre vs []) .nil
 |_,d::ds,ns,r,h=>r.consE (M:=fun vs=>IntsAre vs ns) fun v us a b=>by
  cases d with
  |int i=>
   refine X12 (map_some h) fun ns' h1 h2=>?_;exact h2▸a.intE (M:=fun v=>IntsAre (v::us) (i::ns')) fun j=>.cons _ _ (p7 b h1)
  |_=>exact zq h
theorem gy{z:Int}{j:Tok}:∀ {vs:List Value} {ns:List Int},IntsAre vs ns→(∀ y∈vs,EqAt A s y (.int z j) (match y with| .int i x=>i==z|_=>false))∧(vs.any fun y=>match y with| .int i x=>i==z|_=>false)=ns.any (· ==z)
 |_,_,.nil=>⟨fun x m=>(nomatch m),rfl⟩
 |_,_,.cons i t r=>⟨fun y m=>by
   cases m with
   |head=>exact EqAt.int_int _ _ _ _
   |tail x m=>exact (gy r).1 y m,congrArg (i==z|| ·) (gy (j:=j) r).2⟩
theorem p8{K:Type}[DecidableEq K]{knd:KeyKind prog w K}{k:K}{kvs:List (K × Value)}{ds:List (K × D)}(e:kvs.map (fun z=>z.1)=ds.map (fun z=>z.1))(R:zu h X (kvs.map (fun z=>z.2)) (ds.map (fun z=>z.2))):(valueAt kvs k).isSome=(zd ds k).isSome:=by
 have hk:=jt (knd:=knd) k e R;cases hl:zd ds k with
 |none=>rw [hk.2 hl];rfl
 |some d=>refine X12 (hk.1 d hl) fun v hv z=>?_;rw [hv];rfl
theorem zza(x:Rep s.heap X t v d)(y:Rep s.heap X t' u e)(h:inD d e=some b):zj A X (compareOp .In v u) s (.bool b)∧zj A X (compareOp .NotIn v u) s (.bool (!b)):=by
 cases e with
 |list ds=>cases d with
  |int z=>
   refine x.intE (M:=fun v=>zj _ _ (compareOp .In v _) _ _∧zj _ _ (compareOp _ v _) _ _) fun j=>y.listE (M:=fun v=>zj _ _ (compareOp .In _ v) _ _∧zj _ _ (compareOp _ _ v) _ _) fun a vs n p i L=>?_;refine X12 (map_some h) fun ns h1 h2=>?_;have key:=fun A=>gy (A:=A) (s:=s) (z:=z) (j:=j) (p7 L h1);rw [←h2, ←(key A).2,any_toList];exact ⟨zs fun Q E q=>in_listAt _ ⟨_,i,rfl,n,rfl⟩ (fun y m=>(key _).1 y (Array.mem_toList_iff.mpr m)) q,zs fun Q E q=>notIn_listAt _ ⟨_,i,rfl,n,rfl⟩ (fun y m=>(key _).1 y (Array.mem_toList_iff.mpr m)) q⟩
  |_=>exact zq h
 |dS kd=>cases d with
  |str z=>
   refine sj h▸x.strE (M:=fun v=>zj _ _ (compareOp .In v _) _ _∧zj _ _ (compareOp _ v _) _ _) fun j=>y.dSE (M:=fun v=>zj _ _ (compareOp .In _ v) _ _∧zj _ _ (compareOp _ _ v) _ _) fun a kvs r nm i e1 L=>?_;rw [←p8 (knd:=strKind prog w) e1 L];exact ⟨qo fun Q E q=>wpAny_in_of (strKind_is prog w z j) nm i.mapOf q,qo fun Q E q=>wpAny_notIn_of (strKind_is prog w z j) nm i.mapOf q⟩
  |_=>exact zq h
 |dI kd=>cases d with
  |int z=>
   refine sj h▸x.intE (M:=fun v=>zj _ _ (compareOp .In v _) _ _∧zj _ _ (compareOp _ v _) _ _) fun j=>y.dIE (M:=fun v=>zj _ _ (compareOp .In _ v) _ _∧zj _ _ (compareOp _ _ v) _ _) fun a kvs r nm i e1 L=>?_;rw [←p8 (knd:=intKind prog w) e1 L];exact ⟨qo fun Q E q=>wpAny_in_of (intKind_is prog w z j) nm i.mapOf q,qo fun Q E q=>wpAny_notIn_of (intKind_is prog w z j) nm i.mapOf q⟩
  |_=>exact zq h
 |_=>exact zq h
theorem zv1(x:Rep s.heap X t v d)(y:Rep s.heap X t' u e)(h:eqD 8 d e=some b)(hu:A.units+9<cLine):zj A X (compareOp .NotEq v u) s (.bool (!b)):=by
 have hu1:A.units<cLine:=lt_of_le_of_lt (le_add_right ..) hu;have hu2:A.in1.units+7<cLine:=lt_of_le_of_lt (show A.units+1+7≤A.units+9 by simp) hu;refine zs fun Q E q=>?_;refine xQ (n:=7) (M:=fun d e b=>Rep s.heap X t v d→Rep s.heap X t' u e→RcNeAt A s v u (!b)) ?_ ?_ ?_ ?_ ?_ ?_ ?_ h x y prog w E Q q
 ·exact fun R R'=>R.noneE (M:=fun v=>RcNeAt _ _ v _ _) (R'.noneE (M:=fun v=>RcNeAt _ _ _ v _) RcNeAt.none_none)
 ·exact fun z z R R'=>R.boolE (M:=fun v=>RcNeAt _ _ v _ _) (R'.boolE (M:=fun v=>RcNeAt _ _ _ v _) (RcNeAt.bool_bool _ _))
 ·exact fun z z R R'=>R.intE (M:=fun v=>RcNeAt _ _ v _ _) fun z=>R'.intE (M:=fun v=>RcNeAt _ _ _ v _) fun z=>RcNeAt.int_int _ _ _ _
 ·exact fun z z R R'=>R.strE (M:=fun v=>RcNeAt _ _ v _ _) fun z=>R'.strE (M:=fun v=>RcNeAt _ _ _ v _) fun z=>RcNeAt.str_str _ _ _ _
 ·refine fun x y b he R R'=>R.listE (M:=fun v=>RcNeAt _ _ v _ _) fun z vs z z i L=>R'.listE (M:=fun v=>RcNeAt _ _ _ v _) fun z vs' z z i' L'=>?_;have hl:vs.size=x.length:=L.length;have hl':vs'.size=y.length:=L'.length;by_cases hs:x.length=y.length
  ·rw [if_pos hs] at he;obtain ⟨_,e,h1,h2⟩:=jG he;rw [h2, ←hl];exact RcNeAt.lists ⟨_,i,rfl,_,rfl⟩ ⟨_,i',rfl,_,rfl⟩ (hl.trans (hs.trans hl'.symm)) hu1 fun j j1 j2=>xZ (yR 7) L L' h1 hu2 j j1 j2
  ·rw [if_neg hs] at he;exact sj he▸RcNeAt.lists_lengths ⟨_,i,rfl,_,rfl⟩ ⟨_,i',rfl,_,rfl⟩ (bne_iff_ne.mpr fun q=>hs (hl.symm.trans (q.trans hl'))) hu1
 ·refine fun x y b hs he R R'=>R.tupE (M:=fun v=>RcNeAt _ _ v _ _) fun z vs z z i L=>R'.tupE (M:=fun v=>RcNeAt _ _ _ v _) fun z vs' z z i' L'=>?_;have hl:vs.size=x.length:=L.length;have hl':vs.size=vs'.size:=(hl.trans hs).trans L'.length.symm;obtain ⟨_,e,h1,h2⟩:=jG he;have:b=((List.range (min vs.size vs'.size)).all e&&vs.size==vs'.size):=by rw [h2, ←hl',min_self,hl,beq_self_eq_true,Bool.and_true]
  rw [this];exact RcNeAt.tuples ⟨_,i,rfl,_,rfl⟩ ⟨_,i',rfl,_,rfl⟩ hu1 fun j j1 j2=>xZ (yR 7) L L' h1 hu2 j j1 j2
 ·refine fun x y b he R R'=>R.dSE (M:=fun v=>RcNeAt _ _ v _ _) fun z kvs z nm i e1 L=>R'.dSE (M:=fun v=>RcNeAt _ _ _ v _) fun z kvs' z nm' i' e1' L'=>?_;refine X33 (zzo (A:=A.in1) (yR 7) nm nm' i i' e1 e1' L L' he hu2) fun ent ent' r P h1 h2=>?_;rw [h2];exact fun z z z z q=>P.ne hu1 h1 q
theorem xY{op:CmpOp}{a b:Int}{r:Bool}(x:Rep s.heap X t v (.int a))(y:Rep s.heap X t' u (.int b))(h:∀ (i j:Tok) (Q:Value→Shared→Prop) (E:Value→Shared→Prop),Q (.bool r) s→wpAny (model prog w) A (compareOp op (.int a i) (.int b j)) Q E s):
  zj A X (compareOp op v u) s (.bool r):=
 x.intE (M:=fun v=>zj _ _ (compareOp _ v _) _ _) fun i=>y.intE (M:=fun v=>zj _ _ (compareOp _ _ v) _ _) fun j=>zs (h i j)
theorem zdH(x:Rep s.heap X t v d)(y:Rep s.heap X t' u e)(h:gz d (fun x y=>gz e fun x' y'=>some (decide (x<x')||(x==x'&&decide (y<y'))))=some b)(hu:A.units+9<cLine):zj A X (compareOp .Lt v u) s (.bool b):=by
 refine X22 (yS h) fun p q e1 h=>?_;refine X22 (yS h) fun p' q' e2 h=>?_;rw [e1] at x;rw [e2] at y
 (refine X42 (gj x) fun a n i j z14 ha=>?_;subst z14)
 (refine X42 (gj y) fun a' n' i' j' z13 ha'=>?_;subst z13)
 exact sj h▸zs fun Q E q=>richCompare_meets_room (op:=.Lt) ⟨_,ha,rfl⟩ ⟨_,ha',rfl⟩ F.slot_tuple_lt F.entry_tuple_lt (F.args_tuple_lt_2 _ _) (zkz _ _ _ _ _ _ _ _ _ _ _ _) ⟨ha,ha',fun e=>(nomatch e),q⟩ (lt_of_le_of_lt (le_add_right ..) hu)
theorem zdM(x:Rep s.heap X t v d)(y:Rep s.heap X t' u e)(h:gz d (fun x y=>gz e fun x' y'=>some (decide (x>x')||(x==x'&&decide (y>y'))))=some b)(hu:A.units+9<cLine):zj A X (compareOp .Gt v u) s (.bool b):=by
 refine X22 (yS h) fun p q e1 h=>?_;refine X22 (yS h) fun p' q' e2 h=>?_;rw [e1] at x;rw [e2] at y
 (refine X42 (gj x) fun a n i j z12 ha=>?_;subst z12)
 (refine X42 (gj y) fun a' n' i' j' z11 ha'=>?_;subst z11)
 exact sj h▸zs fun Q E q=>richCompare_meets_room (op:=.Gt) ⟨_,ha,rfl⟩ ⟨_,ha',rfl⟩ F.slot_tuple_gt F.entry_tuple_gt (F.args_tuple_gt_2 _ _) (zkj _ _ _ _ _ _ _ _ _ _ _ _) ⟨ha,ha',fun e=>(nomatch e),q⟩ (lt_of_le_of_lt (le_add_right ..) hu)
theorem p9{op:CmpOp}(x:Rep s.heap X t v d)(y:Rep s.heap X t' u e)(h:xJ op d e=some b)(hu:A.units+9<cLine):zj A X (compareOp op v u) s (.bool b):=by
 cases op with
 |Eq=>exact zs fun Q E q=>zvi 8 x y h (lt_of_le_of_lt (le_succ _) hu) prog w E Q q
 |NotEq=>refine X12 (map_some h) fun z h1 h2=>?_;exact h2▸zv1 x y h1 hu
 |Lt=>cases d with
  |int=>refine X12 (bind_some h) fun b h1 h2=>?_;rw [zW h1] at y;exact sj h2▸xY x y fun z z z z q=>PySem.P.lt_int q
  |_=>exact zdH x y h hu
 |Gt=>cases d with
  |int=>refine X12 (bind_some h) fun b h1 h2=>?_;rw [zW h1] at y;exact sj h2▸xY x y fun z z z z q=>PySem.P.gt_int q
  |_=>exact zdM x y h hu
 |LtE=>refine X12 (bind_some h) fun a h0 h=>?_;refine X12 (bind_some h) fun b h1 h2=>?_;rw [zW h0] at x;rw [zW h1] at y;exact sj h2▸xY x y fun z z z z q=>PySem.P.le_int q
 |GtE=>refine X12 (bind_some h) fun a h0 h=>?_;refine X12 (bind_some h) fun b h1 h2=>?_;rw [zW h0] at x;rw [zW h1] at y;exact sj h2▸xY x y fun z z z z q=>PySem.P.ge_int q
 |Is=>exact (p6 x y h).1
 |IsNot=>refine X12 (map_some h) fun z h1 h2=>?_;exact h2▸(p6 x y h1).2
 |In=>exact (zza x y h).1
 |NotIn=>refine X12 (map_some h) fun z h1 h2=>?_;exact h2▸(zza x y h1).2
end
end
section
open PySem.SeqAt
noncomputable def zY(d i:D):Option D:=
 match d with
 | .list ds=>match i with
  | .int k=>if zK k=true then (seqIndex? k ds.length).bind fun j=>ds[j]? else none
  |_=>none
 | .tup ds=>match i with
  | .int k=>if zK k=true then (seqIndex? k ds.length).bind fun j=>ds[j]? else none
  |_=>none
 | .str x=>match i with
  | .int k=>if zK k=true then (seqIndex? k x.length).bind fun j=>(x.cps[j]?).map fun c=>.str ⟨#[c]⟩ else none
  |_=>none
 | .dS kvs=>match i with
  | .str k=>zd kvs k
  |_=>none
 | .dI kvs=>match i with
  | .int k=>zd kvs k
  |_=>none
 |_=>none
section
variable {e:D}
theorem vz{k:Int}{j:Nat}(h:seqIndex? k n=some j):(0≤k∧j=k.toNat∧k.toNat<n)∨(k<0∧ -(n:Int)≤k∧j=(k+n).toNat):=by
 have key:∀ i:Int,(if (decide (0≤i)&&decide (i<n))=true then some i.toNat else none)=some j→0≤i∧j=i.toNat∧i.toNat<n:=fun i h=>by
  refine X02 (zk h) fun h1 h2=>?_;have h1:=(and_eq_true_iff.mp h1).imp of_decide_eq_true of_decide_eq_true;exact ⟨h1.1,(sj h2).symm,by omega⟩
 by_cases hk:k<0
 ·refine X03 (key (k+n) (by unfold seqIndex? at h;rwa [if_pos hk] at h)) fun a b z=>?_;exact .inr ⟨hk,by lia,b⟩
 ·exact .inl (key k (by unfold seqIndex? at h;rwa [if_neg hk] at h))
section
variable {k:Int}
theorem zky(x:Rep s.heap X t v (.list ds))(h:zY (.list ds) (.int k)=some r):zj A X (getItem v (.int k j)) s r:=
 x.listE (M:=fun v=>zj _ _ (getItem v _) _ _) fun a vs n z i L Q E q=>by
  refine X02 (zk h) fun hc h=>?_;refine X12 (bind_some h) fun p h1 h2=>?_;refine X12 (L.get p h2) fun w' hw rw'=>?_;have hc:=jr hc;rw [←L.length] at h1;rw [getElem?_toList] at hw;rcases vz h1 with ⟨k0,hp,_⟩|⟨k0,k1,hp⟩
  ·exact wpAny_getItem_list ⟨_,i,rfl,n,rfl⟩ k0 (by lia) (hp▸hw) (q _ _ (Grow.refl ..) rw')
  ·exact wpAny_getItem_list_neg ⟨_,i,rfl,n,rfl⟩ k0 k1 (by lia) (hp▸hw) (q _ _ (Grow.refl ..) rw')
theorem zv2(x:Rep s.heap X t v (.tup ds))(h:zY (.tup ds) (.int k)=some r):zj A X (getItem v (.int k j)) s r:=
 x.tupE (M:=fun v=>zj _ _ (getItem v _) _ _) fun a vs n z i L Q E q=>by
  refine X02 (zk h) fun hc h=>?_;refine X12 (bind_some h) fun p h1 h2=>?_;refine X12 (L.get p h2) fun w' hw rw'=>?_;have hc:=jr hc;rw [←L.length] at h1;exact PySem.P.getItem_tuple i (by lia) (by lia) h1 (getElem?_toList.symm.trans hw) (q _ _ (Grow.refl ..) rw')
theorem zv3{z:Str}(x:Rep s.heap X t v (.str z))(h:zY (.str z) (.int k)=some r):zj A X (getItem v (.int k j)) s r:=
 x.strE (M:=fun v=>zj _ _ (getItem v _) _ _) fun y Q E q=>by
  refine X02 (zk h) fun hc h=>?_;refine X12 (bind_some h) fun p h1 h2=>?_;refine X12 (map_some h2) fun c h3 h4=>?_;have hc:=jr hc;exact PyProof.Rows.getItem_str (c:=c) (by simp;lia) (by rw [h1];exact h3) (q _ _ (Grow.toks ..) (h4▸ .str _ _ _))
theorem zpc{z:List (Str × D)}{k:Str}(x:Rep s.heap X t v (.dS z))(h:zd z k=some r):zj A X (getItem v (.str k j)) s r:=
 x.dSE (M:=fun v=>zj _ _ (getItem v _) _ _) fun a kvs y nm i e1 L Q E q=>
  X12 ((jt (knd:=strKind prog w) k e1 L).1 _ h) fun w' hw rw'=>
  wpAny_getItem_of (strKind_is prog w k j) i.mapOf hw (q _ _ (Grow.toks ..) (rw'.grow (Grow.toks s (s.toks+1))))
theorem zpo{z:List (Int × D)}(x:Rep s.heap X t v (.dI z))(h:zd z k=some r):zj A X (getItem v (.int k j)) s r:=
 x.dIE (M:=fun v=>zj _ _ (getItem v _) _ _) fun a kvs y nm i e1 L Q E q=>
  X12 ((jt (knd:=intKind prog w) k e1 L).1 _ h) fun w' hw rw'=>
  wpAny_getItem_of (intKind_is prog w k j) i.mapOf hw (q _ _ (Grow.toks ..) (rw'.grow (Grow.toks s (s.toks+1))))
end
theorem vc(x:Rep s.heap X t v d)(y:Rep s.heap X t' u e)(h:zY d e=some r):zj A X (getItem v u) s r:=by
 cases e with
 |int k=>
  refine y.intE (M:=fun v=>zj _ _ (getItem _ v) _ _) fun j=>?_;cases d with
  |list ds=>exact zky x h
  |tup ds=>exact zv2 x h
  |str ds=>exact zv3 x h
  |dI ds=>exact zpo x h
  |_=>exact zq h
 |str k=>cases d with
  |dS ds=>exact y.strE (M:=fun v=>zj _ _ (getItem _ v) _ _) fun j=>zpc x h
  |_=>exact zq h
 |_=>cases d<;>exact zq h
theorem zkk{slice:Expr}(x:Rep s.heap X t v d)(y:Rep s.heap X t' u e)(h:zY d e=some r):zj A X (subscriptTail value slice v u) s r:=by
 have g:=vc (A:=A) x y h;revert g;cases d with
 |list ds=>exact x.listE (M:=fun v=>zj _ _ (getItem v _) _ _→zj _ _ (subscriptTail _ _ v _) _ _) fun z z z z i z g=>qk (T:="list") ⟨_,i,rfl⟩ list_getitem_lookup g
 |tup ds=>exact x.tupE (M:=fun v=>zj _ _ (getItem v _) _ _→zj _ _ (subscriptTail _ _ v _) _ _) fun z z z z i z g=>qk (T:="tuple") ⟨_,i,rfl⟩ PyProof.Rows.slot_tuple_getitem.lookup g
 |str ds=>exact x.strE (M:=fun v=>zj _ _ (getItem v _) _ _→zj _ _ (subscriptTail _ _ v _) _ _) fun z g=>qk (T:="str") (typeIs_str s _ _) PyProof.Rows.slot_str_getitem.lookup g
 |dS ds=>exact x.dSE (M:=fun v=>zj _ _ (getItem v _) _ _→zj _ _ (subscriptTail _ _ v _) _ _) fun z z z z i z z g=>qk (T:="dict") i.typeIs slot_dict_getitem.lookup g
 |dI ds=>exact x.dIE (M:=fun v=>zj _ _ (getItem v _) _ _→zj _ _ (subscriptTail _ _ v _) _ _) fun z z z z i z z g=>qk (T:="dict") i.typeIs slot_dict_getitem.lookup g
 |_=>exact zq h
noncomputable def zO(i:Int):Bool:=decide (-(2 ^ 40)≤i)&&decide (i≤2 ^ 40)
noncomputable def zyB:Int→List Int→Int
 |a,[]=>a
 |a,b::r=>zyB (if b<a then b else a) r
noncomputable def gx:D→Option D
 | .list ds=>if ds.length≤zz then some (.int ds.length) else none
 | .tup ds=>if ds.length≤zz then some (.int ds.length) else none
 |_=>none
noncomputable def zd8:D→Option D
 | .list ds=>(yi ds).bind fun ns=>if ns.length≤zz∧ns.all zO=true then some (.int ns.sum) else none
 |_=>none
noncomputable def zd9:D→Option D
 | .list ds=>(yi ds).bind fun ns=>match ns with
  |[]=>none
  |a::r=>some (.int (zyB a r))
 |_=>none
noncomputable def zhD(a b:D):Option D:=(asI a).bind fun a=>(asI b).bind fun b=>some (.int (if b>a then b else a))
noncomputable def zdN(a:D):Option D:=(asI a).bind fun a=>some (.int (if a<0 then -a else a))
noncomputable def xL(a b:D):Option D:=(asI a).bind fun a=>(asI b).bind fun b=>if b≠0∧zK b=true then some (.tup [.int (a.fdiv b),.int (a.fmod b)]) else none
noncomputable def zyD(a:D):Option D:=(asI a).bind fun a=>if zK a=true then some (.str (ofString (toString a))) else none
noncomputable def xC:D→Option D
 | .list ds=>if ds.length≤zz then some (.tup ds) else none
 |_=>none
noncomputable def zpa(d:D)(T:String):Option Bool:=
 match d with
 | .int z=>if T="int" then some true else if T="tuple" then some false else none
 | .tup z=>if T="int" then some false else if T="tuple" then some true else none
 |_=>none
theorem zg3(h:n≤zz):(n:Int)<2 ^ 63:=by unfold zz at h;lia
theorem pQ(x:Rep s.heap X t v d)(h:gx d=some r):zj A X (call (.builtin "len") [v]) s r:=by
 cases d with
 |list ds=>
  refine X02 (zk h) fun hs h=>?_;exact sj h▸x.listE (M:=fun v=>zj _ _ (call _ [v]) _ _) fun a vs n z i L Q E q=>call_len_list ⟨_,i,rfl,n,rfl⟩ (by rw [←L.length] at hs;exact zg3 hs) (by rw [←L.length] at q;exact q _ _ (Grow.toks ..) (.int _ _ _))
 |tup ds=>
  refine X02 (zk h) fun hs h=>?_;exact sj h▸x.tupE (M:=fun v=>zj _ _ (call _ [v]) _ _) fun a vs n z i L Q E q=>PySem.P.len_tuple i (by rw [←L.length] at hs;exact Int.not_le.mpr (zg3 hs)) (by rw [←L.length] at q;exact q _ _ (Grow.toks ..) (.int _ _ _))
 |_=>exact zq h
theorem j0:∀ {vs:List Value} {ns:List Int},IntsAre vs ns→∃ xs:Array (Int × Tok),vs.toArray=intItems xs∧xs.toList.map (fun z=>z.1)=ns
 |_,_,.nil=>⟨#[],by simp [intItems],rfl⟩
 |_,_,.cons n t h=>by
  refine X12 (j0 h) fun xs h1 h2=>?_;refine ⟨#[(n,t)]++xs,?_,by simp [h2]⟩;have:intItems (#[(n,t)]++xs)= #[Value.int n t]++intItems xs:=by simp [intItems]
  rw [this, ←h1];simp
theorem xO(xs:Array (Int × Tok)):∀ j,j≤xs.size→preSum (numAt xs) j=((xs.toList.map (fun z=>z.1)).take j).sum
 |0,_=>rfl
 |j+1,h=>by
  rw [preSum,xO xs j (by exact le_of_lt ‹_›)];have hj:j<(xs.toList.map (fun z=>z.1)).length:=by simp;assumption
  have hx:numAt xs j=(xs.toList.map (fun z=>z.1))[j]:=by
   have:j<xs.size:=by assumption
   simp [numAt,this]
  rw [List.take_succ_eq_append_getElem hj,List.sum_append,hx];simp
theorem pZ{i:Int}(h:zO i=true): -(2 ^ 40)≤i∧i≤2 ^ 40:=(and_eq_true_iff.mp h).imp of_decide_eq_true of_decide_eq_true
theorem pJ:∀ (ns:List Int),ns.all zO=true→ -(2 ^ 40 *(ns.length:Int))≤ns.sum∧ns.sum≤2 ^ 40 *(ns.length:Int)
 |[],_=>⟨Int.le_refl _,Int.le_refl _⟩
 |n::ns,h=>by
  refine X02 (and_eq_true_iff.mp h) fun h0 h=>?_;refine X02 (pJ ns h) fun h1 h2=>?_;have h0:=pZ h0;rw [sum_cons,length_cons];lia
theorem zv4{ns:List Int}(hs:ns.length≤zz∧ns.all zO=true)(j:Nat):InLong (ns.take j).sum:=by
 have:=pJ (ns.take j) (all_eq_true.mpr fun y hy=>all_eq_true.mp hs.2 y (mem_of_mem_take hy));have hl:(ns.take j).length≤100000:=le_trans (List.length_take_le' ..) hs.1;unfold InLong;lia
theorem gw{xs:Array (Int × Tok)}{ns:List Int}(e:xs.toList.map (fun z=>z.1)=ns){j:Nat}(h:j<xs.size):ns[j]? =some (numAt xs j):=by
 rw [←e,getElem?_map,getElem?_toList,Array.getElem?_eq_getElem h];simp [numAt,h]
theorem zkx(hA:A.handled=none)(x:Rep s.heap X t v d)(h:zd8 d=some r):zj A X (call (.builtin "sum") [v]) s r:=by
 cases d with
 |list ds=>
  refine X12 (bind_some h) fun ns h1 h2=>?_;refine X02 (zk h2) fun hs h2=>?_;refine sj h2▸x.listE (M:=fun v=>zj _ _ (call _ [v]) _ _) fun a vs n z i L Q E q=>?_;refine X12 (j0 (p7 L h1)) fun xs e1 e2=>?_;rw [toArray_toList] at e1;rw [e1] at i
  have hsub:∀ j,j≤xs.size→InLong (preSum (numAt xs) j):=fun j hj=>by
   rw [xO xs j hj,e2];exact zv4 hs j
  refine qg (sum_intList hA (l:=a) (xs:=xs) ⟨_,i,rfl,n,rfl⟩ (fun j hj=>⟨?_,hsub (j+1) hj⟩) (fun h' tk t' hk hz=>?_))
  ·have hm:=pZ (all_eq_true.mp hs.2 _ (mem_of_getElem? (gw e2 hj)));unfold InLong;lia
  ·rw [xO xs _ (le_refl _),e2,show xs.size=ns.length by rw [←e2,length_map];rfl,take_length];exact q _ _ (Grow.of_keep hk hz) (.int _ _ _)
 |_=>exact zq h
theorem pY:∀ (l:List Int) (a b:Int),zyB a (l++[b])=if b<zyB a l then b else zyB a l
 |[],_,_=>rfl
 |c::l,a,b=>pY l (if c<a then c else a) b
theorem pK(bt:Nat→Nat→Bool)(k:Nat):argBest bt (k+1)=if bt (k+1) (argBest bt k) then k+1 else argBest bt k:=rfl
theorem zq2(xs:Array (Int × Tok)):∀ k,k<xs.size→
  numAt xs (argBest (fun i j=>decide (numAt xs i<numAt xs j)) k)=zyB (numAt xs 0) (((xs.toList.map (fun z=>z.1)).drop 1).take k):=by
 intro k
 induction k with
 |zero=>intro z;rfl
 |succ k ih=>
  intro hk;have h2:=ih (by exact Nat.lt_of_succ_lt ‹_›);have hj:k<((xs.toList.map (fun z=>z.1)).drop 1).length:=by simp;lia
  have hx:((xs.toList.map (fun z=>z.1)).drop 1)[k]=numAt xs (k+1):=by
   simp [numAt,add_comm 1 k,hk]
  rw [List.take_succ_eq_append_getElem hj,pY,hx, ←h2,pK];by_cases hc:numAt xs (k+1)<numAt xs (argBest (fun i j=>decide (numAt xs i<numAt xs j)) k)
  ·rw [if_pos (by simpa using hc),if_pos hc]
  ·rw [if_neg (by simpa using hc),if_neg hc]
theorem zdR{xs:Array (Int × Tok)}{m:Int}{rest:List Int}(e:xs.toList.map (fun z=>z.1)=m::rest):0<xs.size∧numAt xs (argBest (fun i j=>decide (numAt xs i<numAt xs j)) (xs.size - 1))=zyB m rest:=by
 have hsz:xs.size=rest.length+1:=by have:=congrArg List.length e;rwa [length_map] at this
 have h0:0<xs.size:=hsz▸succ_pos _;refine ⟨h0,?_⟩;rw [zq2 xs _ (Nat.sub_lt h0 Nat.one_pos),e,hsz, ←sj ((gw e h0):some m=_)]
 show zyB m (List.take rest.length rest)=_
 rw [take_length]
theorem zkw(hA:A.handled=none)(x:Rep s.heap X t v d)(h:zd9 d=some r):zj A X (call (.builtin "min") [v]) s r:=by
 cases d with
 |list ds=>
  refine X12 (bind_some h) fun ns h1 h2=>?_;cases ns with
  |nil=>exact zq h2
  |cons m rest=>
   refine sj h2▸x.listE (M:=fun v=>zj _ _ (call _ [v]) _ _) fun a vs n z i L Q E q=>?_;refine X12 (j0 (p7 L h1)) fun xs e1 e2=>?_;rw [toArray_toList] at e1;rw [e1] at i;have hm:=zdR e2;refine qg (min_intList hA (l:=a) (xs:=xs) ⟨_,i,rfl,n,rfl⟩ hm.1 (fun v' h' tk hv hk hz=>?_));refine X11 (intItems_at hv) fun u hu=>?_;rw [hu,hm.2];exact q _ _ (Grow.of_keep hk hz) (.int _ _ _)
 |_=>exact zq h
theorem zkv(hA:A.handled=none)(x:Rep s.heap X t v d)(y:Rep s.heap X t' u e)(h:zhD d e=some r):zj A X (call (.builtin "max") [v,u]) s r:=by
 refine X12 (bind_some h) fun a h1 h=>?_;refine X12 (bind_some h) fun b h2 h=>?_;rw [zW h1] at x;rw [zW h2] at y;refine sj h▸x.intE (M:=fun v=>zj _ _ (call _ [v,_]) _ _) fun z=>y.intE (M:=fun v=>zj _ _ (call _ [_,v]) _ _) fun z Q E q=>qg (max_two_ints hA fun h' tk hk hz=>?_);by_cases hc:b>a
 ·rw [if_pos hc] at q ⊢; exact q _ _ (Grow.of_keep hk hz) (.int _ _ _)
 ·rw [if_neg hc] at q ⊢; exact q _ _ (Grow.of_keep hk hz) (.int _ _ _)
theorem zku(x:Rep s.heap X t v d)(h:zdN d=some r):zj A X (call (.builtin "abs") [v]) s r:=by
 refine X12 (bind_some h) fun a h1 h=>?_;rw [zW h1] at x;exact sj h▸x.intE (M:=fun v=>zj _ _ (call _ [v]) _ _) fun z Q E q=>call_abs_int fun u tk=>q _ _ (Grow.toks ..) (.int _ _ _)
theorem pX(X₀:XOk X s.heap)(x:Rep s.heap X t v d)(y:Rep s.heap X t' u e)(h:xL d e=some r):zj A X (call (.builtin "divmod") [v,u]) s r:=by
 refine X12 (bind_some h) fun a h1 h=>?_;refine X12 (bind_some h) fun b h2 h=>?_;refine X02 (zk h) fun hc h=>?_;rw [zW h1] at x;rw [zW h2] at y
 exact sj h▸x.intE (M:=fun v=>zj _ _ (call _ [v,_]) _ _) fun z=>y.intE (M:=fun v=>zj _ _ (call _ [_,v]) _ _) fun z Q E q=>
  divmod_int hc.1 (q _ _ (Grow.push ..) (vA X₀ (.cons (.int _ _ _) (.cons (.int _ _ _) .nil)))) (.inl (xk hc.2))
theorem zkg(x:Rep s.heap X t v d)(h:zyD d=some r):zj A X (call (.type "str") [v]) s r:=by
 refine X12 (bind_some h) fun a h1 h=>?_;refine X02 (zk h) fun hc h=>?_;rw [zW h1] at x;refine sj h▸x.intE (M:=fun v=>zj _ _ (call _ [v]) _ _) fun z Q E q=>PySem.P.str_of_int ?_ (q _ _ (Grow.toks ..) (.str _ _ _));have hc:=jr hc;by_cases h0:a.natAbs=0
 ·rw [h0];decide+kernel
 ·have:=(log2_lt (n:=a.natAbs) (k:=62) h0).mpr (by omega);exact lt_of_lt_of_le ‹_› (by decide)
theorem gu{prog:Program}{w:World}{it:Addr}{o:Obj}{Q:List Value→Shared→Prop}(ho:s.heap.get? it=some o)(hc:o.cls= .type "list")(hd:o.data= .seq items n)
  (hQ:∀ h',(∀ b o',s.heap.get? b=some o'→h'.get? b=some o')→s.heap.objs.size≤h'.objs.size→Q items.toList { s with heap:=h' })(hsz:items.size≤sizeLine):wpAny (model prog w) A (collect (.ref it)) Q E s:=
 qg (wpAny_collect_seq (hsz:=hsz) it (.inl rfl) ho hc hd fun h' hk hz=>hQ h' hk hz)
theorem kK(l:Addr)(o:Obj)(items:Array Value)(n:Nat)(hc:o.cls= .type "list")(hd:o.data= .seq items n)(hsz:items.size≤sizeLine):
  Meets (Builtin.«tuple.__new__» ⟨[.type "tuple",.ref l],[]⟩)
   (fun z R s=>s.heap.get? l=some o∧∀ h':Heap,(∀ b o',s.heap.get? b=some o'→h'.get? b=some o')→s.heap.objs.size≤h'.objs.size→R (.ok (.ret (.ref h'.objs.size))) { s with heap:=h'.push { cls:=.type "tuple",data:=.seq items } }):=
 .of_wp fun prog w A R s h=>by
  obtain ⟨hp,g,d,tk,os⟩:=s;refine X02 h fun ht h=>?_;have hsub:=sub_tuple_self;have hinit:=init_tuple_lookup;have hmh:=madeHere_tuple;have hT:Shared.TypeIs ⟨hp,g,d,tk,os⟩ (.ref l) "list":=⟨o,ht,hc⟩
  wp_walk using AutoSeq1.wpAny_loadPart' ht,wpAny_typeOf hT,gu (hsz:=hsz) ht hc hd
  intro h' hk hz
  show wpAny _ _ (Builtin.Tuple.tupleExact items.toList.toArray >>= fun v=>ret v) _ _ _
  unfold Builtin.Tuple.tupleExact;refine wpAny_bind (wpAny_newObj_type ?_ (by show items.toList.toArray.size≤sizeLine;simpa using hsz));refine wpAny_pure ⟨_,rfl,?_⟩;have e:items.toList.toArray=items:=by simp
  rw [e];exact h h' hk hz
theorem xA(X₀:XOk X s.heap)(x:Rep s.heap X t v d)(h:xC d=some r):zj A X (call (.type "tuple") [v]) s r:=by
 cases d with
 |list ds=>
  refine X02 (zk h) fun hs h=>?_
  exact sj h▸x.listE (M:=fun v=>zj _ _ (call _ [v]) _ _) fun a vs n z i L Q E q=>
   callType_new F.called_tuple (by decide) (F.typeCall_tuple_1 _) (F.newCall_tuple_1 _) (fun obj=>F.args_object_init_2 obj _) F.entry_tuple_new
    (kK a _ vs n rfl rfl (zn (by rw [←L.length] at hs;exact hs))) ⟨i,fun h' hk hz=>⟨⟨_,get?_push_size _ rfl,rfl⟩,q _ _ (Grow.of_keep (fun b o e=>get?_push_of_some _ (hk b o e)) (le_trans hz (by rw [size_push];exact le_succ _)))
     (.tup (X₀.root hz _) ⟨0,get?_push_size _ rfl⟩ (zu.move ⟨fun b o z z e=>get?_push_of_some _ (hk b o e),fun z z n z=>n⟩ L))⟩⟩
 |_=>exact zq h
theorem zg4{c c':Prop}[Decidable c][Decidable c']{a b r:α}(h:(if c then some a else if c' then some b else none)=some r):(c∧a=r)∨(c'∧b=r):=
 if q:c then .inl ⟨q,sj ((if_pos q).symm.trans h)⟩ else .inr ((zk ((if_neg q).symm.trans h)).imp id sj)
theorem zkp(x:Rep s.heap X t v d){T:String}(h:zpa d T=some b):zj A X (call (.builtin "isinstance") [v,.type T]) s (.bool b):=by
 cases d with
 |int i=>exact x.intE (M:=fun v=>zj _ _ (call _ [v,_]) _ _) fun z=>(zg4 h).elim (fun hq=>X02 hq fun e q=>e▸q▸zs fun Q E q=>PySem.IsiPair.int_int q) fun hq=>X02 hq fun e q=>e▸q▸qo fun Q E q=>PySem.IsiPair.int_tuple q
 |tup ds=>exact x.tupE (M:=fun v=>zj _ _ (call _ [v,_]) _ _) fun z z z z i z=>(zg4 h).elim (fun hq=>X02 hq fun e q=>e▸q▸qo fun Q E q=>PySem.IsiPair.tuple_int i rfl q) fun hq=>X02 hq fun e q=>e▸q▸zs fun Q E q=>PySem.IsiPair.tuple_tuple i rfl q
 |_=>exact zq h
end
end
variable {m:Nat}
section
open PySem.SeqAt PySem.Builtin.Str PySem.MeetsSeq
noncomputable def y0(name:Str)(o:D):Option (String × String):=
 match o with
 | .str z=>if name="split" then some ("str","str.split") else if name="join" then some ("str","str.join") else if name="startswith" then some ("str","str.startswith") else if name="endswith" then some ("str","str.endswith") else none
 | .list z=>if name="index" then some ("list","list.index") else none
 | .dS z=>if name="get" then some ("dict","dict.get") else none
 | .dI z=>if name="get" then some ("dict","dict.get") else none
 |_=>none
noncomputable def vo:List D→Option (List Str)
 |[]=>some []
 |d::r=>match d with
  | .str i=>(vo r).map (i:: ·)
  |_=>none
noncomputable def kX:List D→Option (List Bool)
 |[]=>some []
 |d::r=>match d with
  | .bool i=>(kX r).map (i:: ·)
  |_=>none
noncomputable def kW(x y:Str):Bool:=
 !(decide (x.length<y.length)||decide (PySem.Builtin.Str.strKind x<PySem.Builtin.Str.strKind y))&& !(y.length==0)&& !(occurrences x y 0 x.length (x.length+1)).isEmpty&&decide (x.length≤zz)&&decide ((partsBetween x (occurrences x y 0 x.length (x.length+1)) y.length).length≤zz)
noncomputable def zze(x y:Str):List Str:=partsBetween x (occurrences x y 0 x.length (x.length+1)) y.length
noncomputable def jP(name:Str)(o:D)(args:List D):Option D:=
 match o with
 | .str x=>match args with
  |[a]=>match a with
   | .str y=>
    if name="split" then (if kW x y=true then some (.list ((zze x y).map .str)) else none)
    else if name="startswith" then some (.bool (Txt.startswith x y))
    else if name="endswith" then some (.bool (Txt.endswith x y))
    else none
   | .list ds=>if name="join" then (vo ds).bind fun ys=>if JoinOk x ys=true then some (.str (Txt.join x ys)) else none else none
   |_=>none
  |_=>none
 | .list ds=>match args with
  |[a]=>match a with
   | .int k=>if name="index" then (yi ds).bind fun ns=>if ns.contains k=true∧ns.length≤zz then some (.int (ns.idxOf k)) else none else none
   | .bool k=>if name="index" then (kX ds).bind fun ns=>if ns.contains k=true∧ns.length≤zz then some (.int (ns.idxOf k)) else none else none
   |_=>none
  |_=>none
 | .dS kvs=>match args with
  |[a,d]=>match a with
   | .str k=>if name="get" then some ((zd kvs k).getD d) else none
   |_=>none
  |_=>none
 | .dI kvs=>match args with
  |[a,d]=>match a with
   | .int k=>if name="get" then some ((zd kvs k).getD d) else none
   |_=>none
  |_=>none
 |_=>none
theorem zkb{c:Prop}[Decidable c]{a b r:Option α}(h:(if c then a else b)=r):(c∧a=r)∨b=r:=
 if q:c then .inl ⟨q,(if_pos q).symm.trans h⟩ else .inr ((if_neg q).symm.trans h)
theorem zM{T id T' id':String}{M:String→String→Prop}(h:some (T',id')=some (T,id))(f:M T' id'):M T id:=by cases h;exact f
section
variable {e o:D} {name:Str} {T id:String}
noncomputable abbrev MF(s:Shared)(v:Value)(name:Str)(T id:String):Prop:=PlainAttrs T∧Slot T name id∧typeOf (.builtin id)=pure (.type "method_descriptor")∧s.TypeIs v T∧∀ a,v= .ref a→∃ ob,s.heap.get? a=some ob∧ob.dict=none
theorem zv5(h:y0 name (.str x)=some (T,id)):MF s (.str x j) name T id:=by
 rcases zkb h with ⟨e,h⟩|h
 ·exact e▸zM h ⟨F.plainAttrs_str,F.slot_str_split,F.type_str_split,typeIs_str ..,fun a e=>nomatch e⟩
 rcases zkb h with ⟨e,h⟩|h
 ·exact e▸zM h ⟨F.plainAttrs_str,F.slot_str_join,F.type_str_join,typeIs_str ..,fun a e=>nomatch e⟩
 rcases zkb h with ⟨e,h⟩|h
 ·exact e▸zM h ⟨F.plainAttrs_str,F.slot_str_startswith,F.type_str_startswith,typeIs_str ..,fun a e=>nomatch e⟩
 ·refine X02 (zk h) fun e h=>?_;exact e▸zM h ⟨F.plainAttrs_str,F.slot_str_endswith,F.type_str_endswith,typeIs_str ..,fun a e=>nomatch e⟩
theorem pW{K:Type}[DecidableEq K]{knd:KeyKind prog w K}{kvs:List (K × Value)}(h:(if name="get" then some (("dict","dict.get"):String × String) else none)=some (T,id))(i:s.heap.DictOf knd a kvs):MF s (.ref a) name T id:=by
 refine X02 (zk h) fun e h=>?_;exact e▸zM h ⟨F.plainAttrs_dict,F.slot_dict_get,F.type_dict_get,i.typeIs,i.mapOf.noDict⟩
theorem zjD(h:y0 name o=some (T,id))(x:Rep s.heap X t v o):MF s v name T id:=by
 cases o with
 |str=>exact x.strE (M:=fun v=>MF _ v _ _ _) fun z=>zv5 h
 |list ds=>
  refine X02 (zk h) fun e h=>?_;exact x.listE (M:=fun v=>MF _ v _ _ _) fun z z z z i z=>e▸zM h ⟨F.plainAttrs_list,F.slot_list_index,F.type_list_index,⟨_,i,rfl⟩,fun a e=>⟨_,Value.ref.inj e▸i,rfl⟩⟩
 |dS=>exact x.dSE (M:=fun v=>MF _ v _ _ _) fun z z z z i z z=>pW h i
 |dI=>exact x.dIE (M:=fun v=>MF _ v _ _ _) fun z z z z i z z=>pW h i
 |_=>exact zq h
theorem xw{h:Heap}:∀ (ys:List Str) (k:Nat),zu h X (strsFrom k ys) (ys.map .str)
 |[],_=>.nil
 |y::ys,k=>.cons (.str _ _ _) (xw ys (k+1))
theorem zkd{h:Heap}:∀ {vs:List Value} {ds:List D} {ys:List Str},zu h X vs ds→vo ds=some ys→∃ l:List (Str × Tok),vs=strValues l∧l.map (fun z=>z.1)=ys
 |_,[],_,r,h=>⟨[],r.inv,sj h⟩
 |_,d::ds,ys,r,h=>r.consE (M:=fun vs=>∃ l:List (Str × Tok),vs=strValues l∧l.map (fun z=>z.1)=ys) fun v us a b=>by
  cases d with
  |str x=>
   refine X12 (map_some h) fun ys' h1 h2=>?_;refine X12 (zkd b h1) fun l h3 h4=>?_;exact h2▸a.strE (M:=fun v=>∃ l:List (Str × Tok),v::us=strValues l∧l.map (fun z=>z.1)=x::ys') fun j=>⟨(x,j)::l,congrArg (Value.str x j:: ·) h3,congrArg (x:: ·) h4⟩
  |_=>exact zq h
theorem zkf(a b:Bool):EqGives (.bool a) (.bool b) (a==b):=fun prog w A E s Q h=>EqAt.bool_bool a b prog w E Q h
theorem zg5[DecidableEq α]{ns:List α}{k:α}(h:ns.contains k=true):∃ hj:ns.idxOf k<ns.length,ns[ns.idxOf k]=k∧∀ m (hm:m<ns.length),m<ns.idxOf k→ns[m]≠k:=by
 have hm:k∈ns:=by simpa using h
 have hl:=List.idxOf_lt_length_of_mem hm;refine ⟨hl,by simp,fun m hm' hlt he=>?_⟩;have:=List.not_of_lt_findIdx (p:=(· ==k)) (xs:=ns) (i:=m) hlt;simp [he] at this
theorem zzi{h:Heap}:∀ {vs:List Value} {ds:List D} {ys:List Bool},zu h X vs ds→kX ds=some ys→vs=ys.map Value.bool
 |_,[],_,r,h=>sj h▸r.inv
 |_,d::ds,ys,r,h=>r.consE (M:=fun vs=>vs=ys.map Value.bool) fun v us a b=>by
  cases d with
  |bool x=>
   refine X12 (map_some h) fun ys' h1 h2=>?_;rw [←h2,zzi b h1];exact congrArg (· ::ys'.map Value.bool) a.inv
  |_=>exact zq h
theorem yT(xs:Array (Int × Tok)):(intItems xs).size=xs.size:=Array.size_map ..
theorem zz0(h:n<m)(h':m≤zz):(n:Int)<2 ^ 63 - 1:=by unfold zz at h';lia
section
variable {args:List D}
theorem zjF(X₀:XOk X s.heap)(hok:kW x y=true):zj A X (call (.builtin "str.split") [.str x j,.str y i]) s (.list ((zze x y).map .str)):=by
 unfold kW at hok;refine X02 (and_eq_true_iff.mp hok) fun h1 h5=>?_;refine X02 (and_eq_true_iff.mp h1) fun h1 h4=>?_;refine X02 (and_eq_true_iff.mp h1) fun h1 h3=>?_;refine X02 (and_eq_true_iff.mp h1) fun h1 h2=>?_;have n:∀ {b:Bool},(!b)=true→b=false:=fun h=>by rwa [not_eq_true'] at h
 exact fun Q E q=>call_meets F.slot_str_split (typeIs_str ..) F.entry_str_split (F.args_str_split_2 _ _) (meets_str_split_sep _ _ _ _ (n h1) (n h2) (n h3) (zn (of_decide_eq_true h4)) (zn (of_decide_eq_true h5))) (q _ _ (Grow.push ..)
  (kZ X₀ (by rw [List.toList_toArray];exact xw _ _)))
theorem zjH{ns:List Int}{k:Int}(x:Rep s.heap X t v (.list ds))(h1:yi ds=some ns)(hok:ns.contains k=true∧ns.length≤zz):zj A X (call (.builtin "list.index") [v,.int k j]) s (.int (ns.idxOf k)):=
 x.listE (M:=fun v=>zj _ _ (call _ [v,_]) _ _) fun a vs n r i L Q E q=>by
  refine X12 (zg5 hok.1) fun hj h3 h4=>?_;refine X12 (j0 (p7 L h1)) fun xs e1 e2=>?_;rw [toArray_toList] at e1;subst e1;have hlen:(intItems xs).size=ns.length:=by rw [←e2,length_map];exact (yT xs)
  have hat:∀ m (h:m<(intItems xs).size),∃ u,(intItems xs)[m]= .int (ns[m]'(hlen▸h)) u:=fun m h=>by
   have h':m<xs.size:=yT xs▸h;refine ⟨xs[m].2,?_⟩;have:=gw e2 h';rw [getElem?_eq_getElem (hlen▸h)] at this;rw [sj this];simp [intItems,numAt,h']
  refine call_meets F.slot_list_index ⟨_,i,rfl⟩ F.entry_list_index (F.args_list_index_2 _ _)
   (list_index a _ n (.int k j) (fun y=>match y with| .int z r=>z==k|_=>false) (fun y hy=>?_) (ns.idxOf k) (hlen▸hj) (zz0 hj hok.2) ?_ ?_) ⟨i,q _ _ (Grow.toks ..) (.int _ _ _)⟩
  ·obtain ⟨m,hm,rfl⟩:=Array.mem_iff_getElem.mp hy;refine X11 (hat m hm) fun u hu=>?_;rw [hu];exact EqGives.int _ _ _ _
  ·refine X11 (hat (ns.idxOf k) (hlen▸hj)) fun u hu=>?_;rw [hu];exact beq_iff_eq.mpr h3
  ·intro m hm hlt;refine X11 (hat m hm) fun u hu=>?_;rw [hu];exact beq_eq_false_iff_ne.mpr (h4 m _ hlt)
theorem zq3{ns:List Bool}{k:Bool}(x:Rep s.heap X t v (.list ds))(h1:kX ds=some ns)(hok:ns.contains k=true∧ns.length≤zz):zj A X (call (.builtin "list.index") [v,.bool k]) s (.int (ns.idxOf k)):=
 x.listE (M:=fun v=>zj _ _ (call _ [v,_]) _ _) fun a vs n u i L Q E q=>by
  refine X12 (zg5 hok.1) fun hj h3 h4=>?_;have hb:=zzi L h1;have hlen:vs.size=ns.length:=(congrArg List.length hb).trans (length_map ..)
  have hat:∀ m (h:m<vs.size),vs[m]= .bool (ns[m]'(hlen▸h)):=fun m h=>by
   have:vs.toList[m]? =some (.bool (ns[m]'(hlen▸h))):=by rw [hb,getElem?_map,getElem?_eq_getElem (hlen▸h)];rfl
   rw [getElem?_toList,Array.getElem?_eq_getElem h] at this;exact sj this
  refine call_meets F.slot_list_index ⟨_,i,rfl⟩ F.entry_list_index (F.args_list_index_2 _ _)
   (list_index a vs n (.bool k) (fun y=>match y with| .bool z=>z==k|_=>false) (fun y hy=>?_) (ns.idxOf k) (hlen▸hj) (zz0 hj hok.2) ?_ ?_) ⟨i,q _ _ (Grow.toks ..) (.int _ _ _)⟩
  ·obtain ⟨m,hm,rfl⟩:=Array.mem_iff_getElem.mp hy;rw [hat m hm];exact zkf _ _
  ·rw [hat _ (hlen▸hj)];exact beq_iff_eq.mpr h3
  ·intro m hm hlt;rw [hat m hm];exact beq_eq_false_iff_ne.mpr (h4 m _ hlt)
theorem zz1{K:Type}[DecidableEq K]{knd:KeyKind prog w K}{kvs:List (K × Value)}{kd:List (K × D)}{k:K}{kv:Value}(hk:knd.is k kv=true)(nm:(a==sysModules)=false)(i:s.heap.DictOf knd a kvs)(e1:kvs.map (fun z=>z.1)=kd.map (fun z=>z.1))
  (L:zu s.heap X (kvs.map (fun z=>z.2)) (kd.map (fun z=>z.2)))(z:Rep s.heap X false u d):zj A X (call (.builtin "dict.get") [.ref a,kv,u]) s ((zd kd k).getD d):=by
 have hk':=jt (knd:=knd) k e1 L;intro Q E q;refine call_meetsIn F.slot_dict_get i.typeIs F.entry_dict_get (F.args_dict_get_3 _ _ _) (meets_dict_get_default knd _ hk nm _) ⟨_,i.mapOf,?_⟩;cases hl:zd kd k with
 |none=>rw [hk'.2 hl];exact q _ _ (Grow.toks ..) (by rw [hl];exact z.grow (Grow.toks s _))
 |some d'=>
  refine X12 (hk'.1 d' hl) fun v' hv' r'=>?_;rw [hv'];exact q _ _ (Grow.toks ..) (by rw [hl];exact r'.grow (Grow.toks s _))
theorem zkh(X₀:XOk X s.heap)(hm:y0 name (.str x)=some (T,id))(h:jP name (.str x) [.str y]=some r):zj A X (call (.builtin id) [.str x j,.str y i]) s r:=by
 rcases zkb h with ⟨e,h⟩|h
 ·subst e;refine X02 (zk h) fun hok h=>?_;exact zM (M:=fun z id=>zj _ _ (call (.builtin id) _) _ _) (hm:some ("str","str.split")=_) (sj h▸zjF X₀ hok)
 rcases zkb h with ⟨e,h⟩|h
 ·subst e;exact zM (M:=fun z id=>zj _ _ (call (.builtin id) _) _ _) (hm:some ("str","str.startswith")=_) (sj h▸zs fun Q E q=>PySem.SC.startswith q)
 ·refine X02 (zk h) fun e h=>?_;subst e;exact zM (M:=fun z id=>zj _ _ (call (.builtin id) _) _ _) (hm:some ("str","str.endswith")=_) (sj h▸zs fun Q E q=>PySem.SC.endswith q)
theorem zkm(hm:y0 name (.str x)=some (T,id))(y:Rep s.heap X t u (.list ds))(h:jP name (.str x) [.list ds]=some r):zj A X (call (.builtin id) [.str x j,u]) s r:=by
 refine X02 (zk h) fun e h=>?_;subst e;refine X12 (bind_some h) fun ys h1 h=>?_;refine X02 (zk h) fun hok h=>?_;refine zM (M:=fun z id=>zj _ _ (call (.builtin id) _) _ _) (hm:some ("str","str.join")=_) (sj h▸y.listE (M:=fun u=>zj _ _ (call _ [_,u]) _ _) fun a vs n z i L Q E q=>?_);refine X12 (zkd L h1) fun l h3 h4=>?_;rw [show vs=(strValues l).toArray from Array.toList_inj.mp h3] at i;exact PySem.SC.join ⟨_,i,rfl,n,rfl⟩ h4 hok fun t' k=>q _ _ (Grow.toks ..) (.str _ _ _)
theorem zkn(X₀:XOk X s.heap)(hm:y0 name o=some (T,id))(x:Rep s.heap X t v o)(L:zu s.heap X vs args)(h:jP name o args=some r):
  zj A X (call (.builtin id) (v::vs)) s r:=by
 cases o with
 |str x'=>match args,h,L with
  |[a],h,L=>
   refine L.oneE (M:=fun vs=>zj _ _ (call _ (_::vs)) _ _) fun u y=>x.strE (M:=fun v=>zj _ _ (call _ [v,_]) _ _) fun j=>?_;cases a with
   |str=>exact y.strE (M:=fun v=>zj _ _ (call _ [_,v]) _ _) fun i=>zkh X₀ hm h
   |list=>exact zkm hm y h
   |_=>exact zq h
 |list ds=>match args,h,L with
  |[a],h,L=>
   refine L.oneE (M:=fun vs=>zj _ _ (call _ (_::vs)) _ _) fun u y=>?_;cases a with
   |int k=>
    refine X02 (zk h) fun e h=>?_;subst e;refine X12 (bind_some h) fun ns h1 h=>?_;refine X02 (zk h) fun hok h=>?_;exact zM (M:=fun q id=>zj _ _ (call (.builtin id) _) _ _) (hm:some ("list","list.index")=_) (sj h▸y.intE (M:=fun u=>zj _ _ (call _ [_,u]) _ _) fun q=>zjH x h1 hok)
   |bool k=>
    refine X02 (zk h) fun e h=>?_;subst e;refine X12 (bind_some h) fun ns h1 h=>?_;refine X02 (zk h) fun hok h=>?_;exact zM (M:=fun q id=>zj _ _ (call (.builtin id) _) _ _) (hm:some ("list","list.index")=_) (sj h▸y.boolE (M:=fun u=>zj _ _ (call _ [_,u]) _ _) (zq3 x h1 hok))
   |_=>exact zq h
 |dS kd=>match args,h,L with
  |[a,d],h,L=>
   refine L.consE (M:=fun vs=>zj _ _ (call _ (_::vs)) _ _) fun u us y L=>L.oneE (M:=fun vs=>zj _ _ (call _ (_::_::vs)) _ _) fun u' z=>?_;cases a with
   |str k=>
    refine X02 (zk h) fun e h=>?_;subst e
    exact zM (M:=fun q id=>zj _ _ (call (.builtin id) _) _ _) (hm:some ("dict","dict.get")=_) (sj h▸y.strE (M:=fun u=>zj _ _ (call _ [_,u,_]) _ _) fun j=>
     x.dSE (M:=fun v=>zj _ _ (call _ (v::_)) _ _) fun a kvs q nm i e1 L'=>zz1 (strKind_is prog w k j) nm i e1 L' z)
   |_=>exact zq h
 |dI kd=>match args,h,L with
  |[a,d],h,L=>
   refine L.consE (M:=fun vs=>zj _ _ (call _ (_::vs)) _ _) fun u us y L=>L.oneE (M:=fun vs=>zj _ _ (call _ (_::_::vs)) _ _) fun u' z=>?_;cases a with
   |int k=>
    refine X02 (zk h) fun e h=>?_;subst e
    exact zM (M:=fun q id=>zj _ _ (call (.builtin id) _) _ _) (hm:some ("dict","dict.get")=_) (sj h▸y.intE (M:=fun u=>zj _ _ (call _ [_,u,_]) _ _) fun j=>
     x.dIE (M:=fun v=>zj _ _ (call _ (v::_)) _ _) fun a kvs q nm i e1 L'=>zz1 (intKind_is prog w k j) nm i e1 L' z)
   |_=>exact zq h
 |_=>exact zq h
end
end
end
variable {tgt:Expr}
section
structure Src(A:Around)(lo:Nat)(h₂:Heap)(X:List Addr)(t tp:Bool)(I:Addr)(ds:List D)(fp wr:List Addr)
  (St:Nat→Heap→Prop)(Mid:Nat→Value→Heap→Prop):Prop where
 sub:∀ b∈wr,b∈fp
 iw:I∈wr
 lt:∀ b∈fp,b<h₂.objs.size
 new:∀ b∈wr,lo≤b
 ne:∀ b∈fp,b≠P₀∧b≠cStatics
 out:t=false→∀ b∈fp,b∉X
 frame:∀ i h h',St i h→(∀ b∈fp,∀ o,h.get? b=some o→h'.get? b=some o)→St i h'
 start:St 0 h₂
 item:∀ i (s:Shared) (d:D) (Q:Option Value→Shared→Prop) (E:Value→Shared→Prop),ds[i]? =some d→St i s.heap→
  (∀ v h' tk,(∀ X':List Addr,P₀∈X'→cStatics∈X'→(∀ a∈X',a<s.heap.objs.size∧(a∈X∨lo≤a))→(∀ a o,a∉X'→h₂.get? a=some o→h'.get? a=some o)→Rep h' X' false v d)→
   Mid i v h'→(∀ b o,b∉wr→s.heap.get? b=some o→h'.get? b=some o)→Q (some v) { s with heap:=h',toks:=tk })→wpAny (model prog w) A (pyNext (.ref I)) Q E s
 go:∀ (tgt:Expr) i v (s:Shared) (Q:Unit→Shared→Prop) (E:Value→Shared→Prop),(tp=true→∃ elts k pos,tgt= .Tuple elts k pos)→Mid i v s.heap→
  (∀ h' tk,St (i+1) h'→(∀ b o,b∉wr→s.heap.get? b=some o→h'.get? b=some o)→Q () { s with heap:=h',toks:=tk })→wpAny (model prog w) A (letOwnedTupleGo tgt (.ref I) v) Q E s
 done:∀ (s:Shared) (Q:Option Value→Shared→Prop) (E:Value→Shared→Prop),St ds.length s.heap→
  (∀ h' tk,(∀ b o,b∉wr→s.heap.get? b=some o→h'.get? b=some o)→Q none { s with heap:=h',toks:=tk })→wpAny (model prog w) A (pyNext (.ref I)) Q E s
 self:∀ i (s:Shared) (Q:Value→Shared→Prop) (E:Value→Shared→Prop),St i s.heap→Q (.ref I) s→wpAny (model prog w) A (pyIter (.ref I)) Q E s
def j5(A:Around)(n₀:Nat)(X:List Addr)(t tp:Bool)(v:Value)(ds:List D)(s:Shared):Prop:=
 ∀ (Q:Value→Shared→Prop) (E:Value→Shared→Prop),(∀ I s' lo fp wr St Mid,Grow s s'→n₀≤lo→Src A lo s'.heap X t tp I ds fp wr St Mid→Q (.ref I) s')→
  wpAny (model prog w) A (pyIter v) Q E s
noncomputable def zq4(T:String):Bool:=["enumerate","zip","dict_itemiterator","dict_reverseitemiterator","odict_iterator","itertools.zip_longest","itertools.pairwise"].contains T
section
variable {e:D}
set_option backward.match.sparseCases true in
theorem zv6{I:Addr}{o:Obj}{T:String}{vs:Array Value}{Q:Unit→Shared→Prop}(ho:s.heap.get? I=some o)(hc:o.cls= .type T)(hd:o.data= .fields vs)(hT:zq4 T=false)(h:Q () s):
  wpAny (model prog w) A (letOwnedTupleGo tgt (.ref I) v) Q E s:=by
 have key:∀ a,wpAny (model prog w) A (load I >>= fun o=>match o.cls,o.data with
   | .type n,.fields vs=>
    if ["enumerate","zip","dict_itemiterator","dict_reverseitemiterator","odict_iterator","itertools.zip_longest","itertools.pairwise"].contains n&&vs[0]? ==some (rawInt a) then do
     rule "for.unpacks-the-owned-tuple"
     updateField I 0 .none
    else pure ()
   |_,_=>pure ()) Q E s:=fun a=>by
  refine wpAny_bind (wpAny_load ho ?_);rw [hc,hd]
  show wpAny _ _ (if (zq4 T&&_)=true then _ else _) _ _ _
  rw [hT,Bool.false_and];exact wpAny_pure h
 have hp:wpAny (model prog w) A (pure ()) Q E s:=wpAny_pure h
 have k2:wpAny (model prog w) A (letOwnedTupleGo (.Tuple [] 0 default) (.ref I) v) Q E s:=by
  cases v with
  |ref a=>exact key a
  |_=>exact hp
 cases tgt with
 |Tuple=>exact k2
 |List=>exact k2
 |_=>exact hp
theorem nin{b c:α}{l:List α}(h:b∉l)(m:c∈l):b≠c:=fun e=>h (e▸m)
theorem kU{P:α→Prop}{a:α}(h:P a):∀ b∈[a],P b:=fun z m=>mem_singleton.mp m▸h
theorem yl{P:α→Prop}{a:α}{l:List α}(h:P a)(r:∀ b∈l,P b):∀ b∈a::l,P b:=fun z m=>(mem_cons.mp m).elim (fun e=>e▸h) (r _)
theorem Rep.later{hb h₂:Heap}(hx:∀ a∈X',a∈X∨hb.objs.size≤a)(hk:∀ a o,hb.get? a=some o→h₂.get? a=some o)(hk':∀ a o,a∉X'→h₂.get? a=some o→h'.get? a=some o)
  (r:Rep hb X false v d):Rep h' X' false v d:=
 Rep.upd (X:=X') (h:=hb) (fun a o n e=>hk' a o n (hk a o e)) (r.addX hx)
theorem Src.ofWalks{hb h₂:Heap}{I:Addr}{fp wr:List Addr}{P:Nat→Value→Prop}{St:Nat→Heap→Prop}{T:String}(W:Walks prog w A I fp wr n P St)(hn:ds.length=n)
  (hT:zq4 T=false)(hI:∀ i h,St i h→∃ o vs,h.get? I=some o∧o.cls= .type T∧o.data= .fields vs)
  (hP:∀ i v d,P i v→ds[i]? =some d→Rep hb X false v d)(hk:∀ a o,hb.get? a=some o→h₂.get? a=some o)(lt:∀ b∈fp,b<h₂.objs.size)(new:∀ b∈wr,hb.objs.size≤b)
  (ne:∀ b∈fp,b≠P₀∧b≠cStatics)(out:t=false→∀ b∈fp,b∉X)(h0:St 0 h₂)(Iw:I∈wr):
  Src A hb.objs.size h₂ X t false I ds fp wr St (fun i z h=>St (i+1) h) where
 sub:=W.sub
 iw:=Iw
 lt:=lt
 new:=new
 ne:=ne
 out:=out
 frame:=W.frame
 start:=h0
 item:=fun i s d Q E hd st hQ=>by
  have hi:i<n:=by rw [←hn];exact (List.getElem?_eq_some_iff.mp hd).1
  refine W.item i s Q E hi st fun v h' tk hp st' keep=>hQ v h' tk (fun X' z z hx hk'=>?_) st' keep;exact Rep.later (fun a m=>(hx a m).2) hk hk' (hP i v d hp hd)
 go:=fun tgt i v s Q E z hm hQ=>by
  refine X23 (hI _ _ hm) fun o vs ho hc hd=>?_;exact zv6 ho hc hd hT (hQ s.heap s.toks hm fun z z z e=>e)
 done:=fun s Q E st hQ=>W.done s Q E (hn▸st) hQ
 self:=W.self
theorem zkr{o o':Obj}(ho:h.get? l=some o):∀ b∈[h.objs.size,l],b<(h.push o').objs.size:=
 yl (by rw [size_push];exact lt_succ_self _) (kU (by rw [size_push];exact lt_succ_of_lt (lt_size ho)))
theorem zu.at{vs:Array Value}{i:Nat}(L:zu h X vs.toList ds)(e1:vs[i]? =some v)(e2:ds[i]? =some d):Rep h X false v d:=
 X12 (L.get i e2) fun z h1 h2=>
 sj (h1.symm.trans (getElem?_toList.trans e1))▸h2
theorem zjM(hA:A.handled=none)(x:XOk X s.heap)(n₀:Nat)(hn:n₀≤s.heap.objs.size)(R:Rep s.heap X t v (.list ds)):j5 A n₀ X t false v ds s:=
 R.listE (M:=fun v=>j5 _ _ _ _ _ v _ _) fun l vs n r ho L Q E k=>
  have hl:@LT.lt Nat _ l s.heap.objs.size:=lt_size ho
  wpAny_pyIter_list ⟨_,ho,rfl,_,rfl⟩ (k _ _ s.heap.objs.size [s.heap.objs.size,l] [s.heap.objs.size] _ _ (Grow.push ..) hn
   (Src.ofWalks (hb:=s.heap) (T:="list_iterator") (Walks.list hA s.heap.objs.size l (ne_of_lt hl) vs) L.length.symm (by decide) (fun i h hq=>have ⟨⟨o,h1,h2,h3⟩,_⟩:=hq;⟨o,_,h1,h2,h3⟩) (fun i v d e1 e2=>L.at e1 e2) (fun a o e=>get?_push_of_some _ e)
    (zkr ho) (kU (le_refl _)) (yl (x.root (le_refl _) true).ne (kU r.ne)) (fun ht=>yl ((x.root (le_refl _) false).out rfl) (kU (r.out ht))) ⟨⟨_,get?_push_size _ rfl,rfl,rfl⟩,_,get?_push_of_some _ ho,rfl,_,rfl⟩ (.head _)))
theorem zq5(hA:A.handled=none)(x:XOk X s.heap)(n₀:Nat)(hn:n₀≤s.heap.objs.size)(R:Rep s.heap X t v (.tup ds)):j5 A n₀ X t false v ds s:=
 R.tupE (M:=fun v=>j5 _ _ _ _ _ v _ _) fun l vs n r ho L Q E k=>
  have hl:@LT.lt Nat _ l s.heap.objs.size:=lt_size ho
  wpAny_pyIter_tuple ⟨_,ho,rfl,_,rfl⟩ (k _ _ s.heap.objs.size [s.heap.objs.size,l] [s.heap.objs.size] _ _ (Grow.push ..) hn
   (Src.ofWalks (hb:=s.heap) (T:="tuple_iterator") (Walks.tuple hA s.heap.objs.size l (ne_of_lt hl) vs) L.length.symm (by decide) (fun i h hq=>have ⟨⟨o,h1,h2,h3⟩,_⟩:=hq;⟨o,_,h1,h2,h3⟩) (fun i v d e1 e2=>L.at e1 e2) (fun a o e=>get?_push_of_some _ e)
    (zkr ho) (kU (le_refl _)) (yl (x.root (le_refl _) true).ne (kU r.ne)) (fun ht=>yl ((x.root (le_refl _) false).out rfl) (kU (r.out ht))) ⟨⟨_,get?_push_size _ rfl,rfl,rfl⟩,_,get?_push_of_some _ ho,rfl,_,rfl⟩ (.head _)))
theorem neN{a b:Nat}(h:a<b∨b<a):a≠b:=by lia
noncomputable def zz2(x:Str):List D:=x.cps.toList.map fun c=>.str ⟨#[c]⟩
theorem zks(hA:A.handled=none)(x:XOk X s.heap)(ha:y.cps.all (· <128)=true)(n₀:Nat)(hn:n₀≤s.heap.objs.size):
  j5 A n₀ X t false (.str y i) (zz2 y) s:=by
 intro Q E k
 refine wpAny_pyIter_ascii ha (k _ _ s.heap.objs.size [s.heap.objs.size] [s.heap.objs.size] _ _ (Grow.push ..) hn
  (Src.ofWalks (hb:=s.heap) (T:="str_ascii_iterator") (Walks.strAscii hA s.heap.objs.size y i) (by simp [zz2]) (by decide) (fun i h st=>?_) (fun i v d e1 e2=>?_) (fun a o e=>get?_push_of_some _ e) (by simp [size_push]) (by simp)
  (fun b hb=>?_) (fun ht b hb=>?_) ?_ (by simp)))
 ·(refine X13 st fun o h1 h2 h3=>?_;try clear st)
  exact ⟨o,_,h1,h2,h3⟩
 ·(refine X22 e1 fun c u h1 z20=>?_;subst z20;try clear e1)
  simp [zz2,h1] at e2;subst e2;exact .str _ _ _
 ·simp at hb;subst hb;exact (x.root (le_refl _) true).ne
 ·simp at hb;subst hb;exact (x.root (le_refl _) false).out rfl
 ·exact ⟨_,get?_push_size _ rfl,rfl,rfl⟩
noncomputable def jl(a b:Int):List D:=(List.range (b - a).toNat).map fun (i:Nat)=>.int (a+(i:Int))
theorem xE(hA:A.handled=none){s₀:Shared}(x:XOk X s₀.heap)(hk:Grow s₀ s){a b:Int}{r:Addr}{l:Tok}(hr:IsRange s.heap r a b 1 i j l)(ha:zO a=true)(hb:zO b=true)(hre:s₀.heap.objs.size≤r):
  j5 A s₀.heap.objs.size X t false (.ref r) (jl a b) s:=by
 intro Q E k;simp only [zO,and_eq_true,decide_eq_true_eq] at ha hb;have x':=x.grow hk
 refine wpAny_pyIter_range hr (small_one (by lia) (by lia) (by lia) (by lia)) (k _ _ s.heap.objs.size [s.heap.objs.size] [s.heap.objs.size] _ _ (Grow.push ..) hk.size
  (Src.ofWalks (hb:=s.heap) (T:="range_iterator") (Walks.range hA s.heap.objs.size a 1 (b - a).toNat) (by simp [jl]) (by decide) (fun i h st=>?_) (fun i v d e1 e2=>?_) (fun a o e=>get?_push_of_some _ e) (by simp [size_push]) (by simp)
  (fun b hb=>?_) (fun ht b hb=>?_) ?_ (by simp)))
 ·exact ⟨_,_,st,rfl,rfl⟩
 ·(refine X11 e1 fun u z19=>?_;subst z19;try clear e1)
  have:i<(b - a).toNat:=by have:=(List.getElem?_eq_some_iff.mp e2).1;simpa [jl] using this
  simp [jl,this] at e2;subst e2
  simpa using Rep.int false (a+i *1) u
 ·simp at hb;subst hb;exact (x'.root (le_refl _) true).ne
 ·simp at hb;subst hb;exact (x'.root (le_refl _) false).out rfl
 ·have e1:(a+((0:Nat):Int) *1)=a:=by simp
  have e2:(((b - a).toNat:Int) - ((0:Nat):Int))=Builtin.Range.rangeSize a b 1:=by rw [rangeSize_one];split<;>lia
  rw [e1,e2];exact get?_push_size _ rfl
theorem gb{hb h₂:Heap}{n:Nat}{x y:Value}{e:D}{T:Addr}(hT:h'.get? T=some { cls:=.type "tuple",data:=.seq #[x,y] })(m1:P₀∈X')(m2:cStatics∈X')(hX:∀ a∈X',a<T∧(a∈X∨hb.objs.size≤a))
  (hk:∀ a o,hb.get? a=some o→h₂.get? a=some o)(hk':∀ a o,a∉X'→h₂.get? a=some o→h'.get? a=some o)(R:Rep hb X false x d)(R':Rep hb X false y e):Rep h' X' false (.ref T) (.tup [d,e]):=by
 refine .tup ⟨⟨?_,?_⟩,fun z m=>lt_irrefl _ (hX _ m).1⟩ ⟨_,hT⟩ (.cons (R.later (fun a m=>(hX a m).2) hk hk') (.cons (R'.later (fun a m=>(hX a m).2) hk hk') .nil))
 ·rintro rfl;exact lt_irrefl _ (hX _ m1).1
 ·rintro rfl;exact lt_irrefl _ (hX _ m2).1
noncomputable def yJ(ds:List D):List D:=ds.zipIdx.map fun p=>.tup [.int p.2,p.1]
theorem zpe{i:Nat}(h:(yJ ds)[i]? =some d):∃ x,ds[i]? =some x∧d= .tup [.int i,x]:=by
 unfold yJ at h;rw [getElem?_map] at h;refine X12 (map_some h) fun p h1 h2=>?_;rw [List.getElem?_zipIdx] at h1;refine X12 (map_some h1) fun x h3 h4=>?_;exact ⟨x,h3,by rw [←h2, ←h4,zero_add]⟩
theorem zjN(hA:A.handled=none)(x:XOk X s.heap)(R:Rep s.heap X t v (.list ds))(Q:Value→Shared→Prop)(E:Value→Shared→Prop)
  (h:∀ v s',Grow s s'→j5 A s.heap.objs.size X t true v (yJ ds) s'→Q v s'):wpAny (model prog w) A (call (.type "enumerate") [v]) Q E s:=by
 refine R.listE (M:=fun v=>wpAny _ _ (call _ [v]) _ _ _) fun l vs n r ho L=>?_;have hl:@LT.lt Nat _ l s.heap.objs.size:=lt_size ho;have hlen:vs.size=ds.length:=L.length;clear R;refine call_enumerate_list ⟨_,ho,rfl,_,rfl⟩ fun h' he hit hsz hk=>h _ _ (Grow.of_keep hk (by rw [hsz];exact le_add_right ..)) ?_;clear h;intro Q E k
 refine wpAny_pyIter_enum he (k _ _ s.heap.objs.size [s.heap.objs.size+1,s.heap.objs.size,l] [s.heap.objs.size+1,s.heap.objs.size]
  (fun i h=>(∃ old,IsEnum h (s.heap.objs.size+1) s.heap.objs.size i old)∧h.IsListIter s.heap.objs.size l i∧h.IsList l vs)
  (fun i v h=>∃ T x,v= .ref T∧IsEnumOut h (s.heap.objs.size+1) s.heap.objs.size ((i:Int)+1) x T∧h.IsListIter s.heap.objs.size l (i+1)∧h.IsList l vs) (Grow.refl ..) (le_refl _) ?_)
 clear k Q E;have hle:l≠s.heap.objs.size+1:=neN (.inl (lt_succ_of_lt hl));have hli:l≠s.heap.objs.size:=neN (.inl hl);have hei:s.heap.objs.size+1≠s.heap.objs.size:=neN (.inr (lt_succ_self _))
 exact {
  sub:=yl (.head _) (kU (.tail _ (.head _)))
  iw:=.head _
  lt:=show ∀ b∈_,b<h'.objs.size by rw [hsz];exact yl (lt_succ_self _) (yl (Nat.lt_add_of_pos_right (by decide)) (kU (Nat.lt_add_right _ hl)))
  new:=yl (le_succ _) (kU (le_refl _))
  ne:=yl (x.root (le_succ _) true).ne (yl (x.root (le_refl _) true).ne (kU r.ne))
  out:=fun ht=>yl ((x.root (le_succ _) false).out rfl) (yl ((x.root (le_refl _) false).out rfl) (kU (r.out ht)))
  frame:=fun i h h' ⟨⟨old,he⟩,hit,hl⟩ hk=>⟨⟨old,hk _ (.head _) _ he⟩,hit.at fun o x=>hk _ (.tail _ (.head _)) o x,hl.at fun o x=>hk l (.tail _ (.tail _ (.head _))) o x⟩
  start:=⟨⟨_,he⟩,hit,_,hk _ _ ho,rfl,_,rfl⟩
  item:=fun i s₃ d Q E hd ⟨⟨old,he⟩,hit,hl⟩ hQ=>by
   (refine X12 (zpe hd) fun dv hdv z18=>?_;subst z18)
   refine X12 (L.get i hdv) fun u hu hR=>?_
   exact wpAny_pyNext_enum_item he hit hl (getElem?_toList.symm.trans hu) hei fun h'' ho' hit' hT hsz' hk'=>hQ _ _ _ (fun X' m1 m2 hX hkk=>gb (n:=0) hT m1 m2 hX hk hkk (.int _ _ _) hR) ⟨_,_,rfl,ho',hit',hl.at fun o x=>hk' l o hle hli x⟩
    fun b o hb e=>hk' b o (nin hb (.head _)) (nin hb (.tail _ (.head _))) e
  go:=fun tgt i v s₃ Q E htp ⟨T,xx,ev,ho',hit',hl⟩ hQ=>by
   (refine X31 (htp rfl) fun elts k' pos z17=>?_;subst z17)
   rw [ev];exact wpAny_letOwnedTupleGo_enum ho' fun h'' he' hs'=>hQ h'' s₃.toks ⟨⟨xx,he'⟩,hit'.at fun o y=>(hs'.2 _ hei.symm).trans y,hl.at fun o y=>(hs'.2 l hle).trans y⟩ fun b o hb y=>(hs'.2 b (nin hb (.head _))).trans y
  done:=fun s₃ Q E ⟨⟨old,he⟩,hit,hl⟩ hQ=>
   wpAny_pyNext_enum_end hA he hit hl (getElem?_eq_none (by rw [hlen];unfold yJ;rw [length_map,length_zipIdx];exact le_refl _)) fun h' hx=>hQ h' s₃.toks fun b o hb y=>hx b o (nin hb (.tail _ (.head _))) y
  self:=fun i s₃ Q E ⟨⟨old,he⟩,_,_⟩ hQ=>wpAny_pyIter_enum he hQ }
noncomputable def zqf(xs ys:List D):List D:=(xs.zip ys).map fun p=>.tup [p.1,p.2]
theorem zdS{i:Nat}(h:(zqf ds es)[i]? =some d):∃ x y,ds[i]? =some x∧es[i]? =some y∧d= .tup [x,y]:=by
 unfold zqf at h;rw [getElem?_map] at h;refine X12 (map_some h) fun p h1 h2=>?_;refine X02 (List.getElem?_zip_eq_some.mp h1) fun e1 e2=>?_;exact ⟨_,_,e1,e2,h2.symm⟩
theorem zhE{P:Nat→Prop}{r:List Nat}(h:∀ k,k≤4→P (n+k))(hr:∀ b∈r,P b):∀ b∈(n+4)::(n+2)::(n+3)::n::(n+1)::r,P b:=
 yl (h 4 (by decide)) (yl (h 2 (by decide)) (yl (h 3 (by decide)) (yl (h 0 (by decide)) (yl (h 1 (by decide)) hr))))
theorem zpi{vs us:Array Value}(h:vs.size=ds.length)(h':us.size=es.length):vs[(zqf ds es).length]? =none∨us[(zqf ds es).length]? =none:=by
 unfold zqf;rw [length_map,List.length_zip];rcases le_total ds.length es.length with q|q
 ·rw [min_eq_left q];exact .inl (getElem?_eq_none (le_of_eq h))
 ·rw [Nat.min_eq_right q];exact .inr (getElem?_eq_none (le_of_eq h'))
theorem pV{a:Bool}(h:(a||b)=false):a=false∧b=false:=by rwa [Bool.or_eq_false_iff] at h
theorem zkt(hA:A.handled=none)(x:XOk X s.heap)(R:Rep s.heap X t v (.list ds))(R':Rep s.heap X t' u (.list es))(Q:Value→Shared→Prop)(E:Value→Shared→Prop)
  (h:∀ v s',Grow s s'→j5 A s.heap.objs.size X (t||t') true v (zqf ds es) s'→Q v s'):wpAny (model prog w) A (call (.type "zip") [v,u]) Q E s:=by
 refine R.listE (M:=fun v=>wpAny _ _ (call _ [v,_]) _ _ _) fun l vs n r ho L=>R'.listE (M:=fun v=>wpAny _ _ (call _ [_,v]) _ _ _) fun l' us n' r' ho' L'=>?_;have Dz:=zipApart_new (lt_size ho) (lt_size ho');have hl:@LT.lt Nat _ l s.heap.objs.size:=lt_size ho;have hl':@LT.lt Nat _ l' s.heap.objs.size:=lt_size ho';clear R R';refine call_zip_2 ⟨_,ho,rfl,_,rfl⟩ ⟨_,ho',rfl,_,rfl⟩ fun h' hz hTI hTO h1 h2 hsz hk=>h _ _ (Grow.of_keep hk (by rw [hsz];exact le_add_right ..)) ?_;clear h;intro Q E k
 refine wpAny_pyIter_zip hz (k _ _ s.heap.objs.size [s.heap.objs.size+4,s.heap.objs.size+2,s.heap.objs.size+3,s.heap.objs.size,s.heap.objs.size+1,l,l'] [s.heap.objs.size+4,s.heap.objs.size+3,s.heap.objs.size,s.heap.objs.size+1]
  (fun i h=>IsZip h (s.heap.objs.size+4) (s.heap.objs.size+2) (s.heap.objs.size+3) .none∧IsPair h (s.heap.objs.size+2) (.ref s.heap.objs.size) (.ref (s.heap.objs.size+1))∧(∃ a b,IsPair h (s.heap.objs.size+3) a b)∧
   h.IsListIter s.heap.objs.size l i∧h.IsListIter (s.heap.objs.size+1) l' i∧h.IsList l vs∧h.IsList l' us)
  (fun i v h=>∃ T,v= .ref T∧IsZip h (s.heap.objs.size+4) (s.heap.objs.size+2) (s.heap.objs.size+3) (rawInt T)∧IsPair h (s.heap.objs.size+2) (.ref s.heap.objs.size) (.ref (s.heap.objs.size+1))∧(∃ a b,IsPair h (s.heap.objs.size+3) a b)∧
   h.IsListIter s.heap.objs.size l (i+1)∧h.IsListIter (s.heap.objs.size+1) l' (i+1)∧h.IsList l vs∧h.IsList l' us) (Grow.refl ..) (le_refl _) ?_)
 clear k Q E
 exact {
  sub:=yl (.head _) (yl (.tail _ (.tail _ (.head _))) (yl (.tail _ (.tail _ (.tail _ (.head _)))) (kU (.tail _ (.tail _ (.tail _ (.tail _ (.head _))))))))
  iw:=.head _
  lt:=show ∀ b∈_,b<h'.objs.size by rw [hsz];exact zhE (fun k hk=>Nat.add_lt_add_left (Nat.lt_succ_of_le hk) _) (yl (Nat.lt_add_right _ hl) (kU (Nat.lt_add_right _ hl')))
  new:=yl (le_add_right ..) (yl (le_add_right ..) (yl (le_refl _) (kU (le_add_right ..))))
  ne:=zhE (fun k z=>(x.root (le_add_right ..) true).ne) (yl r.ne (kU r'.ne))
  out:=fun ht=>zhE (fun k z=>(x.root (le_add_right ..) false).out rfl) (yl (r.out (pV ht).1) (kU (r'.out (pV ht).2)))
  frame:=fun i h h' ⟨hz,hTI,⟨a,b,hTO⟩,h1,h2,hl1,hl2⟩ hk=>⟨hk _ (.head _) _ hz,hk _ (.tail _ (.head _)) _ hTI,⟨a,b,hk _ (.tail _ (.tail _ (.head _))) _ hTO⟩,h1.at (hk _ (.tail _ (.tail _ (.tail _ (.head _))))),h2.at (hk _ (.tail _ (.tail _ (.tail _ (.tail _ (.head _)))))),
   hl1.at (hk l (.tail _ (.tail _ (.tail _ (.tail _ (.tail _ (.head _))))))),hl2.at (hk l' (.tail _ (.tail _ (.tail _ (.tail _ (.tail _ (.tail _ (.head _))))))))⟩
  start:=⟨hz,hTI,⟨_,_,hTO⟩,h1,h2,⟨_,hk _ _ ho,rfl,_,rfl⟩,_,hk _ _ ho',rfl,_,rfl⟩
  item:=fun i s₃ d Q E hd ⟨hz,hTI,⟨a,b,hTO⟩,h1,h2,hl1,hl2⟩ hQ=>by
   (refine X23 (zdS hd) fun p1 p2 e1 e2 z16=>?_;subst z16)
   refine X12 (L.get i e1) fun v1 h11 hR1=>?_;refine X12 (L'.get i e2) fun v2 h12 hR2=>?_
   exact wpAny_pyNext_zip_item Dz hz hTI hTO h1 h2 hl1 hl2 (getElem?_toList.symm.trans h11) (getElem?_toList.symm.trans h12) fun h'' hz' hTO' h1' h2' hT hsz' hk'=>hQ _ h'' s₃.toks (fun X' m1 m2 hX hkk=>gb (n:=0) hT m1 m2 hX hk hkk hR1 hR2)
    ⟨_,rfl,hz',hk' _ _ Dz.TIz Dz.TITO Dz.TIi1 Dz.TIi2 hTI,⟨_,_,hTO'⟩,h1',h2',hl1.at fun o e=>hk' _ _ Dz.l1z Dz.l1TO Dz.l1i1 Dz.l1i2 e,hl2.at fun o e=>hk' _ _ Dz.l2z Dz.l2TO Dz.l2i1 Dz.l2i2 e⟩
    fun b o hb e=>hk' b o (nin hb (.head _)) (nin hb (.tail _ (.head _))) (nin hb (.tail _ (.tail _ (.head _)))) (nin hb (.tail _ (.tail _ (.tail _ (.head _))))) e
  go:=fun tgt i v s₃ Q E htp ⟨T,ev,hz,hTI,⟨a,b,hTO⟩,h1,h2,hl1,hl2⟩ hQ=>by
   (refine X31 (htp rfl) fun elts k' pos z15=>?_;subst z15)
   rw [ev]
   exact wpAny_letOwnedTupleGo_zip hz fun h'' hz' hs'=>hQ h'' s₃.toks ⟨hz',(hs'.2 _ Dz.TIz).trans hTI,⟨a,b,(hs'.2 _ Dz.TOz).trans hTO⟩,h1.at fun o y=>(hs'.2 _ Dz.i1z).trans y,h2.at fun o y=>(hs'.2 _ Dz.i2z).trans y,
    hl1.at fun o y=>(hs'.2 _ Dz.l1z).trans y,hl2.at fun o y=>(hs'.2 _ Dz.l2z).trans y⟩ fun b o hb y=>(hs'.2 b (nin hb (.head _))).trans y
  done:=fun s₃ Q E ⟨hz,hTI,⟨a,b,hTO⟩,h1,h2,hl1,hl2⟩ hQ=>wpAny_pyNext_zip_end hA Dz hz hTI hTO h1 h2 hl1 hl2 (zpi L.length L'.length) fun h' hx=>hQ h' s₃.toks
    fun b o hb e=>hx b o (nin hb (.head _)) (nin hb (.tail _ (.head _))) (nin hb (.tail _ (.tail _ (.head _)))) (nin hb (.tail _ (.tail _ (.tail _ (.head _))))) e
  self:=fun i s₃ Q E ⟨hz,_⟩ hQ=>wpAny_pyIter_zip hz hQ }
end
end
variable {pos:Pos}{env:Env}{o:Expr}{dv:D}
section
theorem yY:entryFor table "dict_itemiterator.__iter__"=some Builtin.«dict_keyiterator.__iter__» :=
 entryFor_alias (id':="dict_keyiterator.__iter__") (by kernel_rfl) (by first|rfl|decide+kernel|(unfold String.splitOn;simp+decide [String.splitOnAux])) (by decide+kernel) (by kernel_rfl)
section
variable {e:D} {K:Type} [DecidableEq K] {knd:PySem.KeyKind prog w K} {mk:K→D}
structure pd(knd:PySem.KeyKind prog w K)(mk:K→D)(h:Heap)(X:List Addr)(t:Bool)(a:Addr)(kvs:List (K × Value))(ds:List (K × D)):Prop where
 root:RootOk X t a
 mods:(a==sysModules)=false
 dict:h.DictOf knd a kvs
 keys:kvs.map (fun z=>z.1)=ds.map (fun z=>z.1)
 vals:zu h X (kvs.map (fun z=>z.2)) (ds.map (fun z=>z.2))
def ve(knd:PySem.KeyKind prog w K)(mk:K→D):Prop:=∀ (h:Heap) (X:List Addr) (k:K) (v:Value),knd.is k v=true→Rep h X false v (mk k)
theorem zq6:ve (PySem.strKind prog w) D.str:=fun h X k v hk=>by (refine X11 (Value.isStrOf_shape hk) fun i z9=>?_;subst z9);exact .str _ _ _
theorem zq7:ve (PySem.intKind prog w) D.int:=fun h X k v hk=>by (refine X11 (Value.isInt_shape hk) fun i z8=>?_;subst z8);exact .int _ _ _
theorem pd.at{kvs:List (K × Value)}{ds:List (K × D)}(R:pd knd mk s.heap X t a kvs ds):∃ ep o,s.heap.get? a=some o∧s.heap.DictAt knd a kvs ep:=by
 refine X32 R.dict fun o es ep ho r=>?_;exact ⟨ep,o,ho,o,es,ho,r⟩
theorem pd.item{kvs:List (K × Value)}{ds:List (K × D)}{i:Nat}{kk:K}(R:pd knd mk s.heap X t l kvs ds)(h:ds[i]? =some (kk,dv)):∃ v,kvs[i]? =some (kk,v)∧Rep s.heap X false v dv:=by
 refine X12 (R.vals.get i (d:=dv) (by rw [getElem?_map,h];rfl)) fun v h4 h5=>?_;have h6:(kvs.map (fun z=>z.1))[i]? =some kk:=by rw [R.keys,getElem?_map,h];rfl
 rw [getElem?_map] at h4 h6;refine X12 (map_some h4) fun p q1 q2=>?_;refine X12 (map_some h6) fun p' q3 q4=>?_;have:p=p':=sj (q1.symm.trans q3);subst this;exact ⟨v,by rw [q1, ←q2, ←q4],h5⟩
theorem pd.len{kvs:List (K × Value)}{ds:List (K × D)}(R:pd knd mk h X t l kvs ds):kvs.length=ds.length:=by have:=congrArg List.length R.keys;rwa [length_map,length_map] at this
theorem vi(hk:ve knd mk)(hA:A.handled=none)(x:XOk X s.heap){kvs:List (K × Value)}{ds:List (K × D)}(n₀:Nat)(hn:n₀≤s.heap.objs.size)(R:pd knd mk s.heap X t l kvs ds):
  j5 A n₀ X t false (.ref l) (ds.map fun p=>mk p.1) s:=by
 refine X22 R.at fun ep o ho hat=>?_;have hl:@LT.lt Nat _ l s.heap.objs.size:=lt_size ho;intro Q E k
 refine wpAny_pyIter_dict R.mods hat (k _ _ s.heap.objs.size [s.heap.objs.size,l] [s.heap.objs.size] _ _ (Grow.push ..) hn
  (Src.ofWalks (hb:=s.heap) (T:="dict_keyiterator") (Walks.dictKeys (knd:=knd) hA s.heap.objs.size l (neN (.inl hl)) kvs ep) (by rw [length_map];exact R.len.symm) (by decide) (fun i h hq=>have ⟨⟨o,h1,h2,h3⟩,_⟩:=hq;⟨o,_,h1,h2,h3⟩) (fun i v d e1 e2=>?_) (fun a o e=>get?_push_of_some _ e)
  (zkr ho) (kU (le_refl _)) (yl (x.root (le_refl _) true).ne (kU R.root.ne)) (fun ht=>yl ((x.root (le_refl _) false).out rfl) (kU (R.root.out ht))) ⟨⟨_,get?_push_size _ rfl,rfl,rfl⟩,hat.at fun o e=>get?_push_of_some _ e⟩ (.head _)))
 (refine X22 e1 fun k y h1 h2=>?_;try clear e1)
 rw [getElem?_map] at e2;refine X12 (map_some e2) fun p h3 h4=>?_;refine X12 (R.item h3) fun v' h5 z=>?_;have:(k,y)=(p.1,v'):=sj (h1.symm.trans h5);rw [←h4];exact hk _ _ _ _ ((congrArg Prod.fst this)▸h2)
theorem v0(hA:A.handled=none)(x:XOk X s.heap){V:Addr}{kvs:List (K × Value)}{ds:List (K × D)}(n₀:Nat)(hn:n₀≤s.heap.objs.size)(R:pd knd mk s.heap X t l kvs ds)(hv:s.heap.IsValuesView V l):
  j5 A n₀ X t false (.ref V) (ds.map fun p=>p.2) s:=by
 refine X22 R.at fun ep o ho hat=>?_;have hl:@LT.lt Nat _ l s.heap.objs.size:=lt_size ho;intro Q E k
 refine wpAny_pyIter_values hv hat (k _ _ s.heap.objs.size [s.heap.objs.size,l] [s.heap.objs.size] _ _ (Grow.push ..) hn
  (Src.ofWalks (hb:=s.heap) (T:="dict_valueiterator") (Walks.dictValues (knd:=knd) hA s.heap.objs.size l (neN (.inl hl)) kvs ep) (by rw [length_map];exact R.len.symm) (by decide) (fun i h hq=>have ⟨⟨o,h1,h2,h3⟩,_⟩:=hq;⟨o,_,h1,h2,h3⟩) (fun i v d e1 e2=>?_) (fun a o e=>get?_push_of_some _ e)
  (zkr ho) (kU (le_refl _)) (yl (x.root (le_refl _) true).ne (kU R.root.ne)) (fun ht=>yl ((x.root (le_refl _) false).out rfl) (kU (R.root.out ht))) ⟨⟨_,get?_push_size _ rfl,rfl,rfl⟩,hat.at fun o e=>get?_push_of_some _ e⟩ (.head _)))
 (refine X11 e1 fun k h1=>?_;try clear e1)
 refine X12 (R.vals.get i e2) fun v' h3 h4=>?_;rw [getElem?_map,h1] at h3;have h3:v=v':=sj h3;exact h3▸h4
theorem wq(hk:ve knd mk)(hA:A.handled=none)(x:XOk X s.heap){V:Addr}{kvs:List (K × Value)}{ds:List (K × D)}(n₀:Nat)(hn:n₀≤s.heap.objs.size)(R:pd knd mk s.heap X t l kvs ds)(hv:s.heap.IsItemsView V l):
  j5 A n₀ X t true (.ref V) (ds.map fun p=>.tup [mk p.1,p.2]) s:=by
 refine X22 R.at fun ep o ho hat=>?_;have hl:@LT.lt Nat _ l s.heap.objs.size:=lt_size ho;have hlen:=R.len;intro Q E k
 refine wpAny_pyIter_items hv hat (k _ _ s.heap.objs.size [s.heap.objs.size,l] [s.heap.objs.size]
  (fun i h=>(∃ ok ov,IsItemIter h s.heap.objs.size l i kvs.length ep ok ov)∧h.DictAt knd l kvs ep)
  (fun i v h=>∃ T ok ov,v= .ref T∧IsItemIterOut h s.heap.objs.size l (i+1) kvs.length ep ok ov T∧h.DictAt knd l kvs ep) (Grow.push ..) hn ?_)
 clear k Q E
 exact {
  sub:=kU (.head _)
  iw:=.head _
  lt:=zkr ho
  new:=kU (le_refl _)
  ne:=yl (x.root (le_refl _) true).ne (kU R.root.ne)
  out:=fun ht=>yl ((x.root (le_refl _) false).out rfl) (kU (R.root.out ht))
  frame:=fun i h h' ⟨⟨ok,ov,hi⟩,hd⟩ hk=>⟨⟨ok,ov,hk _ (.head _) _ hi⟩,hd.at (hk _ (.tail _ (.head _)))⟩
  start:=⟨⟨_,_,get?_push_size _ rfl⟩,hat.at fun o e=>get?_push_of_some _ e⟩
  item:=fun i s₃ d Q E hd ⟨⟨ok,ov,hit⟩,hm⟩ hQ=>by
   rw [getElem?_map] at hd
   (refine X12 (map_some hd) fun z6 h3 z7=>?_;subst z7;obtain ⟨kk,dv⟩:=z6)
   refine X12 (R.item h3) fun v' h1 h5=>?_
   exact wpAny_pyNext_items_item hit hm (k:=kk) (v:=v') h1 fun key h'' hkey ho' hT hsz hk'=>hQ _ h'' s₃.toks (fun X' m1 m2 hX hkk=>gb (n:=0) (hb:=s.heap) hT m1 m2 hX (fun a o e=>get?_push_of_some _ e) hkk (hk _ _ _ _ hkey) h5)
    ⟨_,_,_,rfl,ho',hm.at fun o e=>hk' l o (neN (.inl hl)) e⟩ fun b o hb e=>hk' b o (nin hb (.head _)) e
  go:=fun tgt i v s₃ Q E htp ⟨T,ok,ov,ev,ho',hm⟩ hQ=>by
   (refine X31 (htp rfl) fun elts k' pos z5=>?_;subst z5)
   rw [ev];exact wpAny_letOwnedTupleGo_items ho' fun h'' he' hs'=>hQ h'' s₃.toks ⟨⟨_,_,he'⟩,hm.at fun o y=>(hs'.2 l (neN (.inl hl))).trans y⟩ fun b o hb y=>(hs'.2 b (nin hb (.head _))).trans y
  done:=fun s₃ Q E ⟨⟨ok,ov,hit⟩,hm⟩ hQ=>by
   rw [length_map, ←hlen] at hit;exact wpAny_pyNext_items_end hA (i:=kvs.length) hit hm (List.getElem?_eq_none (le_refl _)) fun h' hx=>hQ h' s₃.toks fun b o hb y=>hx b o (nin hb (.head _)) y
  self:=fun i s₃ Q E ⟨⟨ok,ov,hit⟩,hm⟩ hQ=>by
   have hT:s₃.TypeIs (.ref s.heap.objs.size) "dict_itemiterator":=⟨_,hit,rfl⟩
   refine wpAny_pyIter_slot hT F.slot_dict_itemiterator_iter (wpAny_call_entry F.slot_dict_itemiterator_iter hT yY ?_ (F.args_dict_itemiterator_iter_1 _));exact wpAny_pure ⟨_,rfl,"dict_itemiterator",_,hT,F.slot_dict_itemiterator_next.lookup,hQ⟩ }
theorem zjR{apos:Pos}(hbase:attributeBase o "items" env (eval o env)=eval o env)(hline:(apos.endLine==pos.line)=true)
  (h:wpAny (model prog w) A (eval o env) (fun v s₁=>∃ a kvs,v= .ref a∧(a==sysModules)=false∧s₁.heap.DictOf knd a kvs∧
   (∀ V o,o=({ cls:=.type "dict_items",data:=.fields #[.ref a] }:Obj)→V=s₁.heap.objs.size→Q (.ref V) { s₁ with heap:=s₁.heap.push o })) E s):
  wpAny (model prog w) A (eval (.Call (.Attribute o "items" apos) [] [] pos) env) Q E s:=by
 refine wpAny_Call_method (T:="dict") (id:="dict.items") hbase rfl hline F.plainAttrs_dict F.slot_dict_items F.type_dict_items (wpAny_mono h (fun v s₁ h₁=>?_) fun z z e=>e)
 (refine X24 h₁ fun a kvs z4 hS hm hq=>?_;subst z4;try clear h₁)
 refine ⟨hm.typeIs,hm.mapOf.noDict,?_⟩
 show wpAny _ _ (callWith pos (.builtin "dict.items") [.ref a] [] []) Q E s₁
 exact method_meetsIn F.slot_dict_items F.entry_dict_items rfl (PySem.evalArgs_none ⟨rfl,hm.typeIs,F.args_dict_items_1 _,_,meets_dict_items knd a hS,⟨kvs,hm⟩,hq _ _ rfl rfl⟩)
theorem zq8{apos:Pos}(hbase:attributeBase o "values" env (eval o env)=eval o env)(hline:(apos.endLine==pos.line)=true)
  (h:wpAny (model prog w) A (eval o env) (fun v s₁=>∃ a kvs,v= .ref a∧(a==sysModules)=false∧s₁.heap.DictOf knd a kvs∧
   (∀ V o,o=({ cls:=.type "dict_values",data:=.fields #[.ref a] }:Obj)→V=s₁.heap.objs.size→Q (.ref V) { s₁ with heap:=s₁.heap.push o })) E s):
  wpAny (model prog w) A (eval (.Call (.Attribute o "values" apos) [] [] pos) env) Q E s:=by
 refine wpAny_Call_method (T:="dict") (id:="dict.values") hbase rfl hline F.plainAttrs_dict F.slot_dict_values F.type_dict_values (wpAny_mono h (fun v s₁ h₁=>?_) fun z z e=>e)
 (refine X24 h₁ fun a kvs z3 hS hm hq=>?_;subst z3;try clear h₁)
 refine ⟨hm.typeIs,hm.mapOf.noDict,?_⟩
 show wpAny _ _ (callWith pos (.builtin "dict.values") [.ref a] [] []) Q E s₁
 exact method_meetsIn F.slot_dict_values F.entry_dict_values rfl (PySem.evalArgs_none ⟨rfl,hm.typeIs,F.args_dict_values_1 _,_,meets_dict_values knd a hS,⟨kvs,hm⟩,hq _ _ rfl rfl⟩)
end
end
variable {sc:Scope}{own:List Str}{e:Expr}{V:Str→Addr→Prop}{U:Addr→Prop}{q:Nat}
section
noncomputable abbrev Sg:=Str→Option D
noncomputable def upd(σ:Sg)(x:Str)(d:D):Sg:=fun y=>if y=x then some d else σ y
structure Cx where
 lvl:Nat
 glob:Str→Option D
 call:Str→List D→Option D
 meth:Str→D→List D→Option D
 fld:Nat→Str→Bool
 attr:Str→Str→Option D
 spec:List Str→Scope→Expr→Sg→Option D
structure Sc where
 C:Cx
 own:List Str
 sc:Scope
 σ:Sg
noncomputable def Sc.at(T:Sc)(σ:Sg):Sc:=⟨T.C,T.own,T.sc,σ⟩
noncomputable def qp{α β:Type}(f:α→Option β):List α→Option (List β)
 |[]=>some []
 |a::as=>(f a).bind fun b=>(qp f as).map (b:: ·)
noncomputable def yc{α β:Type}(f:α→Option (List β)):List α→Option (List β)
 |[]=>some []
 |a::as=>(f a).bind fun b=>(yc f as).map (b++ ·)
noncomputable def qY(own:List Str):Expr→Bool
 | .Name x z=>own.contains x
 |_=>false
noncomputable def zdQ(own:List Str):Expr→Bool
 | .Name x z=>own.contains x
 | .Call (.Attribute o z y) v u t=>qY own o
 |_=>false
noncomputable def y2:Expr→Bool
 | .Call .. =>false
 |_=>true
noncomputable def zl:List Expr→Bool
 |[]=>true
 | .Starred z y::x=>false
 |z::r=>zl r
noncomputable def nmE:Expr→Option Str
 | .Name x z=>some x
 |_=>none
theorem y3(h:nmE e=some x):∃ p,e= .Name x p:=by
 cases e with
 |Name y p=>exact ⟨p,congrArg (Expr.Name · p) (sj h)⟩
 |_=>exact zq h
noncomputable def zv7:D→Option (List D)
 | .tup xs=>some xs
 |_=>none
theorem wz{xs:List D}(h:zv7 d=some xs):d= .tup xs:=by
 cases d with
 |tup y=>exact congrArg D.tup (sj h)
 |_=>exact zq h
noncomputable def elE:Expr→Option (List Expr)
 | .Tuple elts z y=>some elts
 |_=>none
theorem zdT{es:List Expr}(h:elE e=some es):∃ q p,e= .Tuple es q p:=by
 cases e with
 |Tuple a b c=>exact ⟨b,c,congrArg (Expr.Tuple · b c) (sj h)⟩
 |_=>exact zq h
noncomputable def zJ(e:Expr):List Str:=match nmE e with
 |some x=>[x]
 |none=>match elE e with
  |some es=>es.filterMap nmE
  |none=>[]
noncomputable def yL:List Expr→List D→Sg→Option Sg
 |[],ds,σ=>match ds with
  |[]=>some σ
  |z::y=>none
 |e::es,ds,σ=>match ds with
  |[]=>none
  |d::ds=>(nmE e).bind fun x=>yL es ds (upd σ x d)
noncomputable def j6(e:Expr)(d:D)(σ:Sg):Option Sg:=match nmE e with
 |some x=>some (upd σ x d)
 |none=>(elE e).bind fun es=>(zv7 d).bind fun ds=>yL es ds σ
theorem kG{σ τ:Sg}(h:yL [] ds σ=some τ):ds=[]∧σ=τ:=match ds,h with
 |[],h=>⟨rfl,sj h⟩
 |_::_,h=>zq h
theorem yK{es:List Expr}{σ τ:Sg}(h:yL (e::es) ds σ=some τ)(k:∀ x p d ds',e= .Name x p→ds=d::ds'→yL es ds' (upd σ x d)=some τ→C):C:=match ds,h,k with
 |[],h,_=>zq h
 |d::ds,h,k=>
  X12 (bind_some h) fun x h1 h2=>
  X11 (y3 h1) fun p h3=>
  k x p d ds h3 rfl h2
theorem pU{σ τ:Sg}(h:j6 e d σ=some τ)(k1:∀ x p,e= .Name x p→upd σ x d=τ→C)(k2:∀ es q p ds,e= .Tuple es q p→d= .tup ds→yL es ds σ=some τ→C):C:=by
 unfold j6 at h;cases q:nmE e with
 |some x=>
  rw [q] at h;refine X11 (y3 q) fun p e1=>?_;exact k1 x p e1 (sj h)
 |none=>
  rw [q] at h;refine X12 (bind_some h) fun es h1 h=>?_;refine X12 (bind_some h) fun ds h2 h=>?_;refine X21 (zdT h1) fun q p e1=>?_;exact k2 es q p ds e1 (wz h2) h
theorem zq9{es:List Expr}{p p':Pos}:x∈zJ (.Tuple (.Name x p::es) q p'):=mem_cons_self ..
theorem zp0{es:List Expr}{p p':Pos}(h:y∈zJ (.Tuple es q p')):y∈zJ (.Tuple (.Name x p::es) q p'):=mem_cons_of_mem x h
noncomputable def xt:Expr→Bool
 | .Set .. =>true
 |_=>false
noncomputable def wj:Expr→Bool
 | .Tuple .. =>true
 |_=>false
noncomputable def qc{K:Type}[DecidableEq K](ds:List (K × D))(k:K)(d:D):List (K × D):=
 if ds.any (fun kv=>kv.1=k) then ds.map (fun kv=>if kv.1=k then (kv.1,d) else kv) else ds++[(k,d)]
noncomputable def zD{K:Type}[DecidableEq K](ds:List (K × D)):List (K × D)→List (K × D)
 |[]=>ds
 |(k,d)::r=>zD (qc ds k d) r
noncomputable def zp1:D × D→Option (Str × D)
 |(.str k,d)=>some (k,d)
 |_=>none
noncomputable def zdL:D × D→Option (Int × D)
 |(.int k,d)=>some (k,d)
 |_=>none
noncomputable def qV(ps:List (D × D)):Option D:=
 match qp zp1 ps with
 |some ks=>some (.dS (zD [] ks))
 |none=>match qp zdL ps with
  |some ks=>some (.dI (zD [] ks))
  |none=>none
noncomputable def zg6:Const→Option D
 | .none=>some .none
 | .bool b=>some (.bool b)
 | .int i=>some (.int i)
 | .str x=>some (.str x)
 |_=>none
noncomputable def jz(scope sc:Scope):Scope:=
 { scope with names:=scope.names.map fun (n,k)=>if (k== .free&&sc.kind== .function&&sc.names.lookup n==some .cell) then (n,.cell) else (n,k) }
noncomputable def v4(scope sc:Scope):Bool:=
 (scope.kind== .function)&&scope.names.all fun (n,k)=>
  (scope.names.lookup n==some k)&&(k== .local||k== .cell||k== .globalImplicit||(k== .free&&(sc.names.lookup n==some .cell||sc.names.lookup n==some .free)&& !(n==("__classdict__":Str))))
noncomputable def pG(scope:Scope)(gens:List Comprehension):Bool:=gens.all fun g=>(g.is_async==0)&& !xt g.iter&&(zJ g.target).all fun x=>scope.names.lookup x==some .local||scope.names.lookup x==some .cell
noncomputable def qQ(scope:Scope)(x:Str):Bool:=scope.names.lookup x==some .free
structure EvK where
 e:{β:Type}→Sc→Expr→(D→Option β)→Option β
 t:{β:Type}→Sc→Expr→(Bool→Option β)→Option β
 i:{β:Type}→Sc→Expr→(Bool→List D→Option β)→Option β
noncomputable def zG(sc:Scope)(x:Str):Bool:=sc.names.lookup x==some .globalImplicit&& !(x==("__debug__":Str))
noncomputable def jq(sc:Scope)(x:Str):Bool:=(sc.names.lookup x==some .local||sc.names.lookup x==some .cell||sc.names.lookup x==some .free)&& !(x==("__debug__":Str))&& !(x==("__classdict__":Str))
section
variable {γ:Type}
noncomputable def zjS(p:EvK)(T:Sc):List Expr→(List D→Option β)→Option β
 |[],k=>k []
 |a::as,k=>p.e T a fun b=>zjS p T as fun bs=>k (b::bs)
noncomputable def zhF(d:D)(k:List D→Option β):Option β:=match d with
 | .tup l=>k l
 |_=>none
noncomputable def pop(l:List D)(k:D→List D→Option β):Option β:=match l with
 |[]=>none
 |a::l=>k a l
noncomputable def fin(l:List D)(k:Option β):Option β:=match l with
 |[]=>k
 |z::y=>none
noncomputable def zv8(d:D)(k:D→D→Option β):Option β:=zhF d fun l=>pop l fun a l=>pop l fun b l=>fin l (k a b)
noncomputable def zp2(d:D)(k:D→D→D→Option β):Option β:=zhF d fun l=>pop l fun a l=>pop l fun b l=>pop l fun c l=>fin l (k a b c)
noncomputable def zp3(d:D)(k:D→D→D→D→D→Option β):Option β:=zhF d fun l=>pop l fun a l=>pop l fun b l=>pop l fun c l=>pop l fun e l=>pop l fun f l=>fin l (k a b c e f)
noncomputable def zg7(xs:Option (List Str))(d:D)(σ:Sg)(k:Sg→Option β):Option β:=match xs with
 |none=>none
 |some xs=>match xs with
  |x::y::r=>match r with
   |[]=>zv8 d fun a b=>k (upd (upd σ x a) y b)
   |z::r=>match r with
    |[]=>zp2 d fun a b c=>k (upd (upd (upd σ x a) y b) z c)
    |u::r=>match r with
     |v::r=>match r with
      |[]=>zp3 d fun a b c e f=>k (upd (upd (upd (upd (upd σ x a) y b) z c) u e) v f)
      |_=>none
     |_=>none
  |_=>none
noncomputable def zkl(t:Expr)(d:D)(σ:Sg)(k:Sg→Option β):Option β:=match t with
 | .Name x z=>k (upd σ x d)
 | .Tuple es z y=>zg7 (qp nmE es) d σ k
 |_=>none
noncomputable def zp4(p:EvK)(T:Sc):List Expr→(Bool→Option β)→Option β
 |[],k=>k true
 |c::cs,k=>p.t T c fun b=>if b=true then zp4 p T cs k else k false
noncomputable def zkc(p:EvK)(T:Sc)(isAnd:Bool):List Expr→(Bool→Option β)→Option β
 |[],k=>k isAnd
 |c::cs,k=>p.t T c fun b=>if b=isAnd then zkc p T isAnd cs k else k b
noncomputable def zv9(p:EvK)(emit:Sc→Option (List β))(rec:Sc→List D→Option (List β))(g:Comprehension)(gs:List Comprehension)(T:Sc)(d:D):Option (List β):=
 zkl g.target d T.σ fun σ'=>zp4 p (T.at σ') g.ifs fun ok=>if ok=true then (match gs with
   |[]=>emit (T.at σ')
   |g'::z=>if zdQ T.own g'.iter=true∨xt g'.iter=true then none else p.i (T.at σ') g'.iter fun tp ds'=>if tp=true∧wj g'.target=false then none else rec (T.at σ') ds') else some []
noncomputable def zjT(p:EvK)(emit:Sc→Option (List β)):List Comprehension→Sc→List D→Option (List β)
 |[],_,_=>none
 |g::gs,T,ds=>if ((zJ g.target).all fun x=>(T.σ x).isNone)=true∧g.is_async=0 then
   yc (zv9 p emit (fun T ds=>zjT p emit gs T ds) g gs T) ds
  else none
noncomputable def Sc.inner(T:Sc)(scope:Scope):Sc:=⟨T.C,T.own.filter (qQ scope),jz scope T.sc,fun x=>if qQ scope x then T.σ x else none⟩
noncomputable def vj(p:EvK)(T:Sc)(scope:Scope)(gens:List Comprehension)(emit:Sc→Option (List β)):Option (List β):=
 match gens with
 |[]=>none
 |g::z=>if v4 scope T.sc=true∧xt g.iter=false∧pG scope gens=true then p.i T g.iter fun tp ds=>
    if tp=true∧wj g.target=false then none else zjT p emit gens (T.inner scope) ds
  else none
noncomputable def zvQ(p:EvK)(T:Sc):Option Expr→(Option Int→Option β)→Option β
 |none,k=>k none
 |some e,k=>p.e T e fun d=>(kJ d).bind k
noncomputable def zhH(k:D→Option β)(ds:List D):Option β:=if ds.length≤zz then k (.list ds) else none
noncomputable def zn3(k:D→Option β)(ps:List (D × D)):Option β:=if ps.length≤zz then (qV ps).bind k else none
noncomputable def zhI(d:D)(k:D→Option β):Option β:=match d with
 | .int i=>k (.int (-i))
 |_=>none
noncomputable def zp5(C:Cx)(name:Str)(d:D)(k:D→Option β):Option β:=match d with
 | .obj c fs=>if C.fld c name=true then (fs.lookup name).bind k else none
 |_=>none
noncomputable def yC(C:Cx)(name:Str)(ow:Bool)(d:D)(ds:List D)(k:D→Option β):Option β:=match d with
 | .obj c fs=>if ow=true then none else (C.meth name (.obj c fs) ds).bind k
 |d=>if (y0 name d).isSome=true then (jP name d ds).bind k else none
noncomputable def zko(d:D)(k:Bool→Option β):Option β:=match d with
 | .bool b=>k b
 |_=>none
end
noncomputable def zmq:Expr→Bool
 | .GeneratorExp .. =>true
 |_=>false
noncomputable def zvZ(f:Str)(args:List Expr):Bool:=decide (f="isinstance")||args.any zmq
noncomputable def jB:D→Option (List D)
 | .list ds=>some ds
 | .tup ds=>some ds
 | .str x=>if x.cps.all (· <128)=true then some (zz2 x) else none
 | .dS ds=>some (ds.map fun p=>.str p.1)
 | .dI ds=>some (ds.map fun p=>.int p.1)
 |_=>none
noncomputable def jD:D→Option (List D)
 | .dS ds=>some (ds.map fun p=>.tup [.str p.1,p.2])
 | .dI ds=>some (ds.map fun p=>.tup [.int p.1,p.2])
 |_=>none
noncomputable def zz3:D→Option (List D)
 | .dS ds=>some (ds.map (fun z=>z.2))
 | .dI ds=>some (ds.map (fun z=>z.2))
 |_=>none
noncomputable def zqQ:Expr→Option (Expr × List Expr × Pos)
 | .Call f args kws pos=>match kws with
  |[]=>some (f,args,pos)
  |z::y=>none
 |_=>none
theorem yO{q:Expr × List Expr × Pos}(h:zqQ e=some q):e= .Call q.1 q.2.1 [] q.2.2:=by
 cases e with
 |Call f args kws pos=>cases kws with
  |nil=>exact sj h▸rfl
  |cons=>exact zq h
 |_=>exact zq h
noncomputable def atV:Expr→Option (Expr × Str × Pos)
 | .Attribute o m ap=>some (o,m,ap)
 |_=>none
theorem gd{q:Expr × Str × Pos}(h:atV e=some q):e= .Attribute q.1 q.2.1 q.2.2:=by
 cases e with
 |Attribute=>exact sj h▸rfl
 |_=>exact zq h
noncomputable def one{α:Type}:List α→Option α
 |[]=>none
 |a::l=>match l with
  |[]=>some a
  |z::y=>none
theorem gf{l:List α}{a:α}(h:one l=some a):l=[a]:=match l,h with
 |[],h=>zq h
 |[b],h=>congrArg (fun x=>[x]) (sj h)
 |_::_::_,h=>zq h
noncomputable def yA(f:Str)(args:List Expr):Option Expr:=(one args).bind fun a=>(zqQ a).bind fun q=>(atV q.1).bind fun r=>
 if f="list"∧r.2.1="items"∧q.2.1.isEmpty=true∧y2 r.1=true∧(r.2.2.endLine==q.2.2.line)=true then some r.1 else none
section
noncomputable def asL:D→Option (List D)
 | .list ds=>some ds
 |_=>none
noncomputable def zg8(ds:List D)(k:List D→Option β):Option β:=match ds with
 |[]=>none
 |a::r=>(asI a).bind fun n=>match r with
  |[]=>if zO n=true then k (jl 0 n) else none
  |b::r=>match r with
   |[]=>(asI b).bind fun m=>if zO n=true∧zO m=true then k (jl n m) else none
   |z::y=>none
noncomputable def zdC(ds:List D)(k:List D→Option β):Option β:=(one ds).bind fun a=>(asL a).bind fun xs=>k (yJ xs)
noncomputable def zn4(ds:List D)(k:List D→Option β):Option β:=match ds with
 |[]=>none
 |a::r=>(one r).bind fun b=>(asL a).bind fun xs=>(asL b).bind fun ys=>k (zqf xs ys)
variable (p:EvK) (T:Sc)
noncomputable def zp6(l:Expr)(ops:List CmpOp)(rs:List Expr)(k:Bool→Option β):Option β:=match ops with
 |[]=>none
 |op::ops=>match ops with
  |[]=>match rs with
   |[]=>none
   |r::rs=>match rs with
    |[]=>if behindInMarks op r=true then none else p.e T l fun a=>p.e T r fun b=>(xJ op a b).bind k
    |_=>none
  |_=>none
noncomputable def zn5(d:D)(i:Expr)(k:D→Option β):Option β:=match i with
 | .Slice lo hi st z=>zvQ p T lo fun lo=>zvQ p T hi fun hi=>zvQ p T st fun st=>(jU d lo hi st).bind k
 |i=>p.e T i fun j=>(zY d j).bind k
noncomputable def zdO(name:Str)(o:Expr)(k:D→Option β):Option β:=match o with
 | .Name c z=>if zG T.sc c=true then (T.C.attr c name).bind k else if jq T.sc c=true then (T.σ c).bind fun d=>zp5 T.C name d k else none
 |_=>none
noncomputable def zka(f:Str)(args:List Expr)(e:Expr)(k:D→Option β):Option β:=if zG T.sc f=true∧zl args=true then match yA f args with
   |some o=>if qY T.own o=false then p.e T o fun d=>(jD d).bind (zhH k) else none
   |none=>if (args.any (qY T.own)||zvZ f args)=true then (T.C.spec T.own T.sc e T.σ).bind k
    else zjS p T args fun ds=>(T.C.call f ds).bind k
  else none
noncomputable def zke(o:Expr)(name:Str)(ap:Pos)(args:List Expr)(pos:Pos)(k:D→Option β):Option β:=if y2 o=true∧zl args=true∧args.any (qY T.own)=false∧(ap.endLine==pos.line)=true∧args.length<29 then
   p.e T o fun d=>zjS p T args fun ds=>yC T.C name (qY T.own o) d ds k
  else none
noncomputable def zp7(e:Expr)(k:D→Option β):Option β:=match e with
 | .Constant c z y=>(zg6 c).bind k
 | .Name x z=>if jq T.sc x=true then (T.σ x).bind k else if zG T.sc x=true then (T.C.glob x).bind k else none
 | .BinOp l op r z=>p.e T l fun a=>p.e T r fun b=>(yQ op a b).bind k
 | .UnaryOp op x z=>match op with
  | .USub=>p.e T x fun d=>zhI d k
  |_=>none
 | .IfExp t a b z=>(p.t T t fun c=>if c=true then (if qY T.own a=true then none else p.e T a some) else (if qY T.own b=true then none else p.e T b some)).bind k
 | .Dict keys values z=>if keys.all (·.isSome)=true∧keys.length=values.length∧keys.length≤15∧values.any (qY T.own)=false then
   zjS p T (keys.filterMap id) fun ks=>zjS p T values fun vs=>(qV (ks.zip vs)).bind k
  else none
 | .List elts z=>if elts.any (qY T.own)=false∧zl elts=true∧elts.length≤zz then zjS p T elts fun ds=>k (.list ds) else none
 | .Tuple elts z y=>if elts.any (qY T.own)=false∧zl elts=true∧elts.length≤zz then zjS p T elts fun ds=>k (.tup ds) else none
 | .ListComp elt gens scope z=>(vj p T scope gens (fun T=>if qY T.own elt=true then none else p.e T elt fun d=>some [d])).bind (zhH k)
 | .DictComp ke v gens scope z=>(vj p T scope gens (fun T=>if qY T.own v=true then none else p.e T ke fun kd=>p.e T v fun vd=>some [(kd,vd)])).bind (zn3 k)
 | .Compare l ops rs z=>zp6 p T l ops rs fun c=>k (.bool c)
 | .Subscript v i z=>p.e T v fun d=>zn5 p T d i k
 | .Attribute o name z=>zdO T name o k
 | .Call .. =>(zqQ e).bind fun q=>match nmE q.1 with
  |some x=>zka p T x q.2.1 e k
  |none=>(atV q.1).bind fun r=>zke p T r.1 r.2.1 r.2.2 q.2.1 q.2.2 k
 |_=>none
noncomputable def zn6(e:Expr)(k:Bool→Option β):Option β:=match e with
 | .UnaryOp op x pos=>match op with
  | .Not=>p.t T x fun b=>k (!b)
  |op=>p.e T (.UnaryOp op x pos) fun d=>zko d k
 | .BoolOp op vs z=>match op with
  | .And=>(zkc p T true vs some).bind k
  | .Or=>(zkc p T false vs some).bind k
 | .IfExp .. =>none
 | .Compare l ops rs z=>zp6 p T l ops rs k
 |e=>p.e T e fun d=>zko d k
noncomputable def kP(e:Expr)(k:Bool→List D→Option β):Option β:=p.e T e fun d=>(jB d).bind fun ds=>k false ds
noncomputable def zki(f:Str)(args:List Expr)(e:Expr)(k:Bool→List D→Option β):Option β:=if zG T.sc f=true∧zl args=true∧args.any (qY T.own)=false then
   if f="range" then zjS p T args fun ds=>zg8 ds (k false)
   else if f="enumerate" then zjS p T args fun ds=>zdC ds (k true)
   else if f="zip" then zjS p T args fun ds=>zn4 ds (k true)
   else kP p T e k
  else none
noncomputable def zk0(o:Expr)(m:Str)(ap pos:Pos)(e:Expr)(k:Bool→List D→Option β):Option β:=if y2 o=true∧(ap.endLine==pos.line)=true then
   if m="items" then p.e T o fun d=>(jD d).bind fun ds=>k true ds
   else if m="values" then p.e T o fun d=>(zz3 d).bind fun ds=>k false ds
   else kP p T e k
  else none
noncomputable def zn7(e:Expr)(k:Bool→List D→Option β):Option β:=if xt e=true then none else match zqQ e with
 |none=>kP p T e k
 |some q=>match nmE q.1 with
  |some x=>zki p T x q.2.1 e k
  |none=>match atV q.1 with
   |none=>kP p T e k
   |some r=>if q.2.1.isEmpty=true then zk0 p T r.1 r.2.1 r.2.2 q.2.2 e k else kP p T e k
end
noncomputable def evK:Nat→EvK
 |0=>⟨fun z z z=>none,fun z z z=>none,fun z z z=>none⟩
 |n+1=>⟨fun T e k=>zp7 (evK n) T e k,fun T e k=>zn6 (evK n) T e k,fun T e k=>zn7 (evK n) T e k⟩
structure Ok(X:List Addr)(s:Shared):Prop where
 x:XOk X s.heap
 base:∀ a∈X,a=P₀∨a=cStatics∨h₀.objs.size≤a
 old:∀ a o,a≠P₀→h₀.get? a=some o→s.heap.get? a=some o
 sz:h₀.objs.size≤s.heap.objs.size
 tab:∃ ps,s.heap.IsCode cc P₀ ps∧s.heap.TableAt cc P₀ ps
 ccs:cc<h₀.objs.size∧cc≠P₀∧cc≠cStatics∧P₀<h₀.objs.size∧cStatics<h₀.objs.size∧P₀≠cStatics
noncomputable def jV(x:Str):Option Value:=match mg x with
 |some v=>some v
 |none=>mb x
structure kB:Prop where
 g:h₀.Ns mainGlobals mg
 b:h₀.Ns builtinsNs mb
 ne:mainGlobals≠P₀∧builtinsNs≠P₀
 range:jV "range"=some (.type "range")
 enum:jV "enumerate"=some (.type "enumerate")
 zip:jV "zip"=some (.type "zip")
 list:jV "list"=some (.type "list")
noncomputable def zw(h:Heap):Value→List Addr
 | .ref a=>a::(match h.get? a with
  |some o=>o.dict.toList
  |none=>[])
 |_=>[]
def VOk(h:Heap)(X:List Addr)(o:Bool)(V:Addr→Prop)(v:Value)(d:D):Prop:=
 Rep h X o v d∧(o=true→∀ a∈zw h v,¬ V a)
noncomputable def zp8:Str:="new_callers"
structure zC(V:Str→Addr→Prop)(env:Env)(sc:Scope)(own:List Str)(σ:Sg)(X:List Addr)(h:Heap):Prop where
 scp:env.scope=sc
 cod:own.contains zp8=true→env.code= .ref cc
 kind:sc.kind= .function
 glob:env.globals=mainGlobals
 bi:env.builtins=builtinsNs
 ne:env.locals≠P₀∧env.locals≠cStatics
 locV:∀ x,V x env.locals
 loc:∃ m,h.Ns env.locals m∧∀ x d,sc.names.lookup x=some .local→σ x=some d→∃ v,m x=some v∧VOk h X (own.contains x) (V x) v d
 cell:∀ x,(sc.names.lookup x=some .cell∨sc.names.lookup x=some .free)→∃ c,env.cells.lookup x=some c∧(c≠P₀∧c≠cStatics)∧(∃ v₀,h.IsCell c v₀)∧∀ d,σ x=some d→∃ v,h.IsCell c (some v)∧VOk h X (own.contains x) (V x) v d
 inj:∀ x y c,env.cells.lookup x=some c→env.cells.lookup y=some c→x=y
section
variable {e:D} {σ τ:Sg}
theorem Ok.grow(k:Ok X s)(g:Grow s s'):Ok X s':=
 ⟨k.x.grow g,k.base,fun a o n e=>by
  by_cases hc:a=cStatics
  ·subst hc;exact g.cst _ (k.old _ _ n e)
  ·exact g.keep a o ⟨n,hc⟩ (k.old a o n e),le_trans k.sz g.size,(X12 k.tab fun ps a b=>X12 (g.tab ps a b) fun m c d=>⟨ps++m,c,d⟩),k.ccs⟩
theorem y4{o:Option Obj}(e:h.get? a=o)(e':h'.get? a=o):zw h' (.ref a)=zw h (.ref a):=
 congrArg (fun z:Option Obj=>a::(match z with
  |some o=>o.dict.toList
  |none=>[])) (e'.trans e.symm)
theorem Rep.roots(R:Rep h X t v d)(k:∀ a o,(a≠P₀∧a≠cStatics)→h.get? a=some o→h'.get? a=some o):zw h' v=zw h v:=by
 cases R with
 |none=>rfl
 |bool=>rfl
 |int=>rfl
 |str=>rfl
 |tup r i z=>exact X11 i fun n i=>y4 i (k _ _ r.ne i)
 |list r i z=>exact X11 i fun n i=>y4 i (k _ _ r.ne i)
 |dS r n i e l=>exact X32 i fun o es ep i z=>y4 i (k _ _ r.ne i)
 |dI r n i e l=>exact X32 i fun o es ep i z=>y4 i (k _ _ r.ne i)
 |obj r r' g i e l=>exact y4 g (k _ _ r.ne g)
theorem VOk.grow{o:Bool}(y:VOk s.heap X o U v d)(g:Grow s s'):VOk s'.heap X o U v d:=
 ⟨y.1.grow g,fun h=>by rw [y.1.roots g.keep];exact y.2 h⟩
theorem zC.grow(R:zC V env sc own σ X s.heap)(g:Grow s s'):zC V env sc own σ X s'.heap where
 scp:=R.scp
 cod:=R.cod
 kind:=R.kind
 glob:=R.glob
 bi:=R.bi
 ne:=R.ne
 locV:=R.locV
 loc:=by
  refine X12 R.loc fun m hn hm=>?_;refine ⟨m,hn.at' fun o e=>g.keep _ o R.ne e,fun x d hx hd=>?_⟩;refine X12 (hm x d hx hd) fun v hv r=>?_;exact ⟨v,hv,r.grow g⟩
 inj:=R.inj
 cell:=fun x hx=>by
  obtain ⟨c,hc,ne,⟨v₀,hv₀⟩,hd⟩:=R.cell x hx;have key:∀ v₀,s.heap.IsCell c v₀→s'.heap.IsCell c v₀:=fun v₀ hq=>X12 hq fun o ho e=>⟨o,g.keep c o ne ho,e⟩
  exact ⟨c,hc,ne,⟨v₀,key _ hv₀⟩,fun d h=>X12 (hd d h) fun v h1 h2=>⟨v,key _ h1,h2.grow g⟩⟩
theorem zC.weak(R:zC V env sc own τ X s.heap)(h:∀ x d,σ x=some d→τ x=some d):zC V env sc own σ X s.heap where
 scp:=R.scp
 cod:=R.cod
 kind:=R.kind
 glob:=R.glob
 bi:=R.bi
 ne:=R.ne
 locV:=R.locV
 loc:=by
  refine X12 R.loc fun m hn hm=>?_;exact ⟨m,hn,fun x d hx hd=>hm x d hx (h x d hd)⟩
 inj:=R.inj
 cell:=fun x hx=>by
  refine X14 (R.cell x hx) fun c hc ne hv₀ hd=>?_;exact ⟨c,hc,ne,hv₀,fun d q=>hd d (h x d q)⟩
theorem zC.name(R:zC V env sc own σ X s.heap)(hx:jq sc x=true)(hd:σ x=some d)
  (h:∀ v,Rep s.heap X (own.contains x) v d→Q v s):wpAny (model prog w) A (eval (.Name x pos) env) Q E s:=by
 have hk:env.scope.kind= .function:=by rw [R.scp];exact R.kind
 simp only [jq,and_eq_true,or_eq_true,beq_iff_eq,not_eq_true'] at hx;obtain ⟨⟨hx,hdb⟩,hcd⟩:=hx;have hkd:env.kindOf x=sc.names.lookup x:=by rw [←R.scp];rfl
 rcases hx with (hx|hx)|hx
 ·refine X12 R.loc fun m hn hm=>?_;refine X12 (hm x d hx hd) fun v hv r=>?_;exact wpAny_Name (wpAny_loadName_local hk (hkd.trans hx) hn hv (h v r.1)) hdb
 ·refine X14 (R.cell x (.inl hx)) fun c hc ne z hv=>?_;refine X12 (hv d hd) fun v h1 r=>?_;exact wpAny_Name (wpAny_loadName_cell hk (hkd.trans hx) hc h1 (h v r.1)) hdb
 ·refine X14 (R.cell x (.inr hx)) fun c hc ne z hv=>?_;refine X12 (hv d hd) fun v h1 r=>?_;exact wpAny_Name (wpAny_loadName_free hk (hkd.trans hx) hc h1 (h v r.1) hcd) hdb
set_option tactic.hygienic true in
theorem zC.global(R:zC V env sc own σ X s.heap)(k:Ok X s)(G:kB)(hx:zG sc x=true)(hv:jV x=some v)
  (h:Q v s):wpAny (model prog w) A (eval (.Name x pos) env) Q E s:=by
 have hk:env.scope.kind= .function:=by rw [R.scp];exact R.kind
 have hkd:env.kindOf x=sc.names.lookup x:=by rw [←R.scp];rfl
 simp only [zG,and_eq_true,beq_iff_eq,not_eq_true'] at hx;have hg:s.heap.Ns env.globals mg:=by rw [R.glob];exact G.g.at' fun o e=>k.old _ o G.ne.1 e
 have hb:s.heap.Ns env.builtins mb:=by rw [R.bi];exact G.b.at' fun o e=>k.old _ o G.ne.2 e
 refine Name_function_global hk (hkd.trans hx.1) ?_ hx.2;unfold jV at hv
 split at hv
 ·rename_i q;cases hv;exact loadGlobal_global hg q h
 ·rename_i q;exact loadGlobal_builtin hg q hb hv h
end
end
variable {σ τ:Sg}{s₁:Shared}{tp:Bool}{T:Sc}{M:Prop}{p:EvK}
section
section
variable {e:D}
theorem zC.addX(R:zC V env sc own σ X s.heap)(hx:∀ a∈X',a∈X∨s.heap.objs.size≤a):zC V env sc own σ X' s.heap where
 scp:=R.scp
 cod:=R.cod
 kind:=R.kind
 glob:=R.glob
 bi:=R.bi
 ne:=R.ne
 locV:=R.locV
 loc:=by
  refine X12 R.loc fun m hn hm=>?_;exact ⟨m,hn,fun x d hx' hd=>X12 (hm x d hx' hd) fun v hv r=>⟨v,hv,r.1.addX hx,r.2⟩⟩
 inj:=R.inj
 cell:=fun x hx'=>by
  refine X14 (R.cell x hx') fun c hc ne hv₀ hd=>?_;exact ⟨c,hc,ne,hv₀,fun d q=>X12 (hd d q) fun v h1 h2=>⟨v,h1,h2.1.addX hx,h2.2⟩⟩
theorem zC.subX(R:zC V env sc own σ X s.heap)(hx:∀ a∈X',a∈X):zC V env sc own σ X' s.heap:=R.addX fun a m=>.inl (hx a m)
theorem Ok.addX(k:Ok X s)(hs:∀ a∈X,a∈X')(hx:∀ a∈X',a∈X∨s.heap.objs.size≤a)(hl:∀ a∈X',a<s'.heap.objs.size)(g:Grow s s'):Ok X' s':=
 let k':=k.grow g
 ⟨⟨⟨hs _ k.x.mem.1,hs _ k.x.mem.2⟩,hl,k'.x.mods⟩,fun a m=>(hx a m).elim (k.base a) fun l=>.inr (.inr (le_trans k.sz l)),k'.old,k'.sz,k'.tab,k'.ccs⟩
theorem Ok.subX(k:Ok X s)(h1:P₀∈X')(h2:cStatics∈X')(hs:∀ a∈X',a∈X):Ok X' s:=
 ⟨⟨⟨h1,h2⟩,fun a m=>k.x.lt a (hs a m),k.x.mods⟩,fun a m=>k.base a (hs a m),k.old,k.sz,k.tab,k.ccs⟩
section
variable {K:Type} [DecidableEq K]
theorem zz4{kvs:List (K × α)}{k:K}:kvs.any (fun kv=>kv.1=k)=(kvs.map (fun z=>z.1)).any (fun a=>a=k):=by simp [any_map,Function.comp_def]
theorem zk1{kvs:List (K × Value)}{ds:List (K × D)}{k:K}(Rv:Rep h X false v d):∀ {kvs:List (K × Value)} {ds:List (K × D)},kvs.map (fun z=>z.1)=ds.map (fun z=>z.1)→zu h X (kvs.map (fun z=>z.2)) (ds.map (fun z=>z.2))→
  (kvs.map fun kv=>if kv.1=k then (kv.1,v) else kv).map (fun z=>z.1)=(ds.map fun kv=>if kv.1=k then (kv.1,d) else kv).map (fun z=>z.1)∧zu h X ((kvs.map fun kv=>if kv.1=k then (kv.1,v) else kv).map (fun z=>z.2)) ((ds.map fun kv=>if kv.1=k then (kv.1,d) else kv).map (fun z=>z.2))
 |[],[],_,_=>⟨rfl,.nil⟩
 |(a,y)::kvs,(b,z)::ds,e,R=>by
  injection e with e e'
  have e:a=b:=e;subst e;refine X23 R.inv fun y' us q r1 r2=>?_;injection q with q1 q2
  have q1:y=y':=q1;subst q1;rw [←q2] at r2;refine X02 (zk1 Rv (kvs:=kvs) (ds:=ds) (k:=k) e' r2) fun i1 i2=>?_;rw [map_cons,map_cons,map_cons,map_cons,map_cons,map_cons,i1];by_cases hk:a=k
  ·rw [if_pos hk,if_pos hk];exact ⟨rfl,.cons Rv i2⟩
  ·rw [if_neg hk,if_neg hk];exact ⟨rfl,.cons r1 i2⟩
theorem yx{kvs:List (K × Value)}{ds:List (K × D)}{k:K}(e:kvs.map (fun z=>z.1)=ds.map (fun z=>z.1))(R:zu h X (kvs.map (fun z=>z.2)) (ds.map (fun z=>z.2)))(Rv:Rep h X false v d):
  (stored kvs k v).map (fun z=>z.1)=(qc ds k d).map (fun z=>z.1)∧zu h X ((stored kvs k v).map (fun z=>z.2)) ((qc ds k d).map (fun z=>z.2)):=by
 unfold stored qc;rw [zz4,zz4,e];by_cases hh:((ds.map (fun z=>z.1)).any fun a=>decide (a=k))=true
 ·rw [if_pos hh,if_pos hh];exact zk1 (kvs:=kvs) (ds:=ds) Rv e R
 ·rw [if_neg hh,if_neg hh,map_append,map_append,map_append,map_append,e];exact ⟨rfl,R.append (.cons Rv .nil)⟩
theorem v5:∀ {more:List (K × Value)} {ms:List (K × D)} {kvs:List (K × Value)} {ds:List (K × D)},kvs.map (fun z=>z.1)=ds.map (fun z=>z.1)→zu h X (kvs.map (fun z=>z.2)) (ds.map (fun z=>z.2))→
  more.map (fun z=>z.1)=ms.map (fun z=>z.1)→zu h X (more.map (fun z=>z.2)) (ms.map (fun z=>z.2))→
  (merged kvs more).map (fun z=>z.1)=(zD ds ms).map (fun z=>z.1)∧zu h X ((merged kvs more).map (fun z=>z.2)) ((zD ds ms).map (fun z=>z.2))
 |[],[],_,_,e,R,_,_=>⟨e,R⟩
 |(k,v)::more,(k',d)::ms,kvs,ds,e,R,e',R'=>by
  injection e' with h1 e'
  have h1:k=k':=h1;subst h1;refine X23 R'.inv fun y' us q r1 r2=>?_;injection q with q1 q2
  have q1:v=y':=q1;subst q1;rw [←q2] at r2;refine X02 (yx (k:=k) e R r1) fun i1 i2=>?_;exact v5 (more:=more) (ms:=ms) i1 i2 e' r2
end
noncomputable def y5(e:Expr)(d:D):Bool:=match e with
 | .List .. =>true
 | .Dict .. =>true
 | .ListComp .. =>true
 | .BinOp z op y x=>match op with
  | .Add=>match d with
   | .list z=>true
   |_=>false
  |_=>false
 |_=>false
theorem zk2{l r:Expr}{op:Operator}(h:y5 (.BinOp l op r pos) d=true):op= .Add∧∃ ds,d= .list ds:=by
 cases op with
 |Add=>cases d with
  |list ds=>exact ⟨rfl,ds,rfl⟩
  |_=>exact yy h
 |_=>exact yy h
theorem q7{f:α→Option β}{a:α}{as:List α}{r:List β}(h:qp f (a::as)=some r):∃ b bs,f a=some b∧qp f as=some bs∧r=b::bs:=by
 have h:((f a).bind fun b=>(qp f as).map (b:: ·))=some r:=h;exact X12 (Option.bind_eq_some_iff.mp h) fun b h1 h=>X12 (map_eq_some_iff.mp h) fun bs h2 h3=>⟨b,bs,h1,h2,h3.symm⟩
theorem jF{f:α→Option β}{a:α}{as:List α}{b:β}{bs:List β}(h1:f a=some b)(h2:qp f as=some bs):qp f (a::as)=some (b::bs):=Option.bind_eq_some_iff.mpr ⟨b,h1,map_eq_some_iff.mpr ⟨bs,h2,rfl⟩⟩
theorem orF{a:Bool}(h:(a||b)=false):a=false∧b=false:=by cases a with|true=>exact Bool.noConfusion h|false=>exact ⟨rfl,h⟩
theorem zmz{a:Bool}(h:(a&&b)=true):a=true∧b=true:=by cases a with|false=>exact Bool.noConfusion h|true=>exact ⟨rfl,h⟩
theorem bE{a:Option α}{f:α→Option β}{r:β}(h:a.bind f=some r)(k:∀ x,a=some x→f x=some r→C):C:=match a,h,k with
 |none,h,_=>zq h
 |some _,h,k=>k _ rfl h
theorem iE{c:Prop}[Decidable c]{a:Option α}{r:α}(h:(if c then a else none)=some r)(k:c→a=some r→C):C:=k (zk h).1 (zk h).2
theorem iN{c:Prop}[Decidable c]{a:Option α}{r:α}(h:(if c then none else a)=some r)(k:¬c→a=some r→C):C:=
 if q:c then zq ((if_pos q).symm.trans h) else k q ((if_neg q).symm.trans h)
theorem i2{c:Prop}[Decidable c]{a b r:α}(h:(if c then a else b)=r)(k:c→a=r→C)(k':¬c→b=r→C):C:=
 if q:c then k q ((if_pos q).symm.trans h) else k' q ((if_neg q).symm.trans h)
def gh(X:List Addr)(s s':Shared)(v:Value)(d:D):Prop:=∃ a,v= .ref a∧s.heap.objs.size≤a∧a<s'.heap.objs.size∧Rep s'.heap (a::X) true v d
def zqZ(A:Around)(X:List Addr)(s:Shared)(trees:List (Bool × Sem Value))(ds:List D):Prop:=
 ∀ (Q:List Value→Shared→Prop) (E:Value→Shared→Prop),(∀ vs s',Grow s s'→zu s'.heap X vs ds→Q vs s')→wpAny (model prog w) A (spliced trees) Q E s
structure jH(C:Cx):Prop where
 glob:∀ {x d},C.glob x=some d→∃ v,jV x=some v∧Rep h₀ [P₀,cStatics] false v d
 call:∀ {x ds r},C.call x ds=some r→∃ fv,jV x=some fv∧∀ {A s X pos} {trees:List (Bool × Sem Value)},kQ A C.lvl→Ok X s→trees.any (fun z=>z.1)=false→zqZ A X s trees ds→
  zj A X (callWith pos fv [] trees []) s r
 meth:∀ {name c fs ds r},C.meth name (.obj c fs) ds=some r→∀ {A s X ov o apos pos env n} {trees:List (Bool × Sem Value)},kQ A C.lvl→Ok X s→Rep s.heap X false ov (.obj c fs)→trees.any (fun z=>z.1)=false→n<29→
  (apos.endLine==pos.line)=true→zqZ A X s trees ds→zj A X (methodCall o name apos pos env ov n trees []) s r
 fld:∀ {c name fs d},C.fld c name=true→fs.lookup name=some d→∀ {A s X t ov},Ok X s→Rep s.heap X t ov (.obj c fs)→zj A X (getAttr ov name true) s d
 attr:∀ {c name d},C.attr c name=some d→∃ cv,jV c=some cv∧∀ {A s X},Ok X s→zj A X (getAttr cv name true) s d
 spec:∀ {own sc e σ d},C.spec own sc e σ=some d→∀ {V:Str→Addr→Prop} {env X s A},zC V env sc own σ X s.heap→Ok X s→kQ A C.lvl→zj A X (eval e env) s d
structure Pl where
 V:Str→Addr→Prop
 env:Env
 X:List Addr
 s:Shared
 A:Around
noncomputable def Pl.to(P:Pl)(s:Shared):Pl:=⟨P.V,P.env,P.X,s,P.A⟩
structure Good(T:Sc)(P:Pl):Prop where
 R:zC P.V P.env T.sc T.own T.σ P.X P.s.heap
 K:Ok P.X P.s
 hA:kQ P.A T.C.lvl
 CO:jH T.C
 G:kB
structure zdA(T:Sc)(P:Pl)(e:Expr)(d:D)(v:Value)(s':Shared):Prop where
 g:Grow P.s s'
 r:Rep s'.heap P.X (qY T.own e) v d
 f:y5 e d=true→gh P.X P.s s' v d
def SE(T:Sc)(e:Expr)(d:D):Prop:=∀ P,Good T P→∀ (Q:Value→Shared→Prop) (E:Value→Shared→Prop),(∀ v s',zdA T P e d v s'→Q v s')→wpAny (model prog w) P.A (eval e P.env) Q E P.s
def ST(T:Sc)(e:Expr)(b:Bool):Prop:=∀ P,Good T P→∀ (Q:Bool→Shared→Prop) (E:Value→Shared→Prop),(∀ s',Grow P.s s'→Q b s')→wpAny (model prog w) P.A (isTrue e P.env (eval e P.env)) Q E P.s
def SI(T:Sc)(e:Expr)(tp:Bool)(ds:List D):Prop:=∀ P,Good T P→∀ (Q:Value→Shared→Prop) (E:Value→Shared→Prop),(∀ v s',Grow P.s s'→j5 P.A P.s.heap.objs.size P.X (zdQ T.own e) tp v ds s'→Q v s')→wpAny (model prog w) P.A (eval e P.env) Q E P.s
inductive SL(T:Sc):List Expr→List D→Prop
 |nil:SL T [] []
 |cons {e:Expr} {es:List Expr} {d:D} {ds:List D}:SE T e d→SL T es ds→SL T (e::es) (d::ds)
section
def OkE(T:Sc)(e:Expr)(k:D→Option β)(r:β):Prop:=∃ d,SE T e d∧k d=some r
def OkT(T:Sc)(e:Expr)(k:Bool→Option β)(r:β):Prop:=∃ b,ST T e b∧k b=some r
def OkI(T:Sc)(e:Expr)(k:Bool→List D→Option β)(r:β):Prop:=∃ tp ds,SI T e tp ds∧k tp ds=some r
def OkL(T:Sc)(es:List Expr)(k:List D→Option β)(r:β):Prop:=∃ ds,SL T es ds∧k ds=some r
variable {e:Expr} {es:List Expr} {r:β}
theorem OkE.mk{k:D→Option β}(h:SE T e d)(q:k d=some r):OkE T e k r:=⟨d,h,q⟩
theorem OkE.elim{k:D→Option β}(h:OkE T e k r)(f:∀ d,SE T e d→k d=some r→M):M:=X12 h f
theorem OkT.mk{k:Bool→Option β}(h:ST T e b)(q:k b=some r):OkT T e k r:=⟨b,h,q⟩
theorem OkT.elim{k:Bool→Option β}(h:OkT T e k r)(f:∀ b,ST T e b→k b=some r→M):M:=X12 h f
theorem OkI.mk{k:Bool→List D→Option β}(h:SI T e tp ds)(q:k tp ds=some r):OkI T e k r:=⟨tp,ds,h,q⟩
theorem OkI.elim{k:Bool→List D→Option β}(h:OkI T e k r)(f:∀ tp ds,SI T e tp ds→k tp ds=some r→M):M:=X22 h f
theorem OkL.mk{k:List D→Option β}(h:SL T es ds)(q:k ds=some r):OkL T es k r:=⟨ds,h,q⟩
theorem OkL.elim{k:List D→Option β}(h:OkL T es k r)(f:∀ ds,SL T es ds→k ds=some r→M):M:=X12 h f
end
structure k9(p:EvK):Prop where
 e:∀ {β:Type} {T e} {k:D→Option β} {r},p.e T e k=some r→OkE T e k r
 t:∀ {β:Type} {T e} {k:Bool→Option β} {r},p.t T e k=some r→OkT T e k r
 i:∀ {β:Type} {T e} {k:Bool→List D→Option β} {r},p.i T e k=some r→OkI T e k r
section
variable {P:Pl} {e:Expr} {es:List Expr}
theorem Good.to(G:Good T P)(g:Grow P.s s'):Good T (P.to s'):=⟨G.R.grow g,G.K.grow g,G.hA,G.CO,G.G⟩
theorem zdA.to(o:zdA T P e d v s')(G:Good T P):Good T (P.to s'):=G.to o.g
theorem Rep.any(r:Rep h X false v d)(t:Bool):Rep h X t v d:=by cases t with|false=>exact r|true=>exact r.top
theorem zdA.plain(hf:y5 e d=false)(g:Grow P.s s')(r:Rep s'.heap P.X false v d):zdA T P e d v s':=⟨g,r.any _,fun q=>Bool.noConfusion (hf.symm.trans q)⟩
theorem SE.of_gives(hf:y5 e d=false)(h:∀ P,Good T P→zj P.A P.X (eval e P.env) P.s d):SE T e d:=
 fun P G Q E hQ=>h P G Q E fun v s' g r=>hQ v s' (.plain hf g r)
theorem qF{β:Type}(ih:k9 p){r:β}:∀ {es:List Expr} {k:List D→Option β},zjS p T es k=some r→OkL T es k r
 |[],k,h=>.mk .nil h
 |e::es,k,h=>(ih.e h).elim fun z h1 h=>(qF ih h).elim fun z h2 h=>.mk (.cons h1 h2) h
theorem SL.length(h:SL T es ds):ds.length=es.length:=by
 induction h with
 |nil=>rfl
 |cons z y ih=>exact congrArg Nat.succ ih
theorem qU(h:zl (e::es)=true):starEach (e::es) env=(false,eval e env)::starEach es env∧zl es=true:=by
 cases e<;>first|exact ⟨rfl,h⟩|cases h
theorem zV:∀ {es:List Expr} (pos:Pos),zl es=true→(backTo pos (starEach es env)).any (fun z=>z.1)=false
 |[],_,_=>rfl
 |e::es,pos,h=>by
  refine X02 (qU (env:=env) h) fun h1 h2=>?_;rw [h1];exact (congrArg (false|| ·) (zV pos h2)).trans rfl
theorem j7(h:SL T es ds)(pos:Pos):∀ {P:Pl},zl es=true→es.any (qY T.own)=false→Good T P→zqZ P.A P.X P.s (backTo pos (starEach es P.env)) ds:=by
 induction h with
 |nil=>exact fun z z z Q E hQ=>spliced_nil (hQ _ _ (Grow.refl ..) .nil)
 |@cons e es d ds h1 z ih=>exact fun {P} hs ho G Q E hQ=>X02 (qU (env:=P.env) hs) fun e1 e2=>rwR (P:=fun l=>wpAny (model prog w) P.A (spliced (backTo pos l)) Q E P.s) e1 (spliced_cons (rest:=backTo pos (starEach es P.env)) (h1 P G _ _ fun v s₁ o=>ih (P:=P.to s₁) e2 (orF ho).2 (o.to G) _ _ fun vs s₂ g rl=>hQ _ _ (o.g.trans g) (.cons (Rep.grow g ((orF ho).1▸o.r)) rl)))
end
structure KB(K:Type)[DecidableEq K] where
 knd:PySem.KeyKind prog w K
 mkd:List (K × D)→D
 key:K→D
 keyf:D × D→Option (K × D)
 hkf:∀ {a b k d},keyf (a,b)=some (k,d)→a=key k∧b=d
 hmk:∀ {h X t a kvs ds},pd knd key h X t a kvs ds→Rep h X t (.ref a) (mkd ds)
 hkey:∀ {h X t v k},Rep h X t v (key k)→knd.is k v=true
 hrep:ve knd key
 inv:∀ {h X t v ds},Rep h X t v (mkd ds)→∃ a kvs,v= .ref a∧pd knd key h X t a kvs ds
theorem zvJ{a b:D}{k:Str}(h:zp1 (a,b)=some (k,d)):a= .str k∧b=d:=by
 cases a with
 |str=>have h:=sj h;exact ⟨congrArg (fun p=>D.str p.1) h,congrArg (fun z=>z.2) h⟩
 |_=>exact zq h
theorem zvY{a b:D}{k:Int}(h:zdL (a,b)=some (k,d)):a= .int k∧b=d:=by
 cases a with
 |int=>have h:=sj h;exact ⟨congrArg (fun p=>D.int p.1) h,congrArg (fun z=>z.2) h⟩
 |_=>exact zq h
noncomputable def kbS:KB Str:=⟨PySem.strKind prog w,.dS,.str,zp1,zvJ,fun x=>.dS x.root x.mods x.dict x.keys x.vals,fun R=>R.strE (M:=fun v=>(PySem.strKind prog w).is _ v=true) fun z=>strKind_is ..,zq6,
 fun R=>X26 R.inv fun a kvs e r n i k l=>⟨a,kvs,e,r,n,i,k,l⟩⟩
noncomputable def kbI:KB Int:=⟨PySem.intKind prog w,.dI,.int,zdL,zvY,fun x=>.dI x.root x.mods x.dict x.keys x.vals,fun R=>R.intE (M:=fun v=>(PySem.intKind prog w).is _ v=true) fun z=>intKind_is ..,zq7,
 fun R=>X26 R.inv fun a kvs e r n i k l=>⟨a,kvs,e,r,n,i,k,l⟩⟩
theorem kD{ps:List (D × D)}(h:qV ps=some d)(k1:∀ ks,qp zp1 ps=some ks→ .dS (zD [] ks)=d→M)(k2:∀ ks,qp zdL ps=some ks→ .dI (zD [] ks)=d→M):M:=by
 unfold qV at h;cases h1:qp zp1 ps with
 |some ks=>rw [h1] at h;exact k1 ks h1 (sj h)
 |none=>rw [h1] at h;cases h2:qp zdL ps with
  |some ks=>rw [h2] at h;exact k2 ks h2 (sj h)
  |none=>rw [h2] at h;exact zq h
end
end
variable {c:Addr}
section
section
variable {e:D}
theorem xK{q q':Option Obj}(l:∃ o,q=some o)(k:∀ o,q=some o→q'=some o):q'=q:=l.elim fun o e=>(k o e).trans e.symm
def zk3(q r:Option Obj)(c P:Addr)(ps:Array Value):Prop:=
 ∃ o vs file tf flags tg inF text tt op,q=some o∧o.data= .fields vs∧vs.getD 11 .none= .ref P∧vs.getD 18 .none= .str file tf∧
  vs.getD 7 .none= .int flags tg∧vs.getD 9 .none= .bool inF∧vs.getD 10 .none= .int text tt∧r=some op∧op.data= .fields ps∧TriplesOk ps.toList∧c≠P
def zg9(q r:Option Obj)(P:Addr)(ps:Array Value):Prop:=(∃ o vs,q=some o∧o.cls= .type "code"∧o.data= .fields vs∧vs[11]? =some (.ref P))∧r=some { cls:=.none,data:=.fields ps }
theorem zk3.has{q r:Option Obj}{P:Addr}{ps:Array Value}(x:zk3 q r c P ps):(∃ o,q=some o)∧∃ o,r=some o:=
 X71 x fun o z z z z z z x=>X31 x fun z z op x=>⟨⟨o,x.1⟩,op,x.2.2.2.2.2.2.2.1⟩
theorem yX{P:Addr}{ps:Array Value}(x:h.IsCode c P ps)(k1:∀ o,h.get? c=some o→h'.get? c=some o)(k2:∀ o,h.get? P=some o→h'.get? P=some o):h'.IsCode c P ps:=
 have y:zk3 (h.get? c) (h.get? P) c P ps:=x;rwR (P:=fun q=>zk3 q (h'.get? P) c P ps) (xK y.has.1 k1) (rwR (P:=fun r=>zk3 (h.get? c) r c P ps) (xK y.has.2 k2) y)
theorem jM{P:Addr}{ps:Array Value}(x:h.TableAt c P ps)(k1:∀ o,h.get? c=some o→h'.get? c=some o)(k2:∀ o,h.get? P=some o→h'.get? P=some o):h'.TableAt c P ps:=
 rwR (P:=fun q=>zg9 q (h'.get? P) P ps) (xK (X21 x.1 fun o z y=>⟨o,y.1⟩) k1) (rwR (P:=fun r=>zg9 (h.get? c) r P ps) (xK ⟨_,x.2⟩ k2) x)
theorem Grow.off{W:Addr→Prop}(g:Grow s s₁)(k:∀ b o,¬ W b→s₁.heap.get? b=some o→h'.get? b=some o)(hW:∀ b,W b→s.heap.objs.size≤b)(sz:s₁.heap.objs.size≤h'.objs.size)
  (hl:cc<s.heap.objs.size∧P₀<s.heap.objs.size∧cStatics<s.heap.objs.size):Grow s { s₁ with heap:=h',toks:=tk }:=
 have n:∀ {b},b<s.heap.objs.size→¬ W b:=fun l m=>absurd l (not_lt.mpr (hW _ m))
 ⟨fun b o q e=>k b o (n (lt_size e)) (g.keep b o q e),le_trans g.size sz,fun o e=>k _ o (n hl.2.2) (g.cst o e),fun m x=>(g.stat m x).at' fun o e=>k _ o (n hl.2.2) e,g.os,g.gens,
  fun ps a b=>X12 (g.tab ps a b) fun more a' b'=>⟨more,yX a' (fun o=>k _ o (n hl.1)) fun o=>k _ o (n hl.2.1),jM b' (fun o=>k _ o (n hl.1)) fun o=>k _ o (n hl.2.1)⟩⟩
theorem Ok.lts(k:Ok X s):cc<s.heap.objs.size∧P₀<s.heap.objs.size∧cStatics<s.heap.objs.size:=
 ⟨lt_of_lt_of_le k.ccs.1 k.sz,lt_of_lt_of_le k.ccs.2.2.2.1 k.sz,lt_of_lt_of_le k.ccs.2.2.2.2.1 k.sz⟩
theorem zvK(k:Ok X s)(r:Rep h₀ [P₀,cStatics] false v d):Rep s.heap X false v d:=
 Rep.move ⟨fun a o n z e=>k.old a o n.1 e,fun a o n e m=>(k.base a m).elim (fun h=>n (h▸ .head _)) fun h=>h.elim (fun h=>n (h▸ .tail _ (.head _))) fun h=>absurd (lt_size e) (not_lt.mpr h)⟩ (fun e=>Bool.noConfusion e) r
theorem wy{α β:Type}{f:α→Option β}:∀ {as:List α} {bs:List β},qp f as=some bs→bs.length=as.length
 |[],_,h=>sj h▸rfl
 |a::as,bs,h=>X23 (q7 h) fun z z z h2 h3=>h3▸congrArg Nat.succ (wy h2)
theorem wk(h:Heap)(o:Obj):h.objs.size<(h.push o).objs.size:=(size_push h o).symm▸lt_succ_self _
theorem zp9(a:Addr)(e:h.objs.size≤a):∀ b∈a::X,b∈X∨h.objs.size≤b:=fun z m=>(mem_cons.mp m).elim (fun q=>.inr (q▸e)) .inl
theorem zk4(x:XOk X s.heap){vs:Array Value}(R:zu s.heap X vs.toList ds):
  Rep (s.heap.push { cls:=.type "list",data:=.seq vs n }) (s.heap.objs.size::X) true (.ref s.heap.objs.size) (.list ds):=
 .list ⟨(x.root (le_refl _) true).ne,fun e=>Bool.noConfusion e⟩ ⟨n,get?_push_size _ rfl⟩ (zu.push (R.addX (zp9 _ (le_refl _))) _)
theorem zgQ(x:XOk X s₁.heap)(hs:s.heap.objs.size≤s₁.heap.objs.size){vs:Array Value}(R:zu s₁.heap X vs.toList ds):
  gh X s { s₁ with heap:=s₁.heap.push { cls:=.type "list",data:=.seq vs n },toks:=tk } (.ref s₁.heap.objs.size) (.list ds):=
 ⟨_,rfl,hs,wk ..,zk4 x R⟩
theorem kQ.cl(h:kQ A k):A.units+9<cLine:=lt_of_lt_of_le (Nat.add_lt_add_right (lt_of_le_of_lt (le_add_right _ _) h.units) 9) (by decide)
section
variable {K:Type} [DecidableEq K] {P:Pl}
theorem KB.new(B:KB K){kvs:List (K × Value)}{ds:List (K × D)}(x:XOk X s.heap)(hd:h'.DictOf B.knd s.heap.objs.size kvs)(hk:kvs.map (fun z=>z.1)=ds.map (fun z=>z.1))(R:zu h' (s.heap.objs.size::X) (kvs.map (fun z=>z.2)) (ds.map (fun z=>z.2))):
  Rep h' X false (.ref s.heap.objs.size) (B.mkd ds)∧Rep h' (s.heap.objs.size::X) true (.ref s.heap.objs.size) (B.mkd ds):=
 have hr:=x.root (le_refl _) false;have hm:=x.noMods (le_refl _)
 ⟨B.hmk ⟨hr,hm,hd,hk,R.subX fun z m=>mem_cons_of_mem _ m⟩,B.hmk ⟨⟨hr.ne,fun e=>Bool.noConfusion e⟩,hm,hd,hk,R⟩⟩
theorem SL.consE{M:List D→Prop}{e:Expr}{es:List Expr}(h:SL T (e::es) ds)(k:∀ d ds,SE T e d→SL T es ds→M (d::ds)):M ds:=by
 cases h with|cons a b=>exact k _ _ a b
theorem SL.nilE{M:List D→Prop}(h:SL T [] ds)(k:M []):M ds:=by
 cases h with|nil=>exact k
theorem zvX(B:KB K)(pos:Pos){values:List Expr}{vs:List D}(h2:SL T values vs):∀ {keys:List (Option Expr)} {ks:List D} {kds:List (K × D)} {P:Pl},keys.all (·.isSome)=true→SL T (keys.filterMap id) ks→qp B.keyf (ks.zip vs)=some kds→keys.length=values.length→values.any (qY T.own)=false→
  Good T P→∀ (Q:List (Value × Value)→Shared→Prop) (E:Value→Shared→Prop),(∀ ps s' kvs,Grow P.s s'→Carries B.knd ps kvs→kvs.map (fun z=>z.1)=kds.map (fun z=>z.1)→zu s'.heap P.X (kvs.map (fun z=>z.2)) (kds.map (fun z=>z.2))→Q ps s')→
  wpAny (model prog w) P.A (evalPairs (pairTrees keys values P.env pos)) Q E P.s:=by
 induction h2 with
 |nil=>
  intro keys ks kds P z h1 h3 hl z z Q E hQ;cases keys with
  |cons=>exact absurd hl (succ_ne_zero _)
  |nil=>exact h1.nilE (M:=fun ks=>qp B.keyf (ks.zip [])=some kds→_) (fun h3=>wpAny_pure (hQ [] _ [] (Grow.refl ..) trivial (sj h3▸rfl) (sj h3▸ .nil))) h3
 |@cons e es d ds he z ih=>
  intro keys ks kds P ha h1 h3 hl ho G Q E hQ;cases keys with
  |nil=>exact absurd hl.symm (succ_ne_zero _)
  |cons o keys=>cases o with
   |none=>exact yy ha
   |some ke=>
    refine h1.consE (M:=fun ks=>qp B.keyf (ks.zip (d::ds))=some kds→_) (fun kd ks' hk h1 h3=>X23 (q7 h3) fun b bs q1 q2 q3=>?_) h3;have hq:=B.hkf q1;refine evalPairs_cons (hk P G _ _ fun kv s₁ o1=>wpAny_bind (he (P.to s₁) (o1.to G) _ _ fun vv s₂ o2=>wpAny_bind (wpAny_standAt (wpAny_pure ?_))))
    exact ih (keys:=keys) (P:=(P.to s₁).to s₂) ha h1 q2 (Nat.succ.inj hl:keys.length=es.length) (orF ho).2 (o2.to (o1.to G)) _ _ fun ps s₃ kvs g hc hm hr=>
     hQ ((kv,vv)::ps) s₃ ((b.1,vv)::kvs) ((o1.g.trans o2.g).trans g) ⟨B.hkey (hq.1▸o1.r),rfl,hc⟩ (q3▸congrArg (b.1:: ·) hm) (q3▸ .cons (Rep.grow g (rwL (P:=fun d=>Rep s₂.heap P.X false vv d) hq.2 (rwL (P:=fun o=>Rep s₂.heap P.X o vv d) (orF ho).1 o2.r))) hr)
theorem zz5(B:KB K){keys:List (Option Expr)}{values:List Expr}{ks vs:List D}{kds:List (K × D)}(c:keys.all (·.isSome)=true∧keys.length=values.length∧keys.length≤15∧values.any (qY T.own)=false)
  (h1:SL T (keys.filterMap id) ks)(h2:SL T values vs)(h3:qp B.keyf (ks.zip vs)=some kds):SE T (.Dict keys values pos) (B.mkd (zD [] kds)):=fun P G Q E hQ=>by
 have hr:=G.K.x.root (le_refl _) true
 have fin:∀ {s₁:Shared} {h':Heap} {kvs:List (K × Value)} {tk:Nat},Grow P.s s₁→(∀ b o,b≠P.s.heap.objs.size→s₁.heap.get? b=some o→h'.get? b=some o)→s₁.heap.objs.size≤h'.objs.size→P.s.heap.objs.size<h'.objs.size→h'.DictOf B.knd P.s.heap.objs.size (merged [] kvs)→kvs.map (fun z=>z.1)=kds.map (fun z=>z.1)→
   zu h' (P.s.heap.objs.size::P.X) (kvs.map (fun z=>z.2)) (kds.map (fun z=>z.2))→Q (.ref P.s.heap.objs.size) { s₁ with heap:=h',toks:=tk }:=fun {s₁ h' kvs tk} g kk sz lt hd hk rl=>
  have m:=v5 (kvs:=[]) (ds:=[]) rfl .nil hk rl;have q:=B.new G.K.x hd m.1 m.2
  hQ _ _ ⟨Grow.off (W:=fun b=>b=P.s.heap.objs.size) g kk (fun b e=>le_of_eq e.symm) sz G.K.lts,q.1,fun z=>⟨_,rfl,le_refl _,lt,q.2⟩⟩
 have g0:Grow P.s { P.s with heap:=P.s.heap.push { cls:=.type "dict",data:=.dict #[] } }:=Grow.push ..;by_cases h0:keys=[]
 ·subst h0;cases values with
  |cons=>exact absurd c.2.1.symm (succ_ne_zero _)
  |nil=>
   refine h1.nilE (M:=fun ks=>qp B.keyf (ks.zip vs)=some kds→_) (fun h3=>?_) h3;exact wpAny_Dict_empty (fin (s₁:={ P.s with heap:=P.s.heap.push { cls:=.type "dict",data:=.dict #[] } }) (kvs:=[]) (tk:=P.s.toks) g0 (fun z z z e=>e) (le_refl _) (wk ..) (DictOf.new _) (sj h3▸rfl) (sj h3▸ .nil))
 ·have hX:=zp9 (X:=P.X) (h:=P.s.heap) _ (le_refl _);refine wpAny_Dict_walk (knd:=B.knd) c.1 c.2.1 h0 c.2.2.1 ?_
  refine zvX B pos h2 (P:=⟨P.V,P.env,P.s.heap.objs.size::P.X,{ P.s with heap:=P.s.heap.push { cls:=.type "dict",data:=.dict #[] } },P.A⟩) c.1 h1 h3 c.2.1 c.2.2.2 ⟨(G.R.addX hX).grow g0,G.K.addX (fun z m=>mem_cons_of_mem _ m) hX (fun a m=>?_) g0,G.hA,G.CO,G.G⟩ _ _ fun ps s₁ kvs g hc hk rl=>
   ⟨kvs,hc,(DictOf.new (knd:=B.knd) P.s.heap).at fun o e=>g.keep _ o hr.ne e,fun h' hd' sb=>
    fin (g0.trans g) (fun b o n e=>sb.extBut b o n e) (le_of_eq sb.1.symm) (lt_of_lt_of_le (wk ..) (le_trans g.size (le_of_eq sb.1.symm))) hd' hk (zu.upd (fun b o n e=>sb.extBut b o (fun q=>n (q▸ .head _)) e) rl)⟩
  exact (mem_cons.mp m).elim (fun e=>e▸wk ..) fun m=>Nat.lt_trans (G.K.x.lt a m) (wk ..)
theorem zpQ{keys:List (Option Expr)}{values:List Expr}{ks vs:List D}(c:keys.all (·.isSome)=true∧keys.length=values.length∧keys.length≤15∧values.any (qY T.own)=false)
  (h1:SL T (keys.filterMap id) ks)(h2:SL T values vs)(h3:qV (ks.zip vs)=some d):SE T (.Dict keys values pos) d:=
 kD h3 (fun z q e=>e▸zz5 kbS c h1 h2 q) fun z q e=>e▸zz5 kbI c h1 h2 q
end
end
end
variable {ap fp:Pos}{args:List Expr}{fs:List (Str × D)}
section
section
variable {e:D} {P:Pl}
theorem zvW{c:Const}(h:zg6 c=some d):SE T (.Constant c q pos) d:=fun P G Q E hQ=>by
 cases c with
 |none=>exact wpAny_Constant_none (hQ _ _ (.plain rfl (Grow.refl ..) (sj h▸ .none _)))
 |bool=>exact wpAny_Constant_bool (hQ _ _ (.plain rfl (Grow.refl ..) (sj h▸ .bool _ _)))
 |int=>exact wpAny_Constant_int (hQ _ _ (.plain rfl (Grow.toks ..) (sj h▸ .int _ _ _)))
 |str=>exact wpAny_Constant_str (hQ _ _ (.plain rfl (Grow.toks ..) (sj h▸ .str _ _ _)))
 |_=>exact zq h
theorem zdE(hv:jq T.sc x=true)(h:T.σ x=some d):SE T (.Name x pos) d:=fun P G Q E hQ=>G.R.name hv h fun v r=>hQ v _ ⟨Grow.refl ..,r,fun q=>yy q⟩
theorem zpZ(hg:zG T.sc x=true)(h:T.C.glob x=some d):SE T (.Name x pos) d:=fun P G Q E hQ=>
 X12 (G.CO.glob h) fun v h1 r=>G.R.global G.K G.G hg h1 (hQ v _ (.plain rfl (Grow.refl ..) (zvK G.K r)))
theorem pP{a b:D}(h:yQ .Add a b=some (.list ds)):∃ xs ys,a= .list xs∧b= .list ys∧xs.length+ys.length≤zz∧ds=xs++ys:=by
 cases a with
 |int=>cases b with
  |int=>cases sj h
  |_=>exact zq h
 |str=>cases b with
  |str=>cases sj (zk h).2
  |_=>exact zq h
 |list=>cases b with
  |list=>have h:=zk h;exact ⟨_,_,rfl,rfl,h.1,by injection sj h.2 with e;exact e.symm⟩
  |_=>exact zq h
 |tup=>cases b with
  |tup=>cases sj (zk h).2
  |_=>exact zq h
 |_=>exact zq h
theorem zk5{xs ys:List D}(x:XOk X s.heap)(R:Rep s.heap X t v (.list xs))(R':Rep s.heap X t' u (.list ys))(h:xs.length+ys.length≤zz)(Q:Value→Shared→Prop)(E:Value→Shared→Prop)
  (k:∀ v s',Grow s s'→Rep s'.heap X false v (.list (xs++ys))→gh X s s' v (.list (xs++ys))→Q v s'):wpAny (model prog w) A (binaryOp .Add v u) Q E s:=
 R.listE (M:=fun v=>wpAny _ _ (binaryOp _ v _) _ _ _) fun z z z z i l=>R'.listE (M:=fun v=>wpAny _ _ (binaryOp _ _ v) _ _ _) fun z z z z i' l'=>
  have L:=(toList_append).symm▸l.append l'
  PySem.P.add_list i i' (k _ _ (Grow.push ..) (kZ x L) (zgQ (tk:=s.toks) x (le_refl _) L)) (zn (by rw [←l.length, ←l'.length] at h;exact h))
theorem zdI{l rr:Expr}{op:Operator}{a b:D}(h1:SE T l a)(h2:SE T rr b)(h:yQ op a b=some d):SE T (.BinOp l op rr pos) d:=fun P G Q E hQ=>
 wpAny_BinOp (h1 P G _ _ fun v s₁ o1=>h2 (P.to s₁) (o1.to G) _ _ fun u s₂ o2=>by
  have x:=(o2.to (o1.to G)).K.x;have r1:=Rep.grow o2.g o1.r;have g:=o1.g.trans o2.g;by_cases hf:y5 (.BinOp l op rr pos) d=true
  ·refine X02 (zk2 hf) fun e1 hd=>X11 hd fun ds e2=>X24 (pP (e2▸e1▸h)) fun xs ys ea eb hc ed=>?_;rw [e1];exact zk5 x (ea▸r1) (eb▸o2.r) hc _ _ fun v' s₃ g3 r3 f=>hQ v' s₃ ⟨g.trans g3,e2▸ed▸r3,fun z=>X14 f fun a e ha hl fr=>e2▸ed▸⟨a,e,le_trans g.size ha,hl,fr⟩⟩
  ·exact zyN x r1 o2.r h _ _ fun v' s₃ g3 r3=>hQ v' s₃ (.plain (eq_false_of_ne_true hf) (g.trans g3) r3))
theorem zfq{x:Expr}{i:Int}(h:SE T x (.int i)):SE T (.UnaryOp .USub x pos) (.int (-i)):=fun P G Q E hQ=>
 wpAny_UnaryOp (h P G _ _ fun v s₁ o=>o.r.intE (M:=fun v=>wpAny _ _ (unaryOp _ v) _ _ _) fun z=>zjK (X:=P.X) _ _ fun v' s₂ g2 r2=>hQ v' s₂ (.plain rfl (o.g.trans g2) r2))
theorem zz6{tt a b:Expr}{c:Bool}(h1:ST T tt c)(h2:SE T (if c=true then a else b) d)(ho:qY T.own (if c=true then a else b)=false):SE T (.IfExp tt a b pos) d:=fun P G Q E hQ=>
 wpAny_IfExp (h1 P G _ _ fun s₁ g=>by
  have fin:wpAny (model prog w) P.A (eval (if c=true then a else b) P.env) Q E s₁:=h2 (P.to s₁) (G.to g) _ _ fun v s₂ o=>hQ v s₂ (.plain rfl (g.trans o.g) (ho▸o.r));cases c with
  |true=>exact fin
  |false=>exact fin)
theorem zpJ{elts:List Expr}(c:elts.any (qY T.own)=false∧zl elts=true∧elts.length≤zz)(h:SL T elts ds):SE T (.List elts pos) (.list ds):=fun P G Q E hQ=>
 wpAny_List_spliced (j7 h pos c.2.1 c.1 G _ _ fun vs s₁ g rl=>
  have x:=(G.to g).K.x
  ⟨zn (rl.length▸h.length.symm▸c.2.2),hQ _ _ ⟨g.trans (Grow.push ..),kZ (vs:=vs.toArray) x rl,fun z=>zgQ (vs:=vs.toArray) (tk:=s₁.toks) x g.size rl⟩⟩)
theorem zvV{elts:List Expr}(c:elts.any (qY T.own)=false∧zl elts=true∧elts.length≤zz)(h:SL T elts ds):SE T (.Tuple elts q pos) (.tup ds):=fun P G Q E hQ=>
 wpAny_Tuple_spliced (j7 h pos c.2.1 c.1 G _ _ fun vs s₁ g rl=>
  ⟨zn (rl.length▸h.length.symm▸c.2.2),hQ _ _ (.plain rfl (g.trans (Grow.push ..)) (vA (vs:=vs.toArray) (G.to g).K.x rl))⟩)
theorem pB{op:CmpOp}{rr:Expr}(h:¬ behindInMarks op rr=true):behindInMarks op rr=false:=eq_false_of_ne_true h
theorem zfz{l rr:Expr}{op:CmpOp}{a b:D}{c:Bool}(h1:SE T l a)(h2:SE T rr b)(hm:¬ behindInMarks op rr=true)(h:xJ op a b=some c):SE T (.Compare l [op] [rr] pos) (.bool c):=fun P G Q E hQ=>
 wpAny_Compare1 (h1 P G _ _ fun v s₁ o1=>h2 (P.to s₁) (o1.to G) _ _ fun u s₂ o2=>p9 (X:=P.X) (Rep.grow o2.g o1.r) o2.r h G.hA.cl _ _ fun v' s₃ g3 r3=>hQ v' s₃ (.plain rfl ((o1.g.trans o2.g).trans g3) r3)) (pB hm)
theorem zfj{l rr:Expr}{op:CmpOp}{a b:D}{c:Bool}(h1:SE T l a)(h2:SE T rr b)(hm:¬ behindInMarks op rr=true)(h:xJ op a b=some c):ST T (.Compare l [op] [rr] pos) c:=fun P G Q E hQ=>
 wpAny_isTrue_Compare1 (h1 P G _ _ fun v s₁ o1=>h2 (P.to s₁) (o1.to G) _ _ fun u s₂ o2=>p9 (X:=P.X) (Rep.grow o2.g o1.r) o2.r h G.hA.cl _ _ fun v' s₃ g3 r3=>
  r3.boolE (M:=fun v=>wpAny _ _ (truthy v) _ _ _) (wpAny_truthy_bool (hQ s₃ ((o1.g.trans o2.g).trans g3)))) (pB hm)
def SP(T:Sc)(x:Option Expr)(q:Option Int):Prop:=∀ P,Good T P→∀ (Q:Value→Shared→Prop) (E:Value→Shared→Prop),(∀ v s' d,Grow P.s s'→Rep s'.heap P.X true v d→kJ d=some q→Q v s')→wpAny (model prog w) P.A (evalPart x P.env) Q E P.s
theorem gn{r:β}(ih:k9 p){x:Option Expr}{k:Option Int→Option β}(h:zvQ p T x k=some r)(f:∀ q,SP T x q→k q=some r→M):M:=match x,h,f with
 |none,h,f=>f none (fun P z Q E hQ=>wpAny_pure (hQ .none P.s .none (Grow.refl ..) (.none _) rfl)) h
 |some x,h,f=>(ih.e h).elim fun d h1 h=>bE h fun q hq h=>f q (fun P G Q E hQ=>h1 P G _ _ fun v s' o=>hQ v s' d o.g o.r.top hq) h
theorem zvU{vv:Expr}{lo hi st:Option Expr}{sp:Pos}{ql qh qs:Option Int}(h1:SE T vv dv)(h2:SP T lo ql)(h3:SP T hi qh)(h4:SP T st qs)(h:jU dv ql qh qs=some d):SE T (.Subscript vv (.Slice lo hi st sp) pos) d:=fun P G Q E hQ=>
 Subscript_ (h1 P G _ _ fun v s₁ o=>have G1:=o.to G
  wpAny_Slice (h2 (P.to s₁) G1 _ _ fun vl s₂ dl g2 r2 e2=>have G2:=G1.to g2
  h3 ((P.to s₁).to s₂) G2 _ _ fun vh s₃ dh g3 r3 e3=>have G3:=G2.to g3
  h4 (((P.to s₁).to s₂).to s₃) G3 _ _ fun vs s₄ dq g4 r4 e4=>
  have gp:Grow s₄ { s₄ with heap:=s₄.heap.push { cls:=.type "slice",data:=.fields #[vl,vh,vs] } }:=Grow.push ..;have g34:=g3.trans g4
  zq1 ((G3.to g4).K.grow gp).x (Rep.push (Rep.grow (g2.trans g34) o.r) _) (Heap.IsSliceOf.new _ _ _ _) (Rep.push (Rep.grow g34 r2) _) (Rep.push (Rep.grow g4 r3) _) (Rep.push r4 _) e2 e3 e4 h _ _ fun v' s₅ g5 r5=>
  hQ v' s₅ (.plain rfl (o.g.trans (g2.trans (g34.trans (gp.trans g5)))) r5)))
theorem zfy{vv i:Expr}{di:D}(h1:SE T vv dv)(h2:SE T i di)(h:zY dv di=some d):SE T (.Subscript vv i pos) d:=fun P G Q E hQ=>
 Subscript_ (h1 P G _ _ fun v s₁ o1=>h2 (P.to s₁) (o1.to G) _ _ fun u s₂ o2=>zkk (Rep.grow o2.g o1.r) o2.r h _ _ fun v' s₃ g3 r3=>hQ v' s₃ (.plain rfl ((o1.g.trans o2.g).trans g3) r3))
theorem zvG{c name:Str}{cp:Pos}(hg:zG T.sc c=true)(h:T.C.attr c name=some d):SE T (.Attribute (.Name c cp) name pos) d:=fun P G Q E hQ=>
 Attribute_Name_ (X12 (G.CO.attr h) fun cv h1 h2=>G.R.global G.K G.G hg h1 (h2 G.K _ _ fun v s' g r=>hQ v s' (.plain rfl g r)))
theorem zvP{c name:Str}{cp:Pos}(hv:jq T.sc c=true)(hs:T.σ c=some (.obj k fs))(hf:T.C.fld k name=true)(h:fs.lookup name=some d):SE T (.Attribute (.Name c cp) name pos) d:=fun P G Q E hQ=>
 Attribute_Name_ (G.R.name hv hs fun v r=>G.CO.fld hf h G.K r _ _ fun v' s' g r'=>hQ v' s' (.plain rfl g r'))
theorem zQ{M:Model}{f:Value}{trees:List (Bool × Sem Value)}{Q:Args→Shared→Prop}(hp:trees.any (fun z=>z.1)=false)(h:wpAny M A (spliced trees) (fun vs s'=>Q ⟨vs,[]⟩ s') E s):
  wpAny M A (evalArgs f true trees []) Q E s:=by
 cases trees with
 |nil=>
  unfold evalArgs
  show wpAny M A (spliced [] >>= _) Q E s
  refine wpAny_bind (wpAny_mono h (fun vs s' h'=>?_) fun z z x=>x);refine wpAny_bind (wpAny_pure ?_);refine wpAny_holding ?_;exact wpAny_bind (wpAny_pure (wpAny_bind (wpAny_pure (wpAny_pure h'))))
 |cons x r=>
  obtain ⟨b,m⟩:=x;simp only [List.any_cons,Bool.or_eq_false_iff] at hp
  (refine X02 hp fun z13 z=>?_;subst z13;try clear hp)
  exact evalArgs_plain h
theorem gt{name:Str}{whole:Sem Value}(h:y2 o=true):attributeBase o name env whole=whole:=by
 cases o with
 |Call=>exact yy h
 |_=>rfl
theorem zvB(hg:zG T.sc f=true)(hs:zl args=true)(ho:args.any (qY T.own)=false)(h1:SL T args ds)(h:T.C.call f ds=some d):SE T (.Call (.Name f fp) args [] pos) d:=
 .of_gives rfl fun P G Q E hQ=>X12 (G.CO.call h) fun fv h2 h3=>Call_Name rfl (G.R.global G.K G.G hg h2 (h3 G.hA G.K (zV pos hs) (j7 h1 pos hs ho G) _ _ hQ))
theorem zpY{e:Expr}(hf:y5 e d=false)(h:T.C.spec T.own T.sc e T.σ=some d):SE T e d:=.of_gives hf fun P G=>G.CO.spec h G.R G.K G.hA
structure zpK(T:Sc)(o:Expr)(args:List Expr)(ap pos:Pos):Prop where
 hb:y2 o=true
 hs:zl args=true
 ho:args.any (qY T.own)=false
 hl:(ap.endLine==pos.line)=true
 hn:args.length<29
theorem zvD{name:Str}(c:zpK T o args ap pos)(h0:SE T o dv)(h1:SL T args ds)(hm:(y0 name dv).isSome=true)(h:jP name dv ds=some d):SE T (.Call (.Attribute o name ap) args [] pos) d:=
 .of_gives rfl fun P G Q E hQ=>X11 (isSome_iff_exists.mp hm) fun q hm=>by
  have hp:=zV (env:=P.env) pos c.hs;refine wpAny_Call_method_late (gt c.hb) ?_ c.hl rfl (h0 P G _ _ fun ov s₁ o1=>?_)
  ·rw [List.all_eq_not_any_not];simp only [not_not,hp];exact decide_eq_true (p:=args.length<30) (lt_succ_of_lt c.hn)
  ·refine X05 (zjD hm o1.r) fun f1 f2 f3 f4 f5=>⟨q.1,q.2,f1,f2,f3,f4,f5,?_⟩
   exact callWith_builtin hp (zQ hp (j7 h1 pos c.hs c.ho (o1.to G) _ _ fun vs s₂ g2 rl=>zkn ((o1.to G).to g2).K.x hm (Rep.grow g2 o1.r) rl h _ _ fun v s₃ g3 r3=>hQ v s₃ (o1.g.trans (g2.trans g3)) r3))
theorem zvF{name:Str}(c:zpK T o args ap pos)(hoo:qY T.own o=false)(h0:SE T o (.obj k fs))(h1:SL T args ds)(h:T.C.meth name (.obj k fs) ds=some d):SE T (.Call (.Attribute o name ap) args [] pos) d:=
 .of_gives rfl fun P G Q E hQ=>by
  rw [arm_eval_Call,gt c.hb];exact wpAny_bind (h0 P G _ _ fun ov s₁ o1=>wpAny_bind (wpAny_standAt (G.CO.meth h G.hA (o1.to G).K (hoo▸o1.r) (zV pos c.hs) (by simpa using c.hn) c.hl (j7 h1 pos c.hs c.ho (o1.to G)) _ _ fun v s₂ g2 r2=>hQ v s₂ (o1.g.trans g2) r2)))
end
end
section
section
variable {e:D} {P:Pl}
theorem zk6{f:α→β}{l:List α}{i:Nat}{b:β}(h:(l.map f)[i]? =some b)(k:∀ a,l[i]? =some a→f a=b→C):C:=X12 (map_some (getElem?_map.symm.trans h)) k
theorem pd.nth{K:Type}[DecidableEq K]{knd:PySem.KeyKind prog w K}{mk:K→D}{kvs:List (K × Value)}{ds:List (K × D)}(R:pd knd mk s.heap X t a kvs ds){i:Nat}{k:K}{x:Value}{p:K × D}(h1:kvs[i]? =some (k,x))(h2:ds[i]? =some p):k=p.1∧Rep s.heap X false x p.2:=
 X12 (R.item (kk:=p.1) (dv:=p.2) h2) fun v e r=>have q:=sj (h1.symm.trans e)
 ⟨congrArg Prod.fst q,rwR (P:=fun x=>Rep s.heap X false x p.2) (congrArg Prod.snd q) r⟩
theorem zjL{K:Type}[DecidableEq K]{knd:PySem.KeyKind prog w K}{mk:K→D}(hk:ve knd mk)(hA:A.handled=none){V:Addr}{kvs:List (K × Value)}{ds:List (K × D)}(x:XOk X s.heap)(R:pd knd mk s.heap X t a kvs ds)(hv:s.heap.IsItemsView V a)(hn:ds.length≤zz):
  zj A X (call (.type "list") [.ref V]) s (.list (ds.map fun p=>.tup [mk p.1,p.2])):=fun Q E hQ=>X22 R.at fun ep o ho hat=>by
 have hlen:kvs.length=ds.length:=(length_map _).symm.trans ((congrArg List.length R.keys).trans (length_map _));refine kdx_call (knd:=knd) (kvs:=kvs) (ep:=ep) hA hv hat (zn (hlen▸hn)) fun h' tk acc c as hk' hS hl hG hacc=>hQ _ _ (Grow.of_keep hk' (le_of_lt (lt_size hS))) (.list (x.root (le_refl _) false) ⟨c,hS⟩ ?_);rw [hacc];refine zu.of_get ((length_map _).trans (hl.trans (hlen.trans (length_map _).symm))) fun i v d e1 e2=>zk6 e1 fun b q e1=>zk6 e2 fun p q2 e2=>X33 (hG.pairs i b q) fun key kk x' h1 hkey hT=>?_;have hb:=le_of_lt (hG.above b (mem_of_getElem? q));have mv:pf s.heap X h' X:=⟨fun a o z z e=>hk' a o e,fun z z n z=>n⟩
 have np:=R.nth h1 q2;rw [←e1, ←e2];exact .tup (x.root hb false) ⟨_,hT⟩ (.cons (Rep.move mv (fun e=>Bool.noConfusion e) (hk _ _ _ _ (np.1▸hkey))) (.cons (Rep.move mv (fun e=>Bool.noConfusion e) np.2) .nil))
theorem pD(h:yA f args=some o)(k:∀ ap p2,f="list"→args=[.Call (.Attribute o "items" ap) [] [] p2]→y2 o=true→(ap.endLine==p2.line)=true→M):M:=
 bE h fun a h1 h=>bE h fun q h2 h=>bE h fun r h3 h=>iE h fun c h=>
  k r.2.2 q.2.2 c.1 ((gf h1).trans (by rw [yO h2,gd h3,List.isEmpty_iff.mp c.2.2.1,c.2.1,sj h])) (sj h▸c.2.2.2.1) c.2.2.2.2
theorem zk7{K:Type}[DecidableEq K]{knd:PySem.KeyKind prog w K}{mk:K→D}{kvs:List (K × Value)}{ds:List (K × D)}(x:pd knd mk s.heap X t a kvs ds)(o:Obj):pd knd mk (s.heap.push o) X t a kvs ds:=
 ⟨x.root,x.mods,x.dict.at fun z e=>get?_push_of_some o e,x.keys,x.vals.push o⟩
theorem zqJ{K:Type}[DecidableEq K](B:KB K){p2:Pos}{kd:List (K × D)}(h:SE T o (B.mkd kd))(hb:y2 o=true)(hl:(ap.endLine==p2.line)=true)(G:Good T P)
  (hQ:∀ V s' a kvs,Grow P.s s'→pd B.knd B.key s'.heap P.X (qY T.own o) a kvs kd→s'.heap.IsItemsView V a→Q (.ref V) s'):wpAny (model prog w) P.A (eval (.Call (.Attribute o "items" ap) [] [] p2) P.env) Q E P.s:=
 zjR (knd:=B.knd) (gt hb) hl (h P G _ _ fun v s₁ o1=>X22 (B.inv o1.r) fun a kvs e dr=>
  ⟨a,kvs,e,dr.mods,dr.dict,fun V ob hob hV=>hob▸hV▸hQ _ _ a kvs (o1.g.trans (Grow.push ..)) (zk7 dr _) ⟨_,get?_push_size _ rfl,rfl,rfl⟩⟩)
theorem zz7{K:Type}[DecidableEq K](B:KB K){p2:Pos}{kd:List (K × D)}(h:SE T o (B.mkd kd))(hb:y2 o=true)(hl:(ap.endLine==p2.line)=true)(G:Good T P)
  (hQ:∀ V s' a kvs,Grow P.s s'→pd B.knd B.key s'.heap P.X (qY T.own o) a kvs kd→s'.heap.IsValuesView V a→Q (.ref V) s'):wpAny (model prog w) P.A (eval (.Call (.Attribute o "values" ap) [] [] p2) P.env) Q E P.s:=
 zq8 (knd:=B.knd) (gt hb) hl (h P G _ _ fun v s₁ o1=>X22 (B.inv o1.r) fun a kvs e dr=>
  ⟨a,kvs,e,dr.mods,dr.dict,fun V ob hob hV=>hob▸hV▸hQ _ _ a kvs (o1.g.trans (Grow.push ..)) (zk7 dr _) ⟨_,get?_push_size _ rfl,rfl,rfl⟩⟩)
theorem pF{K:Type}[DecidableEq K](B:KB K){kd:List (K × D)}(hg:zG T.sc f=true)(hi:yA f args=some o)(h:SE T o (B.mkd kd))(hn:kd.length≤zz):
  SE T (.Call (.Name f fp) args [] pos) (.list (kd.map fun p=>.tup [B.key p.1,p.2])):=.of_gives rfl fun P G Q E hQ=>pD hi fun ap p2 e1 e2 hb hl=>by
 rw [e1] at hg;rw [e1,e2]
 exact Call_Name (trees:=[(false,eval (.Call (.Attribute o "items" ap) [] [] p2) P.env)]) rfl (G.R.global G.K G.G hg G.G.list
  (PyProof.Rows.callWith_type rfl (evalArgs_plain (spliced_cons (zqJ B h hb hl G fun V s₁ a kvs g dr hv=>spliced_nil (zjL B.hrep G.hA.hand (G.to g).K.x dr hv hn _ _ fun v s₂ g2 r2=>hQ v s₂ (g.trans g2) r2))))))
theorem zvH(hg:zG T.sc f=true)(hi:yA f args=some o)(h:SE T o dv)(h2:jD dv=some ds)(hn:ds.length≤zz):SE T (.Call (.Name f fp) args [] pos) (.list ds):=by
 have ln:∀ {K:Type} {f:K × D→D} {kd:List (K × D)},some (kd.map f)=some ds→kd.length≤zz:=fun h2=>(length_map _).symm▸sj h2▸hn;cases dv with
 |dS kd=>exact sj h2▸pF kbS hg hi h (ln h2)
 |dI kd=>exact sj h2▸pF kbI hg hi h (ln h2)
 |_=>exact zq h2
theorem zgZ{p:EvK}(ih:k9 p)(pos:Pos):∀ {vs:List Expr} {c:Bool},zkc p T true vs some=some c→ST T (.BoolOp .And vs pos) c
 |[],c,h=>fun P z Q E hQ=>isTrue_and_nil (sj h▸hQ _ (Grow.refl ..))
 |x::vs,c,h=>(ih.t h).elim fun b h1 h P G Q E hQ=>isTrue_and (h1 P G _ _ fun s₁ g=>by
  cases b with
  |true=>exact zgZ ih pos h (P.to s₁) (G.to g) _ _ fun s₂ g2=>hQ _ (g.trans g2)
  |false=>exact rwR (P:=fun b=>Q b s₁) (sj (show some false=some c from h)) (hQ _ g))
theorem zfk{p:EvK}(ih:k9 p)(pos:Pos):∀ {vs:List Expr} {c:Bool},zkc p T false vs some=some c→ST T (.BoolOp .Or vs pos) c
 |[],c,h=>fun P z Q E hQ=>isTrue_or_nil (sj h▸hQ _ (Grow.refl ..))
 |x::vs,c,h=>(ih.t h).elim fun b h1 h P G Q E hQ=>isTrue_or (h1 P G _ _ fun s₁ g=>by
  cases b with
  |false=>exact zfk ih pos h (P.to s₁) (G.to g) _ _ fun s₂ g2=>hQ _ (g.trans g2)
  |true=>exact rwR (P:=fun b=>Q b s₁) (sj (show some true=some c from h)) (hQ _ g))
theorem zvM{k:Bool→Option β}{r:β}(h:zko d k=some r)(f:∀ b,d= .bool b→k b=some r→M):M:=by
 cases d with
 |bool b=>exact f b rfl h
 |_=>exact zq h
theorem zfx{x:Expr}(h:ST T x b):ST T (.UnaryOp .Not x pos) (!b):=fun P G Q E hQ=>isTrue_not (h P G _ _ fun s₁ g=>hQ s₁ g)
theorem zvN{e:Expr}{c:Bool}(he:∀ env,isTrue e env (eval e env)=(do let v ←eval e env;standAt e.pos;holding [v] (truthy v)))(h:SE T e (.bool c)):ST T e c:=fun P G Q E hQ=>
 isTrue_plain (h P G _ _ fun v s₁ o=>o.r.boolE (M:=fun v=>wpAny _ _ (truthy v) _ _ _) (wpAny_truthy_bool (hQ _ o.g))) (he _)
theorem zz8{r:β}(ih:k9 p){l:Expr}{ops:List CmpOp}{rs:List Expr}{k:Bool→Option β}(h:zp6 p T l ops rs k=some r)(f:∀ c,(∀ pos,SE T (.Compare l ops rs pos) (.bool c))→(∀ pos,ST T (.Compare l ops rs pos) c)→k c=some r→M):M:=by
 cases ops with
 |nil=>exact zq h
 |cons op ops=>cases ops with
  |cons=>exact zq h
  |nil=>cases rs with
   |nil=>exact zq h
   |cons r rs=>cases rs with
    |cons=>exact zq h
    |nil=>exact iN h fun hm h=>(ih.e h).elim fun a h1 h=>(ih.e h).elim fun b h2 h=>bE h fun c h3 h=>f c (fun z=>zfz h1 h2 hm h3) (fun z=>zfj h1 h2 hm h3) h
theorem zk8{r:β}(ih:k9 p){e:Expr}{k:Bool→Option β}(he:∀ env,isTrue e env (eval e env)=(do let v ←eval e env;standAt e.pos;holding [v] (truthy v)))(h:(p.e T e fun d=>zko d k)=some r):OkT T e k r:=
 (ih.e h).elim fun d h1 h=>zvM h fun b e h=>.mk (zvN he (e▸h1)) h
theorem zpX{r:β}(ih:k9 p){e:Expr}{k:Bool→Option β}(h:zn6 p T e k=some r):OkT T e k r:=by
 cases e with
 |UnaryOp op=>cases op with
  |Not=>exact (ih.t h).elim fun b h1 h=>.mk (zfx h1) h
  |_=>exact zk8 ih (fun z=>rfl) h
 |BoolOp op=>cases op with
  |And=>exact bE h fun c h1 h=>.mk (zgZ ih _ h1) h
  |Or=>exact bE h fun c h1 h=>.mk (zfk ih _ h1) h
 |IfExp=>exact zq h
 |Compare=>exact zz8 ih h fun c z h1 h=>.mk (h1 _) h
 |_=>exact zk8 ih (fun z=>rfl) h
end
end
section
section
variable {e:D} {P:Pl}
theorem j5.weak{n₀ n₁:Nat}(h:j5 A n₀ X t tp v ds s)(hn:n₁≤n₀)(ht:t'=false→t=false):j5 A n₁ X t' tp v ds s:=
 fun Q E hQ=>h Q E fun I s' lo fp wr St Mid g hlo S=>hQ I s' lo fp wr St Mid g (le_trans hn hlo) { S with out:=fun h=>S.out (ht h) }
theorem zvR{n₀:Nat}(hA:A.handled=none)(x:XOk X s.heap)(hn:n₀≤s.heap.objs.size)(R:Rep s.heap X t v d)(h:jB d=some ds):j5 A n₀ X t false v ds s:=by
 cases d with
 |list=>exact sj h▸zjM hA x n₀ hn R
 |tup=>exact sj h▸zq5 hA x n₀ hn R
 |str y=>exact iE h fun c h=>sj h▸R.strE (M:=fun v=>j5 _ _ _ _ _ v _ _) fun z=>zks hA x c n₀ hn
 |dS=>exact sj h▸R.dSE (M:=fun v=>j5 _ _ _ _ _ v _ _) fun z z r n i k l=>vi zq6 hA x n₀ hn ⟨r,n,i,k,l⟩
 |dI=>exact sj h▸R.dIE (M:=fun v=>j5 _ _ _ _ _ v _ _) fun z z r n i k l=>vi zq7 hA x n₀ hn ⟨r,n,i,k,l⟩
 |_=>exact zq h
theorem zfw{e:Expr}(h:zdQ own e=false):qY own e=false:=by
 cases e with
 |Name=>exact h
 |_=>rfl
theorem zvS{e:Expr}(h:SE T e d)(hi:jB d=some ds):SI T e false ds:=
 fun P G Q E hQ=>h P G _ _ fun v s' o=>hQ v s' o.g ((zvR G.hA.hand (o.to G).K.x o.g.size o.r hi).weak (le_refl _) zfw)
theorem zqY(h:asL d=some ds):d= .list ds:=by
 cases d with
 |list=>exact congrArg D.list (sj h)
 |_=>exact zq h
structure zjC(T:Sc)(f:Str)(args:List Expr)(as:List D):Prop where
 hg:zG T.sc f=true
 hs:zl args=true
 ho:args.any (qY T.own)=false
 h:SL T args as
section
variable {as:List D}
theorem zz9{id:String}(c:zjC T f args as)(G:Good T P)(hT:jV f=some (.type id))(h:∀ vs s₁,Grow P.s s₁→zu s₁.heap P.X vs as→wpAny (model prog w) P.A (call (.type id) vs) Q E s₁):
  wpAny (model prog w) P.A (eval (.Call (.Name f fp) args [] pos) P.env) Q E P.s:=
 have hp:=zV (env:=P.env) pos c.hs
 Call_Name rfl (G.R.global G.K G.G c.hg hT (PyProof.Rows.callWith_type hp (zQ hp (j7 c.h pos c.hs c.ho G _ _ h))))
theorem zvT{n:Int}(c:zjC T f args [.int n])(hf:f="range")(hn:zO n=true):SI T (.Call (.Name f fp) args [] pos) false (jl 0 n):=fun P G Q E hQ=>
 zz9 c G (hf▸G.G.range) fun vs s₁ g rl=>rl.oneE (M:=fun vs=>wpAny _ _ (call _ vs) _ _ _) fun v r1=>r1.intE (M:=fun v=>wpAny _ _ (call _ [v]) _ _ _) fun u1=>
  have g2:=g.trans (Grow.push s₁ { cls:=.type "range",data:=.fields #[.int 0 s₁.toks,.int n u1,.int 1 (s₁.toks+1)] } (s₁.toks+1+1))
  call_range_1 (hQ _ _ g2 ((xE G.hA.hand G.K.x g2 (IsRange.new ..) (by decide) hn g.size).weak (le_refl _) id))
theorem zvL{n m:Int}(c:zjC T f args [.int n,.int m])(hf:f="range")(hn:zO n=true∧zO m=true):SI T (.Call (.Name f fp) args [] pos) false (jl n m):=fun P G Q E hQ=>
 zz9 c G (hf▸G.G.range) fun vs s₁ g rl=>X21 rl.twoInts fun u1 u2 e=>
  have g2:=g.trans (Grow.push s₁ { cls:=.type "range",data:=.fields #[.int n u1,.int m u2,.int 1 s₁.toks] } (s₁.toks+1));rwR (P:=fun vs=>wpAny _ _ (call _ vs) _ _ _) e (call_range_2 (hQ _ _ g2 ((xE G.hA.hand G.K.x g2 (IsRange.new ..) hn.1 hn.2 g.size).weak (le_refl _) id)))
theorem zfv(c:zjC T f args [.list ds])(hf:f="enumerate"):SI T (.Call (.Name f fp) args [] pos) true (yJ ds):=fun P G Q E hQ=>
 zz9 c G (hf▸G.G.enum) fun vs s₁ g rl=>rl.oneE (M:=fun vs=>wpAny _ _ (call _ vs) _ _ _) fun v r1=>zjN G.hA.hand (G.to g).K.x r1 _ _ fun v s₂ g2 it=>hQ _ _ (g.trans g2) (it.weak g.size fun z=>rfl)
theorem zmj{xs ys:List D}(c:zjC T f args [.list xs,.list ys])(hf:f="zip"):SI T (.Call (.Name f fp) args [] pos) true (zqf xs ys):=fun P G Q E hQ=>
 zz9 c G (hf▸G.G.zip) fun vs s₁ g rl=>rl.consE (M:=fun vs=>wpAny _ _ (call _ vs) _ _ _) fun v vs r1 rl=>rl.oneE (M:=fun us=>wpAny _ _ (call _ (v::us)) _ _ _) fun u r2=>zkt G.hA.hand (G.to g).K.x r1 r2 _ _ fun v s₂ g2 it=>hQ _ _ (g.trans g2) (it.weak g.size fun z=>rfl)
end
theorem zpW(hb:y2 o=true)(hl:(ap.endLine==pos.line)=true)(h1:SE T o dv)(h:jD dv=some ds):SI T (.Call (.Attribute o "items" ap) [] [] pos) true ds:=fun P G Q E hQ=>by
 cases dv with
 |dS kd=>exact zqJ kbS h1 hb hl G fun V s₁ a kvs g dr hv=>hQ _ _ g (sj h▸wq zq6 G.hA.hand (G.to g).K.x _ g.size dr hv)
 |dI kd=>exact zqJ kbI h1 hb hl G fun V s₁ a kvs g dr hv=>hQ _ _ g (sj h▸wq zq7 G.hA.hand (G.to g).K.x _ g.size dr hv)
 |_=>exact zq h
theorem zfu(hb:y2 o=true)(hl:(ap.endLine==pos.line)=true)(h1:SE T o dv)(h:zz3 dv=some ds):SI T (.Call (.Attribute o "values" ap) [] [] pos) false ds:=fun P G Q E hQ=>by
 cases dv with
 |dS kd=>exact zz7 kbS h1 hb hl G fun V s₁ a kvs g dr hv=>hQ _ _ g (sj h▸v0 G.hA.hand (G.to g).K.x _ g.size dr hv)
 |dI kd=>exact zz7 kbI h1 hb hl G fun V s₁ a kvs g dr hv=>hQ _ _ g (sj h▸v0 G.hA.hand (G.to g).K.x _ g.size dr hv)
 |_=>exact zq h
section
variable {r:β} {k:Bool→List D→Option β} (ih:k9 p)
include ih
theorem yw{e:Expr}(h:kP p T e k=some r):OkI T e k r:=(ih.e h).elim fun d h1 h=>bE h fun ds h2 h=>.mk (zvS h1 h2) h
theorem zjO(h:zki p T f args (.Call (.Name f fp) args [] pos) k=some r):OkI T (.Call (.Name f fp) args [] pos) k r:=
 iE h fun c h=>i2 h (fun hf h=>(qF ih h).elim fun as h1 h=>by
  have C:∀ {as'},as=as'→zjC T f args as':=fun e=>⟨c.1,c.2.1,c.2.2,e▸h1⟩
  cases as with
  |nil=>exact zq h
  |cons a l=>
   refine bE h fun n e1 h=>?_;have e1:=zW e1;cases l with
   |nil=>exact iE h fun hn h=>.mk (zvT (C (congrArg (fun a=>[a]) e1)) hf hn) h
   |cons b l=>cases l with
    |nil=>exact bE h fun m e2 h=>iE h fun hn h=>.mk (zvL (C (by rw [e1,zW e2])) hf hn) h
    |cons=>exact zq h)
  fun z h=>i2 h (fun hf h=>(qF ih h).elim fun as h1 h=>bE h fun a e1 h=>bE h fun xs e2 h=>.mk (zfv ⟨c.1,c.2.1,c.2.2,(gf e1).trans (congrArg (fun a=>[a]) (zqY e2))▸h1⟩ hf) h)
  fun z h=>i2 h (fun hf h=>(qF ih h).elim fun as h1 h=>by
  cases as with
  |nil=>exact zq h
  |cons a l=>exact bE h fun b e1 h=>bE h fun xs e2 h=>bE h fun ys e3 h=>.mk (zmj ⟨c.1,c.2.1,c.2.2,(by rw [gf e1,zqY e2,zqY e3] at h1;exact h1)⟩ hf) h)
  fun z h=>yw ih h
theorem zjA{m:Str}(h:zk0 p T o m ap pos (.Call (.Attribute o m ap) [] [] pos) k=some r):OkI T (.Call (.Attribute o m ap) [] [] pos) k r:=
 iE h fun c h=>i2 h (fun hm h=>(ih.e h).elim fun d h1 h=>bE h fun ds h2 h=>.mk (hm▸zpW c.1 c.2 h1 h2) h)
  fun z h=>i2 h (fun hm h=>(ih.e h).elim fun d h1 h=>bE h fun ds h2 h=>.mk (hm▸zfu c.1 c.2 h1 h2) h)
  fun z h=>yw ih h
theorem zpV{e:Expr}(h:zn7 p T e k=some r):OkI T e k r:=iN h fun z h=>by
 cases e1:zqQ e with
 |none=>rw [e1] at h;exact yw ih h
 |some q=>
  rw [e1] at h;have pl:=yw (T:=T) (k:=k) (r:=r) ih (e:=e);rw [yO e1] at h pl ⊢;dsimp only at h;cases e2:nmE q.1 with
  |some x=>
   rw [e2] at h;refine X11 (y3 e2) fun xp e3=>?_;rw [e3] at h ⊢;exact zjO ih h
  |none=>
   rw [e2] at h;cases e3:atV q.1 with
   |none=>rw [e3] at h;exact pl h
   |some a=>
    rw [e3] at h;refine i2 h (fun he h=>?_) fun z h=>pl h;have he:=List.isEmpty_iff.mp he;rw [gd e3,he] at h ⊢;exact zjA ih h
end
end
end
variable {s₂:Shared}{W:List Addr}
section
section
structure zb(W:List Addr)(s s':Shared):Prop where
 keep:∀ b o,b∉W→(b≠P₀∧b≠cStatics)→s.heap.get? b=some o→s'.heap.get? b=some o
 size:s.heap.objs.size≤s'.heap.objs.size
 cst:∀ o,s.heap.get? cStatics=some o→s'.heap.get? cStatics=some o
 stat:∀ m,s.heap.Ns cStatics m→s'.heap.Ns cStatics m
 os:s'.os=s.os
 gens:AllBare s.gens→AllBare s'.gens
 tab:∀ ps,s.heap.IsCode cc P₀ ps→s.heap.TableAt cc P₀ ps→∃ more,s'.heap.IsCode cc P₀ (ps++more)∧s'.heap.TableAt cc P₀ (ps++more)
theorem Grow.toW(g:Grow s s')(W:List Addr):zb W s s':=⟨fun b o z n e=>g.keep b o n e,g.size,g.cst,g.stat,g.os,g.gens,g.tab⟩
theorem zb.refl(W:List Addr)(s:Shared):zb W s s:=(Grow.refl ..).toW W
theorem zb.trans(x:zb W s s₁)(y:zb W s₁ s₂):zb W s s₂:=
 ⟨fun b o m n e=>y.keep b o m n (x.keep b o m n e),le_trans x.size y.size,fun o e=>y.cst o (x.cst o e),fun m z=>y.stat m (x.stat m z),y.os.trans x.os,fun g=>y.gens (x.gens g),fun ps a b=>by
  refine X12 (x.tab ps a b) fun m a' b'=>?_;refine X12 (y.tab _ a' b') fun m' a'' b''=>?_;exact ⟨m++m',by simpa [Array.append_assoc] using a'',by simpa [Array.append_assoc] using b''⟩⟩
theorem zb.narrow{V:List Addr}(x:zb V s s')(h:∀ b∈V,b∈W∨s.heap.objs.size≤b):zb W s s':=
 ⟨fun b o m n e=>x.keep b o (fun hb=>(h b hb).elim m fun l=>absurd (lt_size e) (not_lt.mpr l)) n e,x.size,x.cst,x.stat,x.os,x.gens,x.tab⟩
theorem zb.toGrow(x:zb W s s')(h:∀ b∈W,s.heap.objs.size≤b):Grow s s':=
 ⟨fun b o n e=>x.keep b o (fun hb=>absurd (lt_size e) (not_lt.mpr (h b hb))) n e,x.size,x.cst,x.stat,x.os,x.gens,x.tab⟩
theorem zb.step(k:∀ b o,b∉W→s.heap.get? b=some o→h'.get? b=some o)(sz:s.heap.objs.size≤h'.objs.size)(hc:cc∉W)(hP:P₀∉W)(hS:cStatics∉W):zb W s { s with heap:=h',toks:=tk } where
 keep:=fun b o n z e=>k b o n e
 size:=sz
 cst:=fun o e=>k _ o hS e
 stat:=fun m x=>x.at' fun o e=>k _ o hS e
 os:=rfl
 gens:=id
 tab:=fun ps a b=>⟨#[],(Array.append_empty (xs:=ps)).symm▸yX a (fun o=>k _ o hc) fun o=>k _ o hP,(Array.append_empty (xs:=ps)).symm▸jM b (fun o=>k _ o hc) fun o=>k _ o hP⟩
theorem Ok.growW(K:Ok X s)(g:zb W s s')(hW:∀ b∈W,h₀.objs.size≤b):Ok X s':=
 ⟨⟨K.x.mem,fun a m=>lt_of_lt_of_le (K.x.lt a m) g.size,lt_of_lt_of_le K.x.mods g.size⟩,K.base,fun a o n e=>by
  by_cases hc:a=cStatics
  ·subst hc;exact g.cst _ (K.old _ _ n e)
  ·exact g.keep a o (fun m=>absurd (lt_size e) (not_lt.mpr (hW a m))) ⟨n,hc⟩ (K.old a o n e),le_trans K.sz g.size,(X12 K.tab fun ps a b=>X12 (g.tab ps a b) fun m c d=>⟨ps++m,c,d⟩),K.ccs⟩
theorem zk9{o:Obj}{q:Option Addr}(e:h.get? a=some o)(q':o.dict=q):zw h (.ref a)=a::q.toList:=
 (congrArg (fun z:Option Obj=>a::(match z with
  |some o=>o.dict.toList
  |none=>[])) e).trans (congrArg (fun z:Option Addr=>a::z.toList) q')
theorem qH{b:Addr}{o:Obj}(e:h.get? a=some o)(q:o.dict=none)(m:b∈zw h (.ref a)):b=a:=mem_singleton.mp (zk9 e q▸m)
theorem v6{b:Addr}{o:Obj}(e:h.get? a=some o)(q:o.dict=some b):b∈zw h (.ref a):=(zk9 e q).symm▸mem_cons_of_mem _ (mem_cons_self ..)
theorem zkQ{b:Addr}{o:Obj}(e:h.get? a=some o)(q:o.dict=some c)(m:b∈zw h (.ref a)):b=a∨b=c:=(mem_cons.mp (zk9 e q▸m)).imp id mem_singleton.mp
theorem Rep.rootE{M:Addr→Prop}{b:Addr}(R:Rep h X t v d)(m:b∈zw h v)(k:∀ a o,RootOk X t a→h.get? a=some o→(∀ y,o.data= .cell y→False)→M a):M b:=by
 cases R with
 |none=>exact absurd m not_mem_nil
 |bool=>exact absurd m not_mem_nil
 |int=>exact absurd m not_mem_nil
 |str=>exact absurd m not_mem_nil
 |tup r i L=>exact X11 i fun n i=>qH i rfl m▸k _ _ r i fun z e=>nomatch e
 |list r i L=>exact X11 i fun n i=>qH i rfl m▸k _ _ r i fun z e=>nomatch e
 |dS r n i e L=>exact X34 i fun o' es ep i ex hdd z=>qH i ex.2.1 m▸k _ _ r i fun z e=>nomatch hdd.symm.trans e
 |dI r n i e L=>exact X34 i fun o' es ep i ex hdd z=>qH i ex.2.1 m▸k _ _ r i fun z e=>nomatch hdd.symm.trans e
 |obj r r' g i e L=>
  exact (zkQ g rfl m).elim (fun q=>q▸k _ _ r g fun z e=>nomatch e) fun q=>X34 i fun o' es ep i ex hdd z=>q▸k _ _ r'.toRootOk i fun z e=>nomatch hdd.symm.trans e
theorem Rep.updR{V:Addr→Prop}(hX:∀ a,V a→a∈X)(k:∀ b o,¬ V b→(b≠P₀∧b≠cStatics)→h.get? b=some o→h'.get? b=some o)(R:Rep h X t v d)(hr:t=true→∀ b∈zw h v,¬ V b):Rep h' X t v d∧zw h' v=zw h v:=by
 have keyL:∀ {vs:List Value} {ds:List D},zu h X vs ds→zu h' X vs ds:=fun L=>zu.move ⟨fun b o ne n e=>k b o (fun q=>n (hX b q)) ne e,fun z z n z=>n⟩ L
 have root:∀ a o,RootOk X t a→(t=true→¬ V a)→h.get? a=some o→h'.get? a=some o:=fun a o r q e=>k a o (by
  cases t with
  |false=>exact fun q'=>r.out rfl (hX a q')
  |true=>exact q rfl) r.ne e
 cases R with
 |none=>exact ⟨.none _,rfl⟩
 |bool=>exact ⟨.bool _ _,rfl⟩
 |int=>exact ⟨.int _ _ _,rfl⟩
 |str=>exact ⟨.str _ _ _,rfl⟩
 |tup r i L=>
  have e:∀ o,h.get? _=some o→h'.get? _=some o:=fun o=>root _ o r fun q=>hr q _ (mem_cons_self ..);refine ⟨.tup r (i.at e) (keyL L),?_⟩;exact X11 i fun n i=>y4 i (e _ i)
 |list r i L=>
  have e:∀ o,h.get? _=some o→h'.get? _=some o:=fun o=>root _ o r fun q=>hr q _ (mem_cons_self ..);refine ⟨.list r (i.at e) (keyL L),?_⟩;exact X11 i fun n i=>y4 i (e _ i)
 |dS r n i e L=>
  have e':∀ o,h.get? _=some o→h'.get? _=some o:=fun o=>root _ o r fun q=>hr q _ (mem_cons_self ..);refine ⟨.dS r n (i.at e') e (keyL L),?_⟩;exact X32 i fun o es ep i z=>y4 i (e' _ i)
 |dI r n i e L=>
  have e':∀ o,h.get? _=some o→h'.get? _=some o:=fun o=>root _ o r fun q=>hr q _ (mem_cons_self ..);refine ⟨.dI r n (i.at e') e (keyL L),?_⟩;exact X32 i fun o es ep i z=>y4 i (e' _ i)
 |obj r r' g i e L=>
  have e1:=root _ _ r (fun q=>hr q _ (mem_cons_self ..)) g;have e2:∀ o,h.get? _=some o→h'.get? _=some o:=fun o=>root _ o r'.toRootOk fun q=>hr q _ (v6 g rfl);refine ⟨.obj r r' e1 (i.at e2) e (keyL L),y4 g e1⟩
theorem v7{y:Option Value}(R:Rep h X t v d)(hc:h.IsCell c y):c∉zw h v:=fun m=>
 R.rootE (M:=fun c=>h.IsCell c y→False) m (fun z z z g k=>fun hc=>X12 hc fun z ho hd=>k _ (sj (ho.symm.trans g)▸hd)) hc
theorem VOk.updZ{Z:Addr→Prop}{o:Bool}(y:VOk h X o U v d)(hX:∀ a,Z a→a∈X)(hZ:∀ a,Z a→U a∨∃ q,h.IsCell a q)(k:∀ b o,¬ Z b→(b≠P₀∧b≠cStatics)→h.get? b=some o→h'.get? b=some o):VOk h' X o U v d:=by
 refine X02 (Rep.updR (V:=Z) hX k y.1 (fun q b m e=>by
  rcases hZ b e with hc|⟨z,hc⟩
  ·exact y.2 q b m hc
  ·exact v7 y.1 hc m)) fun r1 r2=>?_
 exact ⟨r1,fun q=>by rw [r2];exact y.2 q⟩
theorem VOk.upd{o:Bool}{y:Option Value}(z:VOk h X o U v d)(ha:a∈X)(hc:U a∨h.IsCell a y)(k:∀ b o,b≠a→h.get? b=some o→h'.get? b=some o):VOk h' X o U v d:=
 z.updZ (Z:=fun b=>b=a) (fun b q=>q▸ha) (fun b q=>by subst q;exact hc.imp id fun h=>⟨y,h⟩) (fun b o n x e=>k b o n e)
theorem gc(R:Rep h X false v d):∀ a∈zw h v,a∉X:=fun z m=>R.rootE (M:=fun a=>a∉X) m fun z z r z z=>r.out rfl
theorem VOk.of_false(R:Rep h X false v d)(o:Bool)(hV:o=true→∀ a,a∉X→¬ U a):VOk h X o U v d:=
 ⟨by cases o with|false=>exact R|true=>exact R.top,fun q a m=>hV q a (gc R a m)⟩
theorem zC.chg{Z:Addr→Prop}(R:zC V env sc own σ X h)(hX:∀ a,Z a→a∈X)(hV:∀ x a,Z a→V x a)(hl:¬ Z env.locals)(hc:∀ x c,(sc.names.lookup x=some .cell∨sc.names.lookup x=some .free)→env.cells.lookup x=some c→¬ Z c)
  (k:∀ b o,¬ Z b→(b≠P₀∧b≠cStatics)→h.get? b=some o→h'.get? b=some o):zC V env sc own σ X h' where
 scp:=R.scp
 cod:=R.cod
 kind:=R.kind
 glob:=R.glob
 bi:=R.bi
 ne:=R.ne
 locV:=R.locV
 inj:=R.inj
 loc:=by
  refine X12 R.loc fun m hn hm=>?_;refine ⟨m,hn.at' fun o e=>k _ o hl R.ne e,fun x d hx hd=>?_⟩;refine X12 (hm x d hx hd) fun v hv r=>?_;exact ⟨v,hv,r.updZ hX (fun a z=>.inl (hV _ a z)) k⟩
 cell:=fun x hx=>by
  obtain ⟨c,hc',ne,⟨v₀,hv₀⟩,hd⟩:=R.cell x hx;have key:∀ v₀,h.IsCell c v₀→h'.IsCell c v₀:=fun v₀ hq=>X12 hq fun o ho e=>⟨o,k c o (hc x c hx hc') ne ho,e⟩
  exact ⟨c,hc',ne,⟨v₀,key _ hv₀⟩,fun d h=>X12 (hd d h) fun v h1 h2=>⟨v,key _ h1,h2.updZ hX (fun a z=>.inl (hV _ a z)) k⟩⟩
def wx(env:Env)(sc:Scope)(x:Str)(a:Addr):Prop:=(sc.names.lookup x=some .local∧a=env.locals)∨(sc.names.lookup x=some .cell∧env.cells.lookup x=some a)
theorem zC.store(R:zC V env sc own σ X s.heap)(hL:env.locals∈X)(hx:wx env sc x a)(ha:a∈X)(Y:VOk s.heap X (own.contains x) (V x) v d)(Q:Unit→Shared→Prop)(E:Value→Shared→Prop)
  (h:∀ h' tk,zC V env sc own (upd σ x d) X h'→(∀ b o,b≠a→s.heap.get? b=some o→h'.get? b=some o)→h'.objs.size=s.heap.objs.size→Q () { s with heap:=h',toks:=tk }):
  wpAny (model prog w) A (storeName env x v) Q E s:=by
 have hk:env.scope.kind= .function:=by rw [R.scp];exact R.kind
 have hkd:env.kindOf x=sc.names.lookup x:=by rw [←R.scp];rfl
 refine X12 R.loc fun m hn hm=>?_;rcases hx with ⟨hx,rfl⟩|⟨hx,hc⟩
 ·refine wpAny_storeName_local (hkd.trans hx) hn (fun h' hn' hs=>h h' _ ?_ (fun b o n e=>hs.extBut b o n e) hs.1) (by rw [hk];rfl);have kk:∀ b o,b≠env.locals→s.heap.get? b=some o→h'.get? b=some o:=fun b o n e=>hs.extBut b o n e
  have kc:∀ {c:Addr} {y:Option Value},s.heap.IsCell c y→h'.IsCell c y:=fun {c y} ⟨o,ho,hd⟩=>⟨o,kk c o (fun e=>by
   (refine X33 hn fun oL es ep hL' hLd z=>?_;try clear hn)
   rw [e,hL'] at ho;cases ho;rw [hLd] at hd;cases hd) ho,hd⟩
  refine { R with loc:=⟨_,hn',fun y d' hy hd'=>?_⟩,cell:=fun y hy=>?_ }
  ·by_cases hyx:y=x
   ·subst hyx;simp only [upd,if_true] at hd' ⊢;cases hd';exact ⟨v,rfl,Y.upd hL (.inl (R.locV _)) (y:=none) kk⟩
   ·simp only [upd,if_neg hyx] at hd' ⊢;refine X12 (hm y d' hy hd') fun v' h1 h2=>?_;exact ⟨v',h1,h2.upd hL (.inl (R.locV _)) (y:=none) kk⟩
  ·obtain ⟨c,hc,ne,⟨v₀,hv₀⟩,hd⟩:=R.cell y hy;refine ⟨c,hc,ne,⟨v₀,kc hv₀⟩,fun d' hd'=>?_⟩;have hyx:y≠x:=by rintro rfl;rw [hx] at hy;rcases hy with hy|hy<;>cases hy
   simp only [upd,if_neg hyx] at hd';refine X12 (hd d' hd') fun v' h1 h2=>?_;exact ⟨v',kc h1,h2.upd hL (.inl (R.locV _)) (y:=none) kk⟩
 ·obtain ⟨c,hc',ne,⟨v₀,hv₀⟩,hd⟩:=R.cell x (.inl hx);rw [hc] at hc';cases hc';refine wpAny_storeName_cell hk (hkd.trans hx) hc hv₀ fun h' hv' hs=>h h' s.toks ?_ (fun b o n e=>hs.extBut b o n e) hs.1;have kk:∀ b o,b≠a→s.heap.get? b=some o→h'.get? b=some o:=fun b o n e=>hs.extBut b o n e;refine { R with loc:=⟨m,hn.sameBut hs (fun e=>?_),fun y d' hy hd'=>?_⟩,cell:=fun y hy=>?_ }
  ·(refine X33 hn fun oL es ep hL' hLd z=>?_;try clear hn)
   (refine X12 hv₀ fun o ho hd=>?_;try clear hv₀)
   rw [←e,hL'] at ho;cases ho;rw [hLd] at hd;cases hd
  ·have hyx:y≠x:=by rintro rfl;rw [hx] at hy;cases hy
   simp only [upd,if_neg hyx] at hd';refine X12 (hm y d' hy hd') fun v' h1 h2=>?_;exact ⟨v',h1,h2.upd ha (.inr hv₀) kk⟩
  ·by_cases hyx:y=x
   ·subst hyx;refine ⟨a,hc,ne,⟨_,hv'⟩,fun d' hd'=>?_⟩;simp only [upd,if_true] at hd';cases hd';exact ⟨v,hv',Y.upd ha (.inr hv₀) kk⟩
   ·obtain ⟨c',hc',ne',⟨v₁,hv₁⟩,hd'⟩:=R.cell y hy;have hne:c'≠a:=fun e=>hyx (R.inj _ _ _ (e▸hc') hc);have kc:∀ {y:Option Value},s.heap.IsCell c' y→h'.IsCell c' y:=fun {y} ⟨o,ho,hd⟩=>⟨o,kk c' o hne ho,hd⟩
    refine ⟨c',hc',ne',⟨v₁,kc hv₁⟩,fun d'' hd''=>?_⟩;simp only [upd,if_neg hyx] at hd'';refine X12 (hd' d'' hd'') fun v' h1 h2=>?_;exact ⟨v',kc h1,h2.upd ha (.inr hv₀) kk⟩
end
end
variable {scope:Scope}
section
section
theorem VOk.mv{o:Bool}(y:VOk h X o U v d)(k:∀ b o,(b≠P₀∧b≠cStatics)→h.get? b=some o→h'.get? b=some o)   :VOk h' X o U v d:=
 ⟨Rep.move ⟨fun a o n z e=>k a o n e,fun z z n z=>n⟩ (fun z a o n e=>k a o n e) y.1,fun h=>by rw [y.1.roots k];exact y.2 h⟩
theorem zC.mv(R:zC V env sc own σ X h)(k:∀ b o,(b≠P₀∧b≠cStatics)→h.get? b=some o→h'.get? b=some o):zC V env sc own σ X h' where
 scp:=R.scp
 cod:=R.cod
 kind:=R.kind
 glob:=R.glob
 bi:=R.bi
 ne:=R.ne
 locV:=R.locV
 inj:=R.inj
 loc:=by
  refine X12 R.loc fun m hn hm=>?_;refine ⟨m,hn.at' fun o e=>k _ o R.ne e,fun x d hx hd=>?_⟩;refine X12 (hm x d hx hd) fun v hv r=>?_;exact ⟨v,hv,r.mv k⟩
 cell:=fun x hx=>by
  obtain ⟨c,hc,ne,⟨v₀,hv₀⟩,hd⟩:=R.cell x hx;have key:∀ v₀,h.IsCell c v₀→h'.IsCell c v₀:=fun v₀ hq=>X12 hq fun o ho e=>⟨o,k c o ne ho,e⟩
  exact ⟨c,hc,ne,⟨v₀,key _ hv₀⟩,fun d h=>X12 (hd d h) fun v h1 h2=>⟨v,key _ h1,h2.mv k⟩⟩
theorem pH:∀ {elts:List Expr} {ds:List D} {vs:List Value} {σ:Sg} {s:Shared},yL elts ds σ=some τ→zu s.heap X vs ds→zC V env sc own σ X s.heap→env.locals∈X→(∀ x∈zJ (.Tuple elts 0 default),own.contains x=true→∀ a,a∉X→¬ V x a)→
  (∀ x∈zJ (.Tuple elts 0 default),∃ a,a∈X∧a∈W∧wx env sc x a)→∀ (Q:Unit→Shared→Prop) (E:Value→Shared→Prop),
  (∀ h' tk,zC V env sc own τ X h'→(∀ b o,b∉W→s.heap.get? b=some o→h'.get? b=some o)→Q () { s with heap:=h',toks:=tk })→
  wpAny (model prog w) A (assignInOrder ((assignEach elts env).map (fun z=>z.2)) vs) Q E s
 |[],ds,vs,σ,s,h,r,R,_,_,_,Q,E,hQ=>by
  refine X02 (kG h) fun e1 e2=>?_;subst e1 e2;exact r.nilE (M:=fun vs=>wpAny _ _ (assignInOrder _ vs) _ _ _) (wpAny_pure (hQ s.heap s.toks R fun z z z e=>e))
 |e::es,ds,vs,σ,s,h,r,R,hL,hV,hn,Q,E,hQ=>by
  refine yK h fun x pos d ds' e1 e2 h3=>?_;subst e1 e2;refine r.consE (M:=fun vs=>wpAny _ _ (assignInOrder _ vs) _ _ _) fun v vs r1 r2=>?_;refine X13 (hn x zq9) fun a haX haW hk=>?_
  show wpAny _ _ (assignInOrder (assign (.Name x pos) env::(assignEach es env).map (fun z=>z.2)) (v::vs)) Q E s
  refine wpAny_bind (wpAny_holding (wpAny_assign_Name (R.store hL hk haX (VOk.of_false r1 _ (hV x zq9)) _ _ fun h' tk R' kk z=>?_)))
  exact pH (s:={ s with heap:=h',toks:=tk }) h3 (zu.upd (fun b o n e=>kk b o (fun q=>n (q▸haX)) e) r2) R' hL (fun y hy=>hV y (zp0 hy)) (fun y hy=>hn y (zp0 hy)) Q E fun h'' tk' R'' k'=>
   hQ h'' tk' R'' fun b o n e=>k' b o n (kk b o (fun q=>n (q▸haW)) e)
theorem xu:∀ {elts:List Expr} {ds:List D} {σ:Sg},yL elts ds σ=some τ→(assignEach elts env).length=ds.length∧(assignEach elts env).findIdx? (fun z=>z.1)=none
 |[],ds,_,h=>by
  refine X02 (kG h) fun e1 z=>?_;subst e1;exact ⟨rfl,rfl⟩
 |e::es,ds,σ,h=>by
  refine yK h fun x pos d ds' e1 e2 h3=>?_;subst e1 e2;refine X02 (xu h3) fun h1 h2=>?_;refine ⟨congrArg Nat.succ h1,?_⟩
  show findIdx? (fun z=>z.1) ((false,assign (.Name x pos) env)::assignEach es env)=none
  rw [List.findIdx?_cons,h2];rfl
theorem zzQ(hA:A.handled=none)(h:j6 tgt d σ=some τ)(r:Rep s.heap X false v d)(R:zC V env sc own σ X s.heap)(K:Ok X s)(hL:env.locals∈X)(hV:∀ x∈zJ tgt,own.contains x=true→∀ a,a∉X→¬ V x a)(hc:cc∉W∧P₀∉W∧cStatics∉W)
  (hn:∀ x∈zJ tgt,∃ a,a∈X∧a∈W∧wx env sc x a)(Q:Unit→Shared→Prop)(E:Value→Shared→Prop)
  (hQ:∀ s',zC V env sc own τ X s'.heap→zb W s s'→Q () s'):wpAny (model prog w) A (assign tgt env v) Q E s:=by
 have fin:∀ h' tk,zC V env sc own τ X h'→(∀ b o,b∉W→s.heap.get? b=some o→h'.get? b=some o)→s.heap.objs.size≤h'.objs.size→Q () { s with heap:=h',toks:=tk }:=
  fun h' tk R' kk sz=>hQ _ R' (zb.step kk sz hc.1 hc.2.1 hc.2.2)
 refine pU h (fun x pos e1 e2=>?_) fun elts q pos ds e1 e2 h3=>?_
 ·subst e1 e2;refine X13 (hn x (mem_singleton.mpr rfl)) fun a haX haW hk=>?_;exact wpAny_assign_Name (R.store hL hk haX (VOk.of_false r _ (hV x (mem_singleton.mpr rfl))) _ _ fun h' tk R' kk sz=>fin h' tk R' (fun b o n e=>kk b o (fun q=>n (q▸haW)) e) (le_of_eq sz.symm))
 ·subst e1 e2;refine r.tupE (M:=fun v=>wpAny _ _ (assign _ _ v) _ _ _) fun a vs n ro i L=>?_;have i:xR s.heap a vs:=⟨n,i⟩
  refine X02 (xu (env:=env) h3) fun h1 h2=>?_;have hlen:vs.size=ds.length:=L.length;refine qg (wpAny_assign_Tuple hA i.isTuple (h1.trans hlen.symm) h2 fun h' ext=>?_);have kk:∀ b o,s.heap.get? b=some o→h'.get? b=some o:=fun b o e=>ext b o (ne_of_lt (lt_size e)) e
  exact pH (W:=W) (s:={ s with heap:=h' }) h3 (zu.upd (fun b o z e=>kk b o e) L) (R.mv fun b o z e=>kk b o e) hL hV hn _ _ fun h'' tk R' k'=>
   fun sz=>fin h'' tk R' (fun b o n e=>k' b o n (kk b o e)) sz
theorem ww:∀ {ifs:List Expr} {Q:Bool→Shared→Prop} {E:Value→Shared→Prop},Q false s→
  wpAny (model prog w) A (forIn ifs false fun c r=>if r=true then do let ok ←isTrue c env (eval c env);pure (ForInStep.yield ok) else pure (ForInStep.yield r)) Q E s
 |[],_,_,h=>by rw [forIn_nil];exact wpAny_pure h
 |c::cs,Q,E,h=>by
  rw [forIn_cons];exact wpAny_bind (by simp only [false_eq_true,if_false];exact wpAny_pure (ww h))
noncomputable def wv(env:Env)(ifs:List Expr):Sem Bool:=forIn ifs true fun c r=>if r=true then do let ok ←isTrue c env (eval c env);pure (ForInStep.yield ok) else pure (ForInStep.yield r)
def STs(T:Sc)(ifs:List Expr)(b:Bool):Prop:=∀ P,Good T P→∀ (Q:Bool→Shared→Prop) (E:Value→Shared→Prop),(∀ s',Grow P.s s'→Q b s')→wpAny (model prog w) P.A (wv P.env ifs) Q E P.s
theorem zzZ{β:Type}{p:EvK}{T:Sc}{r:β}{M:Prop}(ih:k9 p):∀ {ifs:List Expr} {k:Bool→Option β},zp4 p T ifs k=some r→(∀ b,STs T ifs b→k b=some r→M)→M
 |[],k,h,f=>f true (fun P z Q E hQ=>by unfold wv;rw [forIn_nil];exact wpAny_pure (hQ _ (Grow.refl ..))) h
 |c::cs,k,h,f=>(ih.t h).elim fun b h1 h=>by
  have go:∀ {b'},(b=true→STs T cs b')→(b=false→b'=false)→STs T (c::cs) b':=fun {b'} ht hf P G Q E hQ=>by
   unfold wv;rw [forIn_cons];refine wpAny_bind ?_;rw [if_pos rfl];refine wpAny_bind (h1 P G _ _ fun s₁ g=>wpAny_pure ?_);cases b with
   |true=>exact ht rfl (P.to s₁) (G.to g) Q E fun s₂ g2=>hQ _ (g.trans g2)
   |false=>exact ww (hf rfl▸hQ _ g)
  cases b with
  |true=>exact zzZ ih h fun b' h2 h=>f b' (go (fun z=>h2) fun q=>Bool.noConfusion q) h
  |false=>exact f false (go (fun q=>Bool.noConfusion q) fun z=>rfl) h
noncomputable def zvC(env:Env):List (Str × NameKind)→List (Str × Addr)→List (Str × Addr)
 |[],acc=>acc
 |(n,k)::r,acc=>zvC env r (if (k== .free)=true then (n,(env.cells.lookup n).getD 0)::acc else acc)
theorem v8(f:Str × NameKind→List (Str × Addr)→Sem (ForInStep (List (Str × Addr)))):∀ (names:List (Str × NameKind)) (acc:List (Str × Addr)),
  (∀ n k acc,(n,k)∈names→f (n,k) acc=pure (.yield (if (k== .free)=true then (n,(env.cells.lookup n).getD 0)::acc else acc)))→forIn names acc f=pure (zvC env names acc)
 |[],acc,_=>by rw [forIn_nil];rfl
 |(n,k)::r,acc,h=>by
  rw [forIn_cons,h n k acc (mem_cons_self ..)];exact v8 f r _ fun n k acc m=>h n k acc (mem_cons_of_mem _ m)
theorem ge(h:∀ n,(n,NameKind.free)∈scope.names→∃ c,env.cells.lookup n=some c):closureFor scope env=pure (zvC env scope.names []):=by
 simp only [closureFor]
 rw [v8 (env:=env) _ scope.names [] (fun n k acc m=>by
  by_cases hk:(k==NameKind.free)=true
  ·have hk':k= .free:=by simpa using hk
   subst hk';refine X11 (h n m) fun c hc=>?_;simp only [hk,if_true,cellOf,hc,Option.getD_some];rfl
  ·simp only [hk];rfl)]
 rfl
theorem yW(x:Str):∀ (names:List (Str × NameKind)) (acc:List (Str × Addr)),(zvC env names acc).lookup x=if (x,NameKind.free)∈names then some ((env.cells.lookup x).getD 0) else acc.lookup x
 |[],acc=>(if_neg (not_mem_nil)).symm
 |(n,k)::r,acc=>by
  refine (yW x r _).trans ?_;by_cases hr:(x,NameKind.free)∈r
  ·rw [if_pos hr,if_pos (mem_cons_of_mem _ hr)]
  ·rw [if_neg hr];by_cases hk:(k==NameKind.free)=true
   ·rw [if_pos hk,lookup_cons];have hk':k= .free:=by simpa using hk
    subst hk';by_cases hx:x=n
    ·subst hx;simp
    ·have:(x==n)=false:=by simpa using hx
     rw [this,if_neg];simp only [mem_cons,Prod.mk.injEq,not_or];exact ⟨fun q=>hx q.1,hr⟩
   ·rw [if_neg hk,if_neg];simp only [mem_cons,Prod.mk.injEq,not_or];exact ⟨fun q=>hk (by rw [←q.2];rfl),hr⟩
theorem zi:∀ (names:List (Str × NameKind)) (n:Nat) (acc:List (Str × Addr)),cellsFrom n names acc=cellsFrom n names []++acc
 |[],_,_=>rfl
 |(x,k)::r,n,acc=>by
  unfold cellsFrom
  split
  ·rw [zi r (n+1) ((x,n)::acc),zi r (n+1) [(x,n)]];simp
  ·exact zi r n acc
theorem qG(x:Str):∀ (names:List (Str × NameKind)) (n:Nat),(x,NameKind.cell)∈names→∃ c,(cellsFrom n names []).lookup x=some c
 |[],_,h=>by cases h
 |(y,k)::r,n,h=>by
  unfold cellsFrom;by_cases hr:(x,NameKind.cell)∈r
  ·split
   ·rw [zi,lookup_append];refine X11 (qG x r (n+1) hr) fun c hc=>?_;exact ⟨c,by rw [hc];rfl⟩
   ·exact qG x r n hr
  ·rcases mem_cons.mp h with e|e
   ·cases e;rw [if_pos (by rfl),zi,lookup_append];cases q:(cellsFrom (n+1) r []).lookup x with
    |some c=>exact ⟨c,rfl⟩
    |none=>exact ⟨n,by simp [lookup_cons]⟩
   ·exact absurd e hr
set_option tactic.hygienic true in
theorem jv(x:Str)(c:Addr):∀ (names:List (Str × NameKind)) (n:Nat),(cellsFrom n names []).lookup x=some c→(x,NameKind.cell)∈names
 |[],_,h=>by cases h
 |(y,k)::r,n,h=>by
  unfold cellsFrom at h
  split at h
  ·rename_i hk;rw [zi,lookup_append] at h;cases q:(cellsFrom (n+1) r []).lookup x with
   |some c'=>exact mem_cons_of_mem _ (jv x c' r (n+1) q)
   |none=>
    rw [q] at h;simp only [Option.none_or,lookup_cons] at h
    split at h
    ·rename_i hb;have:k= .cell:=by simpa using hk
     rw [beq_iff_eq.mp hb,this];exact mem_cons_self ..
    ·cases h
  ·exact mem_cons_of_mem _ (jv x c r n h)
theorem ju:∀ (names:List (Str × NameKind)) (h:Heap),h.objs.size≤(pushCells h names).objs.size
 |[],_=>le_refl _
 |(_,k)::r,h=>by
  unfold pushCells
  split
  ·exact le_trans (by rw [size_push];exact le_add_right ..) (ju r (h.push _))
  ·exact ju r h
theorem v9(R:Rep h X t v d):∀ a∈zw h v,a<h.objs.size:=fun z m=>R.rootE (M:=fun a=>a<h.objs.size) m fun z z z g z=>lt_size g
end
end
variable {cenv:Env}{elt kx vx:Expr}
section
section
set_option tactic.hygienic true in
theorem q8(x:Str):(jz scope sc).names.lookup x=(scope.names.lookup x).map fun k=>if (k== .free&&sc.kind== .function&&sc.names.lookup x==some .cell)=true then .cell else k:=by
 unfold jz;simp only;generalize scope.names=l
 induction l with
 |nil=>rfl
 |cons a l ih=>
  obtain ⟨n,k⟩:=a;simp only [map_cons];by_cases hx:x=n
  ·subst hx;have hb:(x==x)=true:=by simp
   split<;>rename_i hc<;>simp only [lookup_cons,hb,Option.map_some]
   ·rw [if_pos hc]
   ·rw [if_neg hc]
  ·have hb:(x==n)=false:=by simpa using hx
   split<;>simp only [lookup_cons,hb]<;>exact ih
theorem kF(hc:v4 scope sc=true):scope.kind= .function∧∀ n k,(n,k)∈scope.names→scope.names.lookup n=some k∧(k= .free→sc.names.lookup n=some .cell∨sc.names.lookup n=some .free):=by
 simp only [v4,and_eq_true,beq_iff_eq,all_eq_true] at hc;refine ⟨hc.1,fun n k m=>?_⟩;have:=hc.2 (n,k) m;simp only [beq_iff_eq,or_eq_true,and_eq_true] at this;refine ⟨this.1,fun hf=>?_⟩;subst hf;exact this.2.elim (fun h=>h.elim (fun h=>h.elim NameKind.noConfusion NameKind.noConfusion) NameKind.noConfusion) fun h=>h.1.2
theorem gi(hx:(jz scope sc).names.lookup x=some .cell∨(jz scope sc).names.lookup x=some .free):scope.names.lookup x=some .free∨scope.names.lookup x=some .cell:=by
 rw [q8] at hx;cases q:scope.names.lookup x with
 |none=>rw [q] at hx;exact hx.elim zq zq
 |some kk=>
  rw [q] at hx;cases kk with
  |cell=>exact .inr rfl
  |free=>exact .inl rfl
  |_=>exact hx.elim (fun h=>NameKind.noConfusion (sj h)) fun h=>NameKind.noConfusion (sj h)
set_option tactic.hygienic true in
theorem zqK{n₀:Nat}{H:Heap}{CC FC:List (Str × Addr)}{m:Str→Option Value}(R:zC V env sc own σ X s.heap)(K:Ok X s)(hc:v4 scope sc=true)(hn:n₀≤s.heap.objs.size)(hr:∀ x a,n₀≤a→V x a)
  (hpk:∀ b o,s.heap.get? b=some o→H.get? b=some o)(hns:H.Ns s.heap.objs.size m)(hCC:∀ a∈CC.map (fun z=>z.2),s.heap.objs.size≤a)
  (hfree:∀ x c,scope.names.lookup x=some .free→env.cells.lookup x=some c→FC.lookup x=some c)(hcell:∀ x,scope.names.lookup x=some .cell→∃ c,FC.lookup x=some c∧s.heap.objs.size≤c∧H.IsCell c none)
  (hinj:∀ x y c,FC.lookup x=some c→FC.lookup y=some c→x=y)(e1:cenv.locals=s.heap.objs.size)(e2:cenv.cells=FC)(e3:cenv.globals=env.globals)(e4:cenv.builtins=env.builtins)(e5:cenv.code=env.code):
  zC (fun _ a=>n₀≤a) { cenv with scope:=relabel scope env } (jz scope sc) (own.filter (qQ scope)) (fun x=>if qQ scope x=true then σ x else none) (s.heap.objs.size::CC.map (fun z=>z.2)++X) H:=by
 have hXX:∀ a∈s.heap.objs.size::CC.map (fun z=>z.2)++X,a∈X∨s.heap.objs.size≤a:=fun a m=>(mem_append.mp m).elim (fun m=>.inr ((mem_cons.mp m).elim (fun e=>le_of_eq e.symm) (hCC a))) .inl;have hL:=K.lts;have nn:∀ {c},s.heap.objs.size≤c→c≠P₀∧c≠cStatics:=fun h=>⟨(ne_of_lt (lt_of_lt_of_le hL.2.1 h)).symm,(ne_of_lt (lt_of_lt_of_le hL.2.2 h)).symm⟩
 have hV:∀ {x:Str} {v:Value} {d:D},qQ scope x=true→VOk s.heap X (own.contains x) (V x) v d→VOk H (s.heap.objs.size::CC.map (fun z=>z.2)++X) ((own.filter (qQ scope)).contains x) (fun a=>n₀≤a) v d:=fun {x v d} hx y=>by
  have e:(own.filter (qQ scope)).contains x=own.contains x:=by rw [Bool.eq_iff_iff];simp [hx]
  rw [e];exact VOk.mv ⟨y.1.addX hXX,fun q a m h=>y.2 q a m (hr x a h)⟩ fun b o _ e=>hpk b o e
 have hk:=kF hc;refine ⟨?_,fun q=>e5.trans (R.cod (contains_iff_mem.mpr (mem_filter.mp (contains_iff_mem.mp q)).1)),hk.1,e3.trans R.glob,e4.trans R.bi,e1▸nn (le_refl _),fun _=>e1▸hn,⟨m,e1▸hns,fun x d hx hd=>?_⟩,fun x hx=>?_,fun x y c h1 h2=>hinj x y c (e2▸h1) (e2▸h2)⟩
 ·show relabel scope env=jz scope sc
  rw [←R.scp];rfl
 ·exfalso
  rw [q8] at hx
  split at hd
  ·rename_i hf;simp only [qQ,beq_iff_eq] at hf;rw [hf] at hx;simp only [Option.map_some,Option.some.injEq] at hx
   split at hx<;>cases hx
  ·cases hd
 ·show ∃ c,cenv.cells.lookup x=some c∧_
  rw [e2];rcases gi hx with hf|hcx
  ·obtain ⟨c,hc',ne,⟨v₀,hv₀⟩,hd⟩:=R.cell x ((hk.2 x _ (mem_of_lookup hf)).2 rfl);refine ⟨c,hfree x c hf hc',ne,⟨v₀,hv₀.keeps hpk⟩,fun d hd'=>?_⟩;have hfr:qQ scope x=true:=by simp [qQ,hf]
   rw [if_pos hfr] at hd';refine X12 (hd d hd') fun v h1 h2=>?_;exact ⟨v,h1.keeps hpk,hV hfr h2⟩
  ·refine X13 (hcell x hcx) fun c hc' l1 l2=>?_;refine ⟨c,hc',nn l1,⟨none,l2⟩,fun d hd'=>?_⟩;rw [if_neg (by simp [qQ,hcx])] at hd';exact zq hd'
theorem zjE{n₀:Nat}(R:zC V env sc own σ X s.heap)(K:Ok X s)(hc:v4 scope sc=true)(hn:n₀≤s.heap.objs.size)(hr:∀ x a,n₀≤a→V x a)(Q:Env→Shared→Prop)(E:Value→Shared→Prop)
  (hQ:∀ cenv s' ws,Grow s s'→cenv.locals∈ws→(∀ a∈ws,s.heap.objs.size≤a∧a<s'.heap.objs.size)→(∀ x,scope.names.lookup x=some .cell→∃ c∈ws,cenv.cells.lookup x=some c)→(∀ x c,cenv.cells.lookup x=some c→c∈ws∨((x,NameKind.free)∈scope.names∧env.cells.lookup x=some c))→
   zC (fun z a=>n₀≤a) { cenv with scope:=relabel scope env } (jz scope sc) (own.filter (qQ scope)) (fun x=>if qQ scope x=true then σ x else none) (ws++X) s'.heap→Q cenv s'):
  wpAny (model prog w) A (newFunctionEnv scope env.globals (zvC env scope.names []) [] env.qual none .none (some env)) Q E s:=by
 have hkk:=kF hc;have hall:=hkk.2;simp only [newFunctionEnv,Option.isSome_some,if_true];refine wpAny_bind (wpAny_alloc ?_);refine wpAny_bind (wpAny_layCells _ (fun name kind cells=>by cases hkc:kind==NameKind.cell<;>simp [hkc]) _ _ _ _ ?_);rw [show ({ s with heap:=s.heap.push { cls:=.type "dict",data:=.dict #[] } }:Shared).heap.objs.size=s.heap.objs.size+1 from size_push ..];have hpk:∀ b o,s.heap.get? b=some o→(pushCells (s.heap.push { cls:=.type "dict",data:=.dict #[] }) scope.names).get? b=some o:=fun b o e=>pushCells_keeps _ _ b o (get?_push_of_some _ e);have hsz:=ju scope.names (s.heap.push { cls:=.type "dict",data:=.dict #[] });rw [size_push] at hsz;have ok:=cellsFrom_ok scope.names (s.heap.push { cls:=.type "dict",data:=.dict #[] }) (s.heap.objs.size+1) [] ⟨fun z z hm=>(nomatch hm),List.Pairwise.nil⟩ (by rw [size_push];exact le_refl _);rw [size_push] at ok;have hns:(pushCells (s.heap.push { cls:=.type "dict",data:=.dict #[] }) scope.names).Ns s.heap.objs.size _:=(Ns.new s.heap (.type "dict")).keeps (pushCells_keeps _ _);have hhas:∀ x,scope.names.lookup x=some .cell→∃ c,(cellsFrom (s.heap.objs.size+1) scope.names []).lookup x=some c:=fun x hx=>qG x scope.names _ (mem_of_lookup hx);have honly:∀ x c,(cellsFrom (s.heap.objs.size+1) scope.names []).lookup x=some c→scope.names.lookup x=some .cell:=fun x c h=>(hall x _ (jv x c scope.names _ h)).1;have happ:∀ x,(cellsFrom (s.heap.objs.size+1) scope.names (zvC env scope.names [])).lookup x=((cellsFrom (s.heap.objs.size+1) scope.names []).lookup x).or ((zvC env scope.names []).lookup x):=fun x=>(congrArg (List.lookup x) (zi scope.names _ _)).trans lookup_append;generalize pushCells (s.heap.push { cls:=.type "dict",data:=.dict #[] }) scope.names=H at hpk hsz ok hns ⊢;generalize cellsFrom (s.heap.objs.size+1) scope.names []=CC at ok hhas honly happ;generalize cellsFrom (s.heap.objs.size+1) scope.names (zvC env scope.names [])=FC at happ ⊢
 have hcl:∀ x c,(zvC env scope.names []).lookup x=some c→(x,NameKind.free)∈scope.names∧env.cells.lookup x=some c:=fun x c h=>by
  rw [yW] at h;refine X02 (zk h) fun hm h=>?_;refine X12 (R.cell x ((hall x _ hm).2 rfl)) fun c' hc' z=>?_;rw [hc'] at h;exact ⟨hm,sj h▸hc'⟩
 have hlk:∀ x c,FC.lookup x=some c→CC.lookup x=some c∨((x,NameKind.free)∈scope.names∧env.cells.lookup x=some c∧c<s.heap.objs.size):=fun x c h=>by
  rw [happ] at h;cases q:CC.lookup x with
  |some c'=>rw [q] at h;exact .inl h
  |none=>
   rw [q] at h;refine X02 (hcl x c h) fun h1 h2=>?_;obtain ⟨c',hc',_,⟨v₀,o,ho,_⟩,_⟩:=R.cell x ((hall x _ h1).2 rfl);exact .inr ⟨h1,h2,sj (hc'.symm.trans h2)▸lt_size ho⟩
 have hlo:∀ x c,CC.lookup x=some c→s.heap.objs.size+1≤c∧H.IsCell c none:=fun x c h=>⟨(ok.empty x c (mem_of_lookup h)).2,(ok.empty x c (mem_of_lookup h)).1⟩
 have hmem:∀ {x c},CC.lookup x=some c→c∈s.heap.objs.size::CC.map (fun z=>z.2):=fun h=>mem_cons_of_mem _ (mem_map.mpr ⟨_,mem_of_lookup h,rfl⟩);have hin:∀ {x c},CC.lookup x=some c→FC.lookup x=some c:=fun {x c} h=>by rw [happ,h];rfl
 have hCC:∀ a∈CC.map (fun z=>z.2),s.heap.objs.size+1≤a:=fun a m=>by
  refine X12 (mem_map.mp m) fun q hm e=>?_;exact e▸(ok.empty q.1 q.2 hm).2
 refine wpAny_bind (m:=forIn ([]:List (Str × Value)) PUnit.unit _) ?_;rw [forIn_nil];refine wpAny_pure (wpAny_pure ?_)
 refine hQ _ _ (s.heap.objs.size::CC.map (fun z=>z.2)) (Grow.of_keep hpk (le_of_succ_le hsz)) (mem_cons_self ..) (fun a m=>?_) (fun x hx=>?_) (fun x c hxc=>?_)
  (zqK (cenv:={ scope:=scope,locals:=s.heap.objs.size,globals:=env.globals,cells:=FC,qual:=env.qual,code:=env.code,frame:=env.frame,builtins:=env.builtins }) R K hc hn hr hpk hns (fun a m=>le_of_succ_le (hCC a m)) (fun x c hf hc'=>?_) (fun x hx=>?_) (fun x y c h1 h2=>?_) rfl rfl rfl rfl rfl)
 ·rcases mem_cons.mp m with rfl|m
  ·exact ⟨le_refl _,hsz⟩
  ·refine X12 (mem_map.mp m) fun q hm e=>?_;obtain ⟨⟨o,ho,_⟩,h2⟩:=ok.empty q.1 q.2 hm;exact e▸⟨le_of_succ_le h2,lt_size ho⟩
 ·refine X11 (hhas x hx) fun c hcx=>?_;exact ⟨c,hmem hcx,hin hcx⟩
 ·exact (hlk x c hxc).imp hmem fun h=>⟨h.1,h.2.1⟩
 ·have hm:=mem_of_lookup hf;rw [happ,yW,if_pos hm,hc'];cases q:CC.lookup x with
  |none=>rfl
  |some c'=>have:=honly x c' q;rw [hf] at this;cases this
 ·refine X11 (hhas x hx) fun c hcx=>?_;exact ⟨c,hin hcx,le_of_succ_le (hlo x c hcx).1,(hlo x c hcx).2⟩
 ·rcases hlk x c h1 with a1|⟨_,a1,a2⟩<;>rcases hlk y c h2 with b1|⟨_,b1,b2⟩
  ·exact name_of_addr ok.apart (mem_of_lookup a1) (mem_of_lookup b1)
  ·exact absurd (hlo x c a1).1 (not_le.mpr (lt_succ_of_lt b2))
  ·exact absurd (hlo y c b1).1 (not_le.mpr (lt_succ_of_lt a2))
  ·exact R.inj x y c a1 b1
def vQ(A:Around)(e:Expr)(gens:List Comprehension)(depth:Nat)(it acc:Value)(cenv:Env)(g:Comprehension)(emitW:(Unit→Shared→Prop)→(Value→Shared→Prop)→Shared→Prop)(Q:Fin→Shared→Prop)(E:Value→Shared→Prop)(s:Shared):Prop:=
 wpAny (model prog w) A (pyNext it) (fun r s₁=>match r with
  |none=>Q (.done .next) s₁
  |some v=>wpAny (model prog w) A (letOwnedTupleGo g.target it v) (fun z s₂=>wpAny (model prog w) A (assign g.target cenv v) (fun z s₃=>wpAny (model prog w) A (wv cenv g.ifs) (fun ok s₄=>
    if ok=true then match gens[depth+1]? with
     |some g'=>wpAny (model prog w) A (eval g'.iter cenv) (fun x s₅=>wpAny (model prog w) A (pyIter x) (fun it' s₆=>wpAny (model prog w) A (runOwn (.compStart e (depth+1) it' acc cenv) cenv) (fun z s₇=>
       Q (.again (.compLoop e depth it acc cenv)) s₇) E s₆) E s₅) E s₄
     |none=>emitW (fun z s₅=>Q (.again (.compLoop e depth it acc cenv)) s₅) E s₄
    else Q (.again (.compLoop e depth it acc cenv)) s₄) E s₃) E s₂) E s₁) E s
theorem xX(h:xt e=false)(env:Env)(x:Value):foldedSetIterable e env x=pure x:=by
 cases e with
 |Set z y v=>exact Bool.noConfusion h
 |_=>rfl
theorem zkZ{gens:List Comprehension}{depth:Nat}{it acc:Value}{g:Comprehension}{Q:Fin→Shared→Prop}(hg:gens[depth]? =some g)(ha:g.is_async=0)
  (hn:∀ g',gens[depth+1]? =some g'→g'.is_async=0∧xt g'.iter=false)
  (h:vQ A (.ListComp elt gens scope pos) gens depth it acc cenv g (fun Q E s=>wpAny (model prog w) A (eval elt cenv) (fun x s₁=>wpAny (model prog w) A (call (.builtin "list.append") [acc,x]) (fun z s₂=>Q () s₂) E s₁) E s) Q E s):
  wpAny (model prog w) A (compTurn (.ListComp elt gens scope pos) depth it acc cenv) Q E s:=by
 have e0:(g.is_async !=0)=false:=by rw [ha];rfl
 unfold compTurn;simp only [hg,e0,false_eq_true,if_false];refine wpAny_bind (wpAny_standAt (wpAny_bind (wpAny_mono h (fun r s₁ h₁=>?_) fun z z x=>x)));cases r with
 |none=>exact wpAny_pure h₁
 |some v=>
  refine wpAny_bind (wpAny_mono h₁ (fun z s₂ h₂=>wpAny_bind (wpAny_mono h₂ (fun z s₃ h₃=>wpAny_bind (wpAny_mono h₃ (fun ok s₄ h₄=>?_) fun z z x=>x)) fun z z x=>x)) fun z z x=>x);cases ok with
  |false=>exact wpAny_pure h₄
  |true=>
   simp only [if_true] at h₄ ⊢;cases hq:gens[depth+1]? with
   |none=>
    simp only [hq] at h₄ ⊢;exact wpAny_bind (wpAny_bind (wpAny_mono h₄ (fun x s₅ h₅=>wpAny_bind (wpAny_mono h₅ (fun z s₆ h₆=>wpAny_pure (wpAny_pure h₆)) fun z z x=>x)) fun z z x=>x))
   |some g'=>
    refine X02 (hn g' hq) fun ha' hs'=>?_;have e1:(g'.is_async !=0)=false:=by rw [ha'];rfl
    simp only [hq,e1,false_eq_true,if_false] at h₄ ⊢
    exact wpAny_bind (wpAny_mono h₄ (fun x s₅ h₅=>wpAny_bind (wpAny_standAt (wpAny_bind (wpAny_of_eq (xX hs' _ _) (wpAny_bind (wpAny_holding (wpAny_mono h₅ (fun it' s₆ h₆=>
     wpAny_bind (wpAny_mono h₆ (fun z s₇ h₇=>wpAny_pure h₇) fun z z x=>x)) fun z z x=>x))))))) fun z z x=>x)
theorem zkJ{gens:List Comprehension}{depth:Nat}{it:Value}{D:Addr}{g:Comprehension}{Q:Fin→Shared→Prop}(hg:gens[depth]? =some g)(ha:g.is_async=0)
  (hn:∀ g',gens[depth+1]? =some g'→g'.is_async=0∧xt g'.iter=false)
  (h:vQ A (.DictComp kx vx gens scope pos) gens depth it (.ref D) cenv g (fun Q E s=>wpAny (model prog w) A (eval kx cenv) (fun kv s₁=>wpAny (model prog w) A (eval vx cenv) (fun vv s₂=>wpAny (model prog w) A (dictSet D kv vv) (fun z s₃=>Q () s₃) E s₂) E s₁) E s) Q E s):
  wpAny (model prog w) A (compTurn (.DictComp kx vx gens scope pos) depth it (.ref D) cenv) Q E s:=by
 have e0:(g.is_async !=0)=false:=by rw [ha];rfl
 unfold compTurn;simp only [hg,e0,false_eq_true,if_false];refine wpAny_bind (wpAny_standAt (wpAny_bind (wpAny_mono h (fun r s₁ h₁=>?_) fun z z x=>x)));cases r with
 |none=>exact wpAny_pure h₁
 |some v=>
  refine wpAny_bind (wpAny_mono h₁ (fun z s₂ h₂=>wpAny_bind (wpAny_mono h₂ (fun z s₃ h₃=>wpAny_bind (wpAny_mono h₃ (fun ok s₄ h₄=>?_) fun z z x=>x)) fun z z x=>x)) fun z z x=>x);cases ok with
  |false=>exact wpAny_pure h₄
  |true=>
   simp only [if_true] at h₄ ⊢;cases hq:gens[depth+1]? with
   |none=>
    simp only [hq] at h₄ ⊢;exact wpAny_bind (wpAny_bind (wpAny_mono h₄ (fun kv s₄ h₄=>wpAny_bind (wpAny_holding (wpAny_mono h₄ (fun vv s₅ h₅=>wpAny_bind (wpAny_standAt (wpAny_holding (wpAny_mono h₅ (fun z s₆ h₆=>wpAny_pure h₆) fun z z x=>x)))) fun z z x=>x))) fun z z x=>x))
   |some g'=>
    refine X02 (hn g' hq) fun ha' hs'=>?_;have e1:(g'.is_async !=0)=false:=by rw [ha'];rfl
    simp only [hq,e1,false_eq_true,if_false] at h₄ ⊢
    exact wpAny_bind (wpAny_mono h₄ (fun x s₅ h₅=>wpAny_bind (wpAny_standAt (wpAny_bind (wpAny_of_eq (xX hs' _ _) (wpAny_bind (wpAny_holding (wpAny_mono h₅ (fun it' s₆ h₆=>
     wpAny_bind (wpAny_mono h₆ (fun z s₇ h₇=>wpAny_pure h₇) fun z z x=>x)) fun z z x=>x))))))) fun z z x=>x)
structure xW(A:Around)(e:Expr)(gens:List Comprehension)(acc:Value)(cenv:Env)(emitW:(Unit→Shared→Prop)→(Value→Shared→Prop)→Shared→Prop):Prop where
 loop:∀ {depth it g},gens[depth]? =some g→g.is_async=0→(∀ g',gens[depth+1]? =some g'→g'.is_async=0∧xt g'.iter=false)→∀ (I:Nat→Shared→Prop) (R:Result→Shared→Prop),
  (∀ n s,I n s→vQ A e gens depth it acc cenv g emitW (fun fin s'=>match fin with
   | .done f=>R (.ok f) s'
   | .again z=>∃ m,m<n∧I m s') (fun z z=>False) s)→∀ n s,I n s→codeAny (model prog w) A (.compLoop e depth it acc cenv) R s
 start:∀ {depth it g},gens[depth]? =some g→g.is_async=0→∀ {R s},codeAny (model prog w) A (.compLoop e depth it acc cenv) R s→
  wpAny (model prog w) A (pyIter it) (fun it' s'=>codeAny (model prog w) A (.compLoop e depth it' acc cenv) R s') (fun z z=>False) s→codeAny (model prog w) A (.compStart e depth it acc cenv) R s
theorem vQ.mono{gens:List Comprehension}{depth:Nat}{it acc:Value}{g:Comprehension}{emitW:(Unit→Shared→Prop)→(Value→Shared→Prop)→Shared→Prop}{Q Q':Fin→Shared→Prop}{E':Value→Shared→Prop}
  (hm:∀ {Q Q' E E' s},(∀ a s,Q a s→Q' a s)→(∀ a s,E a s→E' a s)→emitW Q E s→emitW Q' E' s)
  (h:vQ A e gens depth it acc cenv g emitW Q E s)(hE:∀ a s,E a s→E' a s)(h1:∀ f s,Q (.done f) s→Q' (.done f) s)(h2:∀ s,Q (.again (.compLoop e depth it acc cenv)) s→Q' (.again (.compLoop e depth it acc cenv)) s):vQ A e gens depth it acc cenv g emitW Q' E' s:=by
 refine wpAny_mono h (fun r s₁ h₁=>?_) hE;cases r with
 |none=>exact h1 _ _ h₁
 |some v=>
  refine wpAny_mono h₁ (fun z s₂ h₂=>wpAny_mono h₂ (fun z s₃ h₃=>wpAny_mono h₃ (fun ok s₄ h₄=>?_) hE) hE) hE;cases ok with
  |false=>exact h2 _ h₄
  |true=>
   simp only [if_true] at h₄ ⊢;cases hq:gens[depth+1]? with
   |none=>
    simp only [hq] at h₄ ⊢;exact hm (fun z s h=>h2 s h) hE h₄
   |some g'=>
    simp only [hq] at h₄ ⊢;exact wpAny_mono h₄ (fun x s₅ h₅=>wpAny_mono h₅ (fun it' s₆ h₆=>wpAny_mono h₆ (fun z s₇ h₇=>h2 _ h₇) hE) hE) hE
noncomputable def zfg(A:Around)(elt:Expr)(acc:Value)(cenv:Env):(Unit→Shared→Prop)→(Value→Shared→Prop)→Shared→Prop:=
 fun Q E s=>wpAny (model prog w) A (eval elt cenv) (fun x s₁=>wpAny (model prog w) A (call (.builtin "list.append") [acc,x]) (fun z s₂=>Q () s₂) E s₁) E s
noncomputable def zfp(A:Around)(kx vx:Expr)(D:Addr)(cenv:Env):(Unit→Shared→Prop)→(Value→Shared→Prop)→Shared→Prop:=
 fun Q E s=>wpAny (model prog w) A (eval kx cenv) (fun kv s₁=>wpAny (model prog w) A (eval vx cenv) (fun vv s₂=>wpAny (model prog w) A (dictSet D kv vv) (fun z s₃=>Q () s₃) E s₂) E s₁) E s
theorem zkY{gens:List Comprehension}{acc:Value}:xW A (.ListComp elt gens scope pos) gens acc cenv (zfg A elt acc cenv) where
 loop:=fun {depth it g} hg ha hn I R turn n s hI=>by
  refine codeAny_loop rfl I (fun n s hI=>?_) n hI
  show wpAny _ A ((compTurn (.ListComp elt gens scope pos) depth it acc cenv).onRaise (fun x=>do noteFrame x cenv;theTreesLotGoes x)) _ _ s
  refine wpAny_noted (zkZ hg ha hn ((turn n s hI).mono (fun hQ hE h=>wpAny_mono h (fun x s₁ h₁=>wpAny_mono h₁ (fun z s₂ h₂=>hQ _ _ h₂) hE) hE) (fun z z h=>h.elim) (fun f s h=>h) fun s h=>⟨rfl,h⟩))
 start:=fun {depth it g} hg ha {R s} h0 h=>by
  have e0:((clausesOf (.ListComp elt gens scope pos))[depth]?).elim false (·.is_async !=0)=false:=by
   show (gens[depth]?).elim false (·.is_async !=0)=false
   rw [hg];show (g.is_async !=0)=false;rw [ha];rfl
  refine codeAny_of_tree ?_
  show wpAny _ _ ((compStart (.ListComp elt gens scope pos) depth it acc cenv).onRaise (fun x=>do noteFrame x cenv;standAt theWindowsPlace)) _ _ s
  refine wpAny_notedAt ?_;unfold compStart;simp only [e0,false_eq_true,if_false];refine wpAny_bind (wpAny_askSetting ?_)
  split
  ·exact wpAny_bind (wpAny_pure (wpAny_pure ⟨rfl,h0⟩))
  ·refine wpAny_bind (wpAny_rule ?_);have e1:(clausesOf (.ListComp elt gens scope pos))[depth]? =some g:=hg;simp only [e1];exact wpAny_bind (wpAny_standAt (wpAny_bind (wpAny_mono h (fun it' s' h'=>wpAny_pure ⟨rfl,h'⟩) fun z z h=>h.elim)))
theorem zkK{gens:List Comprehension}{D:Addr}:xW A (.DictComp kx vx gens scope pos) gens (.ref D) cenv (zfp A kx vx D cenv) where
 loop:=fun {depth it g} hg ha hn I R turn n s hI=>by
  refine codeAny_loop rfl I (fun n s hI=>?_) n hI
  show wpAny _ A ((compTurn (.DictComp kx vx gens scope pos) depth it (.ref D) cenv).onRaise (fun x=>do noteFrame x cenv;theTreesLotGoes x)) _ _ s
  refine wpAny_noted (zkJ hg ha hn ((turn n s hI).mono (fun hQ hE h=>wpAny_mono h (fun x s₁ h₁=>wpAny_mono h₁ (fun y s₂ h₂=>wpAny_mono h₂ (fun z s₃ h₃=>hQ _ _ h₃) hE) hE) hE) (fun z z h=>h.elim) (fun f s h=>h) fun s h=>⟨rfl,h⟩))
 start:=fun {depth it g} hg ha {R s} h0 h=>by
  have e0:((clausesOf (.DictComp kx vx gens scope pos))[depth]?).elim false (·.is_async !=0)=false:=by
   show (gens[depth]?).elim false (·.is_async !=0)=false
   rw [hg];show (g.is_async !=0)=false;rw [ha];rfl
  refine codeAny_of_tree ?_
  show wpAny _ _ ((compStart (.DictComp kx vx gens scope pos) depth it (.ref D) cenv).onRaise (fun x=>do noteFrame x cenv;standAt theWindowsPlace)) _ _ s
  refine wpAny_notedAt ?_;unfold compStart;simp only [e0,false_eq_true,if_false];refine wpAny_bind (wpAny_askSetting ?_)
  split
  ·exact wpAny_bind (wpAny_pure (wpAny_pure ⟨rfl,h0⟩))
  ·refine wpAny_bind (wpAny_rule ?_);have e1:(clausesOf (.DictComp kx vx gens scope pos))[depth]? =some g:=hg;simp only [e1];exact wpAny_bind (wpAny_standAt (wpAny_bind (wpAny_mono h (fun it' s' h'=>wpAny_pure ⟨rfl,h'⟩) fun z z h=>h.elim)))
end
end
variable {xs:List Str}
section
section
theorem zb.mono(x:zb X s s')(h:∀ b∈X,b∈W):zb W s s':=x.narrow fun b m=>.inl (h b m)
theorem zkX{f:α→Option (List β)}{a:α}{as:List α}{out:List β}(h:yc f (a::as)=some out):∃ bs rest,f a=some bs∧yc f as=some rest∧out=bs++rest:=by
 have h:((f a).bind fun b=>(yc f as).map (b++ ·))=some out:=h;exact X12 (Option.bind_eq_some_iff.mp h) fun b h1 h=>X12 (map_eq_some_iff.mp h) fun bs h2 h3=>⟨b,bs,h1,h2,h3.symm⟩
theorem zjI{f:α→Option (List β)}{l:List α}{i:Nat}{a:α}{out:List β}(ha:l[i]? =some a)(h:yc f (l.drop i)=some out):∃ bs rest,f a=some bs∧yc f (l.drop (i+1))=some rest∧out=bs++rest:=by
 have hi:=(List.getElem?_eq_some_iff.mp ha).1
 have e:l.drop i=a::l.drop (i+1):=by
  rw [List.drop_eq_getElem_cons hi];have:l[i]=a:=(List.getElem?_eq_some_iff.mp ha).2;rw [this]
 rw [e] at h;exact zkX h
theorem wu:∀ {elts:List Expr} {ds:List D} {σ:Sg},yL elts ds σ=some τ→∀ y,y∉zJ (.Tuple elts 0 default)→τ y=σ y
 |[],ds,σ,h,y,_=>by
  refine X02 (kG h) fun z e=>?_;exact e▸rfl
 |e::es,ds,σ,h,y,hy=>by
  refine yK h fun x pos d ds' e1 e2 h3=>?_;subst e1;exact (wu h3 y fun q=>hy (zp0 q)).trans (if_neg fun q:y=x=>hy (q▸zq9))
theorem zyq(h:j6 tgt d σ=some τ)(y:Str)(hy:y∉zJ tgt):τ y=σ y:=by
 refine pU h (fun x pos e1 e2=>?_) fun elts q pos ds e1 e2 h3=>?_
 ·subst e1 e2;exact if_neg fun q=>hy (mem_singleton.mpr q)
 ·subst e1;exact wu h3 y hy
structure zhM{β:Type}(D:Addr)(P:List β→List Addr→Heap→Prop):Prop where
 chg:∀ {out X h h'},P out X h→(∀ b o,(b∉X∨b=D)→(b≠P₀∧b≠cStatics)→h.get? b=some o→h'.get? b=some o)→P out X h'
 addX:∀ {out X X' h},P out X h→(∀ a∈X',a∈X∨h.objs.size≤a)→P out X' h
theorem qM{es:List Expr}(h:qp nmE es=some (x::xs)):∃ p es',es= .Name x p::es'∧qp nmE es'=some xs:=by
 cases es with
 |nil=>cases sj h
 |cons e es=>
  refine X23 (q7 h) fun b bs h1 h2 h3=>?_;injection h3 with h3 h4
  refine X11 (y3 h1) fun p q=>?_;exact ⟨p,es,by rw [q,h3],h4▸h2⟩
theorem vZ{es:List Expr}(h:qp nmE es=some []):es=[]:=by
 cases es with
 |nil=>rfl
 |cons e es=>
  refine X23 (q7 h) fun b bs h1 h2 h3=>?_;cases h3
theorem gQ{k:List D→Option β}{r:β}(h:zhF d k=some r)(f:∀ l,d= .tup l→k l=some r→M):M:=by
 cases d with
 |tup l=>exact f l rfl h
 |_=>exact zq h
theorem jg{l:List D}{k:D→List D→Option β}{r:β}(h:pop l k=some r)(f:∀ a l',l=a::l'→k a l'=some r→M):M:=by
 cases l with
 |nil=>exact zq h
 |cons a l=>exact f a l rfl h
theorem zqX{l:List D}{k:Option β}{r:β}(h:fin l k=some r):l=[]∧k=some r:=by
 cases l with
 |nil=>exact ⟨rfl,h⟩
 |cons a l=>exact zq h
theorem zkW{k:D→D→Option β}{r:β}(h:zv8 d k=some r)(f:∀ a b,d= .tup [a,b]→k a b=some r→M):M:=
 gQ h fun l e h=>jg h fun a l1 e1 h=>jg h fun b l2 e2 h=>X02 (zqX h) fun e3 h=>f a b (by rw [e,e1,e2,e3]) h
theorem zkV{k:D→D→D→Option β}{r:β}(h:zp2 d k=some r)(f:∀ a b c,d= .tup [a,b,c]→k a b c=some r→M):M:=
 gQ h fun l e h=>jg h fun a l1 e1 h=>jg h fun b l2 e2 h=>jg h fun c l3 e3 h=>X02 (zqX h) fun e4 h=>f a b c (by rw [e,e1,e2,e3,e4]) h
theorem zkU{k:D→D→D→D→D→Option β}{r:β}(h:zp3 d k=some r)(f:∀ a b c e g,d= .tup [a,b,c,e,g]→k a b c e g=some r→M):M:=
 gQ h fun l e h=>jg h fun a l1 e1 h=>jg h fun b l2 e2 h=>jg h fun c l3 e3 h=>jg h fun g l4 e4 h=>jg h fun i l5 e5 h=>X02 (zqX h) fun e6 h=>f a b c g i (by rw [e,e1,e2,e3,e4,e5,e6]) h
theorem pM{t:Expr}{k:Sg→Option β}{r:β}(h:zkl t d σ k=some r)(f:∀ σ',j6 t d σ=some σ'→k σ'=some r→M):M:=by
 cases t with
 |Name=>exact f _ rfl h
 |Tuple es n pos=>
  have h:zg7 (qp nmE es) d σ k=some r:=h;cases hm:qp nmE es with
  |none=>rw [hm] at h;exact zq h
  |some xs=>
   rw [hm] at h;cases xs with
   |nil=>exact zq h
   |cons x xs=>cases xs with
    |nil=>exact zq h
    |cons y xs=>
     refine X22 (qM hm) fun p1 es1 e1 hm=>?_;refine X22 (qM hm) fun p2 es2 e2 hm=>?_;rw [e1,e2] at f;clear e1 e2;cases xs with
     |nil=>exact zkW h fun a b e3 h=>f _ (by rw [vZ hm,e3];rfl) h
     |cons z xs=>
      refine X22 (qM hm) fun p3 es3 e3 hm=>?_;rw [e3] at f;clear e3;cases xs with
      |nil=>exact zkV h fun a b c e3 h=>f _ (by rw [vZ hm,e3];rfl) h
      |cons u xs=>cases xs with
       |nil=>exact zq h
       |cons v xs=>cases xs with
        |cons=>exact zq h
        |nil=>
         refine X22 (qM hm) fun p4 es4 e4 hm=>?_;refine X22 (qM hm) fun p5 es5 e5 hm=>?_;exact zkU h fun a b c e g e6 h=>f _ (by rw [e4,e5,vZ hm,e6];rfl) h
 |_=>exact zq h
theorem zkG(ih:k9 p){emit:Sc→Option (List β)}{rec:Sc→List D→Option (List β)}{g:Comprehension}{gs:List Comprehension}{bs:List β}(h:zv9 p emit rec g gs T d=some bs)
  (k0:∀ σ',j6 g.target d T.σ=some σ'→STs (T.at σ') g.ifs false→bs=[]→C)
  (k1:∀ σ',j6 g.target d T.σ=some σ'→STs (T.at σ') g.ifs true→gs=[]→emit (T.at σ')=some bs→C)
  (k2:∀ σ' g' gs' tp ds',j6 g.target d T.σ=some σ'→STs (T.at σ') g.ifs true→gs=g'::gs'→zdQ T.own g'.iter=false→SI (T.at σ') g'.iter tp ds'→¬ (tp=true∧wj g'.target=false)→rec (T.at σ') ds'=some bs→C):C:=
 pM h fun σ' e1 h=>zzZ ih h fun b e2 h=>by
  cases b with
  |false=>exact k0 σ' e1 e2 (sj h).symm
  |true=>cases gs with
   |nil=>exact k1 σ' e1 e2 rfl h
   |cons g' gs'=>exact iN h fun hn h=>(ih.i h).elim fun tp ds' h1 h=>iN h fun hn' h=>k2 σ' g' gs' tp ds' e1 e2 rfl (eq_false_of_ne_true fun q=>hn (.inl q)) h1 hn' h
structure GP(β:Type) where
 A:Around
 e:Expr
 gens:List Comprehension
 Da:Addr
 cenv:Env
 T:Sc
 emit:Sc→Option (List β)
 good:β→Prop
 P:List β→List Addr→Heap→Prop
 n₀:Nat
 Ws:List Addr
 emitW:(Unit→Shared→Prop)→(Value→Shared→Prop)→Shared→Prop
structure GL(β:Type) where
 σ:Sg
 ds:List D
 out:List β
 X:List Addr
 s:Shared
 acc0:List β
 fp:List Addr
 wr:List Addr
 St:Nat→Heap→Prop
section
variable (G:GP β) (l:GL β)
def GP.R(σ:Sg)(X:List Addr)(h:Heap):Prop:=zC (fun z a=>G.n₀≤a) G.cenv G.T.sc G.T.own σ X h
noncomputable def GP.pl(X:List Addr)(s:Shared):Pl:=⟨fun z a=>G.n₀≤a,G.cenv,X,s,G.A⟩
noncomputable def GP.Z(wr:List Addr):List Addr:=G.Da::G.Ws++wr
structure GP.Good:Prop where
 hA:kQ G.A G.T.C.lvl
 CO:jH G.T.C
 GG:kB
 CK:xW G.A G.e G.gens (.ref G.Da) G.cenv G.emitW
 AP:zhM G.Da G.P
 hemit:∀ {σ bs X s acc},G.emit (G.T.at σ)=some bs→(∀ b∈bs,G.good b)→acc.length+bs.length≤zz→Mine.Internal.Good (G.T.at σ) (G.pl X s)→G.Da∈X→G.P acc X s.heap→
   ∀ (Q:Unit→Shared→Prop),(∀ s',zb [G.Da] s s'→G.P (acc++bs) X s'.heap→Q () s')→G.emitW Q (fun z z=>False) s
 hL:G.cenv.locals∈G.Ws
 hWs:∀ a∈G.Ws,G.n₀≤a
 hD:G.n₀≤G.Da
 hDW:G.Da∉G.Ws
 hn₀:h₀.objs.size≤G.n₀
 htg:∀ g∈G.gens,∀ x∈zJ g.target,G.T.own.contains x=false∧∃ a,a∈G.Ws∧wx G.cenv G.T.sc x a
 hcells:∀ x c,(G.T.sc.names.lookup x=some .cell∨G.T.sc.names.lookup x=some .free)→G.cenv.cells.lookup x=some c→c∈G.Ws∨c<G.n₀
 hgs:∀ i g,G.gens[i+1]? =some g→g.is_async=0∧xt g.iter=false
structure GP.Lev:Prop where
 sub:∀ b∈l.wr,b∈l.fp
 hfp:∀ b∈l.fp,b∉G.Ws∧b≠G.Da
 hwr:∀ b∈l.wr,b∈l.X∧G.n₀≤b
 hWX:∀ a∈G.Ws,a∈l.X
 hDX:G.Da∈l.X
 K0:Ok l.X l.s
structure GP.At(f:D→Option (List β))(i:Nat)(pre out':List β)(s₁:Shared):Prop where
 hi:i≤l.ds.length
 fl:yc f (l.ds.drop i)=some out'
 acc:pre++out'=l.out
 st:l.St i s₁.heap
 r:G.R l.σ l.X s₁.heap
 pt:G.P (l.acc0++pre) l.X s₁.heap
 gr:zb (G.Z l.wr) l.s s₁
def GP.Inv(f:D→Option (List β))(n:Nat)(s₁:Shared):Prop:=∃ i pre out',n=l.ds.length - i∧G.At l f i pre out' s₁
end
section
variable {G:GP β} {l:GL β}
theorem GP.Lev.inZ(L:G.Lev l){b:Addr}{M:Addr→Prop}(m:b∈G.Z l.wr)(h1:M G.Da)(h2:∀ b∈G.Ws,M b)(h3:∀ b∈l.wr,M b):M b:=
 (mem_append.mp m).elim (fun m=>(mem_cons.mp m).elim (fun e=>e▸h1) (h2 b)) (h3 b)
theorem GP.Lev.hW0(L:G.Lev l)(H:G.Good):∀ b∈G.Z l.wr,h₀.objs.size≤b:=fun z m=>L.inZ m (le_trans H.hn₀ H.hD) (fun b m=>le_trans H.hn₀ (H.hWs b m)) fun b m=>le_trans H.hn₀ (L.hwr b m).2
theorem GP.Lev.ZX(L:G.Lev l):∀ b∈G.Z l.wr,b∈l.X:=fun z m=>L.inZ m L.hDX L.hWX fun b m=>(L.hwr b m).1
theorem GP.Lev.hcc(L:G.Lev l)(H:G.Good){Z:List Addr}(hz:∀ b∈Z,b∈G.Z l.wr):cc∉Z∧P₀∉Z∧cStatics∉Z:=
 have n:∀ {a:Addr},a<h₀.objs.size→a∉Z:=fun ha m=>absurd ha (not_lt.mpr (L.hW0 H _ (hz _ m)))
 ⟨n L.K0.ccs.1,n L.K0.ccs.2.2.2.1,n L.K0.ccs.2.2.2.2.1⟩
theorem GP.wrZ:∀ b∈l.wr,b∈G.Z l.wr:=fun z m=>mem_append_right _ m
theorem GP.WsZ:∀ b∈G.Ws,b∈G.Z l.wr:=fun z m=>mem_append_left _ (mem_cons_of_mem _ m)
theorem GP.DaZ:∀ b∈[G.Da],b∈G.Z l.wr:=fun z m=>mem_append_left _ (mem_singleton.mp m▸mem_cons_self ..)
theorem GP.Lev.kk(L:G.Lev l)(H:G.Good)(x:zb (G.Z l.wr) l.s s₁):Ok l.X s₁:=Ok.growW L.K0 x (L.hW0 H)
theorem GP.Lev.stepI(L:G.Lev l)(H:G.Good)(kk:∀ b o,b∉l.wr→s₁.heap.get? b=some o→h'.get? b=some o)(sz:s₁.heap.objs.size≤h'.objs.size):zb (G.Z l.wr) s₁ { s₁ with heap:=h',toks:=tk }:=
 have c:=L.hcc H GP.wrZ
 (zb.step (W:=l.wr) kk sz c.1 c.2.1 c.2.2).mono GP.wrZ
theorem GP.Lev.notCell(H:G.Good){Z:Addr→Prop}(h:∀ b,Z b→b∉G.Ws∧G.n₀≤b):∀ x c,(G.T.sc.names.lookup x=some .cell∨G.T.sc.names.lookup x=some .free)→G.cenv.cells.lookup x=some c→¬ Z c:=fun x c hx hc m=>
 (H.hcells x c hx hc).elim (h c m).1 fun q=>absurd q (not_lt.mpr (h c m).2)
theorem GP.Lev.envI(L:G.Lev l)(H:G.Good)(r:G.R σ l.X h)(kk:∀ b o,b∉l.wr→h.get? b=some o→h'.get? b=some o):G.R σ l.X h':=
 zC.chg r (Z:=fun b=>b∈l.wr) (fun b m=>(L.hwr b m).1) (fun z b m=>(L.hwr b m).2) (fun m=>(L.hfp _ (L.sub _ m)).1 H.hL) (notCell H fun b m=>⟨(L.hfp b (L.sub b m)).1,(L.hwr b m).2⟩) fun b o n z e=>kk b o n e
theorem GP.Lev.envD(L:G.Lev l)(H:G.Good)(r:G.R σ l.X h)(kk:∀ b o,b∉[G.Da]→(b≠P₀∧b≠cStatics)→h.get? b=some o→h'.get? b=some o):G.R σ l.X h':=
 zC.chg r (Z:=fun b=>b=G.Da) (fun b m=>m▸L.hDX) (fun z b m=>m▸H.hD) (fun q=>H.hDW (q▸H.hL)) (notCell H fun b m=>m▸⟨H.hDW,H.hD⟩) fun b o n ne e=>kk b o (fun q=>n (mem_singleton.mp q)) ne e
theorem GP.Lev.accI(L:G.Lev l)(H:G.Good){acc:List β}(q:G.P acc l.X h)(kk:∀ b o,b∉l.wr→h.get? b=some o→h'.get? b=some o):G.P acc l.X h':=
 H.AP.chg q fun b o n z e=>kk b o (fun m=>n.elim (fun n=>n (L.hwr b m).1) fun n=>(L.hfp b (L.sub b m)).2 n) e
theorem GP.Lev.accW(L:G.Lev l)(H:G.Good){acc:List β}(q:G.P acc l.X s.heap)(g:zb G.Ws s s'):G.P acc l.X s'.heap:=
 H.AP.chg q fun b o n ne e=>zb.keep g b o (fun m=>n.elim (fun n=>n (L.hWX b m)) fun n=>H.hDW (n▸m)) ne e
theorem GP.At.next{f:D→Option (List β)}{i:Nat}{pre out' bs rest:List β}(T:G.At l f i pre out' s₁)(hlt:i<l.ds.length)(hfl:yc f (l.ds.drop (i+1))=some rest)(ho:out'=bs++rest)
  (st:l.St (i+1) s'.heap)(r:G.R l.σ l.X s'.heap)(q:G.P ((l.acc0++pre)++bs) l.X s'.heap)(g:zb (G.Z l.wr) l.s s'):∃ m,m<l.ds.length - i∧G.Inv l f m s':=
 ⟨_,Nat.sub_lt_sub_left hlt (lt_succ_self i),i+1,pre++bs,rest,rfl,hlt,hfl,(append_assoc ..).trans (ho▸T.acc),st,r,append_assoc l.acc0 pre bs▸q,g⟩
theorem kH(hb:j6 tgt d σ=some τ)(hn:((zJ tgt).all fun x=>(σ x).isNone)=true):∀ x d,σ x=some d→τ x=some d:=fun x d hx=>
 (zyq hb x fun m=>by have:=all_eq_true.mp hn x m;rw [hx] at this;cases this).trans hx
theorem vJ(h:wj tgt=true):∃ elts k pos,tgt= .Tuple elts k pos:=by
 cases tgt with
 |Tuple a b c=>exact ⟨a,b,c,rfl⟩
 |_=>exact yy h
theorem zgJ{c:Bool}(h:¬ (b=true∧c=false))(q:b=true):c=true:=by
 cases c with
 |true=>rfl
 |false=>exact absurd ⟨q,rfl⟩ h
theorem GP.Good.at(H:G.Good)(r:G.R σ X s.heap)(K:Ok X s):Mine.Internal.Good (G.T.at σ) (G.pl X s):=⟨r,K,H.hA,H.CO,H.GG⟩
theorem zpU(ih:k9 p)(H:G.Good):
  ∀ (gs:List Comprehension) (depth:Nat),G.gens.drop depth=gs→∀ {l:GL β},zjT p G.emit gs (G.T.at l.σ) l.ds=some l.out→(∀ b∈l.out,G.good b)→
  ∀ {Xs:List Addr} {I:Addr} {lo:Nat} {h₂:Heap} {t tp:Bool} {Mid:Nat→Value→Heap→Prop},l.acc0.length+l.out.length≤zz→
   Src G.A lo h₂ Xs t tp I l.ds l.fp l.wr l.St Mid→(∀ g,gs.head? =some g→tp=true→wj g.target=true)→(∀ a∈l.X,a∈Xs∨lo≤a)→G.Lev l→
   G.R l.σ l.X l.s.heap→G.P l.acc0 l.X l.s.heap→l.St 0 l.s.heap→(∀ a o,a∉l.X→h₂.get? a=some o→l.s.heap.get? a=some o)→
   ∀ (R:Result→Shared→Prop),(∀ s',zb (G.Z l.wr) l.s s'→G.R l.σ l.X s'.heap→G.P (l.acc0++l.out) l.X s'.heap→R (.ok .next) s')→
   codeAny (model prog w) G.A (.compLoop G.e depth (.ref I) (.ref G.Da) G.cenv) R l.s:=by
 intro gs
 induction gs with
 |nil=>intro depth z l h;exact zq h
 |cons g gs IH=>
  intro depth hdrop l hgo hgood Xs I lo h₂ t tp Mid hlen S htp hXs L R0 hP hst hfr RR hRR
  have hg:G.gens[depth]? =some g:=by
   have:(G.gens.drop depth)[0]? =some g:=by rw [hdrop];rfl
   simpa using this
  have hnext:G.gens[depth+1]? =gs.head? :=by
   have:(G.gens.drop depth)[1]? =gs.head? :=by rw [hdrop];cases gs<;>rfl
   rw [←this];simp
  replace hgo:(if ((zJ g.target).all fun x=>(l.σ x).isNone)=true∧g.is_async=0 then yc (zv9 p G.emit (fun T ds=>zjT p G.emit gs T ds) g gs (G.T.at l.σ)) l.ds else none)=some l.out:=hgo
  refine X02 (zk hgo) fun hcond hgo=>?_;generalize hf:zv9 p G.emit (fun T ds=>zjT p G.emit gs T ds) g gs (G.T.at l.σ)=f at hgo;refine H.CK.loop hg hcond.2 (fun g' hg'=>H.hgs depth g' hg') (G.Inv l f) RR ?_ (l.ds.length - 0) l.s ⟨0,[],l.out,rfl,zero_le _,hgo,rfl,hst,R0,(append_nil l.acc0).symm▸hP,zb.refl ..⟩;intro n s₁ hI
  (refine X32 hI fun i pre out' hn T=>?_;try clear hI)
  subst hn;rcases lt_or_ge i l.ds.length with hlt|hge
  ·have hdi:l.ds[i]? =some l.ds[i]:=getElem?_eq_getElem hlt;generalize l.ds[i]=d at hdi;refine X23 (zjI hdi T.fl) fun bs rest hfd hfl ho=>?_;refine qg (S.item i s₁ d _ _ hdi T.st fun v h' tk hrep hmid kk sz=>?_)
   replace sz:s₁.heap.objs.size≤h'.objs.size:=sz
   have K1:=L.kk H T.gr
   have rv:Rep h' l.X false v d:=hrep l.X K1.x.mem.1 K1.x.mem.2 (fun a m=>⟨K1.x.lt a m,hXs a m⟩) fun a o n e=>
    kk a o (fun m=>n (L.hwr a m).1) (zb.keep T.gr a o (fun m=>n (L.ZX a m)) ⟨fun q=>n (q▸K1.x.mem.1),fun q=>n (q▸K1.x.mem.2)⟩ (hfr a o n e))
   refine qg (S.go g.target i v _ _ _ (fun q=>vJ (htp g rfl q)) hmid fun h'' tk' hst₂ kk' sz'=>?_)
   replace sz':h'.objs.size≤h''.objs.size:=sz'
   have G3:zb (G.Z l.wr) l.s { s₁ with heap:=h'',toks:=tk' }:=(zb.trans T.gr (L.stepI H (tk:=tk) kk sz)).trans (L.stepI H (s₁:={ s₁ with heap:=h',toks:=tk }) kk' sz')
   have T5:∀ {σ' b},j6 g.target d l.σ=some σ'→STs (G.T.at σ') g.ifs b→∀ {Q:Bool→Shared→Prop} {E:Value→Shared→Prop},
     (∀ s₅,G.R σ' l.X s₅.heap→Ok l.X s₅→zb (G.Z l.wr) l.s s₅→l.St (i+1) s₅.heap→G.P (l.acc0++pre) l.X s₅.heap→Q b s₅)→
     wpAny (model prog w) G.A (assign g.target G.cenv v) (fun z s₃=>wpAny (model prog w) G.A (wv G.cenv g.ifs) Q E s₃) E { s₁ with heap:=h'',toks:=tk' }:=fun {σ' b} hb hall {Q E} hQ=>by
    have rv3:Rep h'' l.X false v d:=Rep.upd (fun a o n e=>kk' a o (fun m=>n (L.hwr a m).1) e) rv;have hmem:g∈G.gens:=mem_of_getElem? hg
    refine zzQ (W:=G.Ws) (K:=L.kk H G3) (X:=l.X) H.hA.hand hb rv3 (L.envI H (L.envI H T.r kk) kk') (L.hWX _ H.hL) (fun x hx q=>by rw [(H.htg g hmem x hx).1] at q;cases q) (L.hcc H GP.WsZ) (fun x hx=>
     have ⟨_,a,h1,h2⟩:=H.htg g hmem x hx
     ⟨a,L.hWX a h1,h1,h2⟩) _ _ fun s₄ R4 G4=>?_
    have G04:zb (G.Z l.wr) l.s s₄:=zb.trans G3 (G4.mono GP.WsZ);have st4:l.St (i+1) s₄.heap:=S.frame _ _ _ hst₂ fun b m o e=>G4.keep b o (L.hfp b m).1 (S.ne b m) e;refine hall (G.pl l.X s₄) (H.at R4 (L.kk H G04)) _ _ fun s₅ G5=>?_;exact hQ s₅ (R4.grow G5) (Ok.grow (L.kk H G04) G5) (zb.trans G04 (G5.toW _)) (S.frame _ _ _ st4 fun b m o e=>G5.keep b o (S.ne b m) e) (H.AP.chg (L.accW H (L.accI H (L.accI H T.pt kk) kk') G4) fun b o z ne e=>G5.keep b o ne e)
   have hgb:∀ b∈bs,G.good b:=fun b m=>hgood b (T.acc▸mem_append_right _ (ho▸mem_append_left _ m))
   have hlen':(l.acc0++pre).length+bs.length≤zz:=by
    have:=congrArg List.length T.acc;rw [ho] at this;simp only [length_append] at this ⊢;lia
   rw [←hf] at hfd;refine zkG ih hfd (fun σ' hb hall e=>?_) (fun σ' hb hall e h=>?_) (fun σ' g' gs' tp' ds' hb hall e hown hi2 htp' h=>?_)
   ·subst e;exact T5 hb hall fun s₅ R5 K5 G5 st5 P5=>T.next hlt hfl ho st5 (zC.weak R5 (kH hb hcond.1)) ((append_nil (l.acc0++pre)).symm▸P5) G5
   ·refine T5 hb hall fun s₅ R5 K5 G5 st5 P5=>?_;rw [if_pos rfl,hnext,e,List.head?_nil]
    exact H.hemit h hgb hlen' (H.at R5 K5) L.hDX P5 _ fun s₆ G6 P6=>T.next hlt hfl ho (S.frame _ _ _ st5 fun b m o e=>zb.keep G6 b o (fun q=>(L.hfp b m).2 (mem_singleton.mp q)) (S.ne b m) e)
     (zC.weak (L.envD H R5 fun b o n ne e=>zb.keep G6 b o n ne e) (kH hb hcond.1)) P6 (zb.trans G5 (zb.mono G6 GP.DaZ))
   ·refine T5 hb hall fun s₅ R5 K5 G5 st5 P5=>?_;have hg2:G.gens[depth+1]? =some g':=by rw [hnext,e];rfl
    rw [if_pos rfl,hg2];refine hi2 (G.pl l.X s₅) (H.at R5 K5) _ _ fun x s₆ G6 it=>it _ _ fun I₂ s₇ lo₂ fp₂ wr₂ St₂ Mid₂ G7 hlo₂ S₂=>wpAny_runOwn ?_;have G57:=G6.trans G7;have hn5:G.n₀≤s₅.heap.objs.size:=le_trans H.hD (le_of_lt (K5.x.lt _ L.hDX));have hx:∀ a∈wr₂++l.X,a∈l.X∨s₅.heap.objs.size≤a:=fun a m=>(mem_append.mp m).elim (fun m=>.inr (le_trans hlo₂ (S₂.new a m))) .inl
    have L2:G.Lev ⟨σ',ds',bs,wr₂++l.X,s₇,l.acc0++pre,fp₂,wr₂,St₂⟩:=⟨S₂.sub,fun b m=>⟨fun q=>S₂.out hown b m (L.hWX b q),fun q=>S₂.out hown b m (q▸L.hDX)⟩,
     fun b m=>⟨mem_append_left _ m,le_trans hn5 (le_trans hlo₂ (S₂.new b m))⟩,fun a m=>mem_append_right _ (L.hWX a m),mem_append_right _ L.hDX,
     Ok.addX K5 (fun a m=>mem_append_right _ m) hx (fun a m=>(mem_append.mp m).elim (fun m=>S₂.lt a (S₂.sub a m)) fun m=>lt_of_lt_of_le (K5.x.lt a m) G57.size) G57⟩
    have loop2:=IH (depth+1) (by rw [←List.tail_drop,hdrop];rfl) (l:=⟨σ',ds',bs,wr₂++l.X,s₇,l.acc0++pre,fp₂,wr₂,St₂⟩) h hgb hlen' S₂
     (fun g'' hg'' q=>by
      rw [e] at hg'';cases hg'';exact zgJ htp' q)
     (fun a m=>(mem_append.mp m).elim (fun m=>.inr (S₂.new a m)) .inl) L2
     ((zC.addX R5 hx).grow G57) (H.AP.chg (H.AP.addX P5 hx) fun b o z ne e=>G57.keep b o ne e) S₂.start (fun z z z e=>e)
     (fun (r:Result) s₈=>match r with| .error z=>False| .ok z=>∃ m,m<l.ds.length - i∧G.Inv l f m s₈)
     (fun s₈ G8 R8 P8=>by
      have G58:zb (G.Da::G.Ws) s₅ s₈:=((G57.toW _).trans G8).narrow fun b m=>(mem_append.mp m).elim .inl fun m=>.inr (le_trans hlo₂ (S₂.new b m))
      refine T.next hlt hfl ho (S.frame _ _ _ st5 fun b m o e=>G58.keep b o (fun q=>(mem_cons.mp q).elim (L.hfp b m).2 (L.hfp b m).1) (S.ne b m) e)
       (zC.weak (zC.subX R8 fun a m=>mem_append_right _ m) (kH hb hcond.1)) ?_ (zb.trans G5 (G58.mono fun b m=>mem_append_left _ m))
      exact H.AP.addX P8 (X':=l.X) fun a m=>.inl (mem_append_right _ m))
    refine codeAny_mono (H.CK.start hg2 (H.hgs depth g' hg2).1 loop2 (S₂.self 0 s₇ _ _ S₂.start loop2)) fun r s₈ h=>?_;cases r with
    |ok f=>exact h
    |error e=>exact h.elim
  ·have hi':i=l.ds.length:=Nat.le_antisymm T.hi hge;subst hi';have hout:out'=[]:=(sj ((congrArg (yc f) (List.drop_length (l:=l.ds))).symm.trans T.fl)).symm;subst hout;refine qg (S.done s₁ _ _ T.st fun h' tk kk sz=>?_)
   replace sz:s₁.heap.objs.size≤h'.objs.size:=sz
   exact hRR _ (zb.trans T.gr (L.stepI H kk sz)) (L.envI H T.r kk) (((append_nil pre).symm.trans T.acc)▸L.accI H T.pt kk)
end
end
end
section
section
variable {Y:Pl}
theorem zC.raise(R:zC V env sc own σ X s.heap):zC (fun x a=>V x a∨s.heap.objs.size≤a) env sc own σ X s.heap where
 scp:=R.scp
 cod:=R.cod
 kind:=R.kind
 glob:=R.glob
 bi:=R.bi
 ne:=R.ne
 locV:=fun x=>.inl (R.locV x)
 inj:=R.inj
 loc:=by
  refine X12 R.loc fun m hn hm=>?_;exact ⟨m,hn,fun x d hx hd=>X12 (hm x d hx hd) fun v hv y=>⟨v,hv,y.1,fun q a m h=>h.elim (y.2 q a m) fun l=>absurd (v9 y.1 a m) (not_lt.mpr l)⟩⟩
 cell:=fun x hx=>by
  refine X14 (R.cell x hx) fun c hc ne hv₀ hd=>?_;exact ⟨c,hc,ne,hv₀,fun d h=>X12 (hd d h) fun v h1 y=>⟨v,h1,y.1,fun q a m h=>h.elim (y.2 q a m) fun l=>absurd (v9 y.1 a m) (not_lt.mpr l)⟩⟩
theorem zkP(ih:k9 p){emit:Sc→Option (List β)}{gens:List Comprehension}{out:List β}(h:vj p T scope gens emit=some out)
  (k:∀ g gs tp ds,gens=g::gs→(v4 scope T.sc=true∧xt g.iter=false∧pG scope gens=true)→SI T g.iter tp ds→¬ (tp=true∧wj g.target=false)→g.is_async=0→zjT p emit gens (T.inner scope) ds=some out→M):M:=by
 cases gens with
 |nil=>exact zq h
 |cons g gs=>exact iE h fun hc h=>(ih.i h).elim fun tp ds h1 h=>iN h fun hn h=>k g gs tp ds rfl hc h1 hn (zk h).1.2 h
structure zdZ(Y:Pl)(Da Cl:Addr)(s':Shared):Prop where
 g:Grow Y.s s'
 d1:Y.s.heap.objs.size≤Da
 d2:Da<s'.heap.objs.size
 c1:Y.s.heap.objs.size≤Cl
 c2:Cl<s'.heap.objs.size
 ne:Cl≠Da
 ns:∃ m,s'.heap.Ns Cl m
theorem vY(ih:k9 p){gens:List Comprehension}{newAcc:Sem Value}{accO:Obj}{emitW:Addr→Env→(Unit→Shared→Prop)→(Value→Shared→Prop)→Shared→Prop}
  (hcl:clausesOf e=gens)(hnew:∀ {s:Shared} {Q:Value→Shared→Prop} {E:Value→Shared→Prop},Q (.ref s.heap.objs.size) { s with heap:=s.heap.push accO }→wpAny (model prog w) Y.A newAcc Q E s)
  (CK:∀ Da cenv,xW Y.A e gens (.ref Da) cenv (emitW Da cenv))(emit:Sc→Option (List β))(good:β→Prop)(P:Addr→List β→List Addr→Heap→Prop)(AP:∀ Da,zhM Da (P Da))
  (hP0:∀ {h:Heap} {X},(h.objs.size≠P₀∧h.objs.size≠cStatics)→P h.objs.size [] X (h.push accO))
  (hemit:∀ {Da:Addr} {T':Sc} {Y':Pl} {bs acc},Y'.A=Y.A→emit T'=some bs→(∀ b∈bs,good b)→acc.length+bs.length≤zz→Good T' Y'→Da∈Y'.X→h₀.objs.size≤Da→P Da acc Y'.X Y'.s.heap→
   ∀ (Q:Unit→Shared→Prop),(∀ s',zb [Da] Y'.s s'→P Da (acc++bs) Y'.X s'.heap→Q () s')→emitW Da Y'.env Q (fun z z=>False) Y'.s)
  {out:List β}(h:vj p T scope gens emit=some out)(hlen:out.length≤zz)(hgood:∀ b∈out,good b)(G:Good T Y)(use:Option (Value→Sem Unit))(Q:Value→Shared→Prop)(E:Value→Shared→Prop)
  (hQ:∀ Da Cl s',zdZ Y Da Cl s'→P Da out (Da::Cl::Y.X) s'.heap→compPost (model prog w) Y.A E use Q (.ref Da) Cl (.ok .next) s'):
  wpAny (model prog w) Y.A (comprehension e scope Y.env pos newAcc (firstAsync gens) (firstIter gens Y.env) use) Q E Y.s:=by
 refine zkP ih h fun g gs tp ds eg hcond hi htp has hgo=>?_;have R:=G.R;have K:=G.K;subst eg
 (refine X03 hcond fun hco hset htok=>?_;try clear hcond)
 have hkk:=kF hco;have hkind:=hkk.1;have hall:=hkk.2
 have hfa:firstAsync (g::gs)=false:=by
  obtain ⟨a,b,c,d⟩:=g
  show (d !=0)=false
  have:d=0:=has;rw [this];rfl
 have hfi:firstIter (g::gs) Y.env=eval g.iter Y.env:=by obtain ⟨a,b,c,d⟩:=g;rfl
 rw [hfa,hfi];have hn₀:h₀.objs.size≤Y.s.heap.objs.size:=K.sz
 refine wpAny_comprehension_free (use:=use) hcl (xX hset Y.env) (ge fun n m=>by
   refine X12 (R.cell n ((hall n _ m).2 rfl)) fun c hc z=>?_;exact ⟨c,hc⟩) hkind (fun x m q=>by have:=(hall x.1 x.2 m).1;rw [q] at this;exact this) ?_
 refine hi Y G _ _ fun xv s₁ G1 it=>it _ _ fun I s₂ lo fp wr St Mid G2 hlo S=>hnew ?_;have gp:Grow s₂ { s₂ with heap:=s₂.heap.push accO }:=Grow.push ..;have G3:=(G1.trans G2).trans gp;have hlo2:lo≤s₂.heap.objs.size:=le_of_lt (lt_of_le_of_lt (S.new _ S.iw) (S.lt _ (S.sub _ S.iw)));have hDs:Y.s.heap.objs.size≤s₂.heap.objs.size:=(G1.trans G2).size
 have hx:∀ a∈wr++s₂.heap.objs.size::Y.X,a∈Y.X∨Y.s.heap.objs.size≤a:=fun a m=>by
  rcases mem_append.mp m with m|m
  ·exact .inr (le_trans hlo (S.new a m))
  ·rcases mem_cons.mp m with rfl|m
   ·exact .inr hDs
   ·exact .inl m
 have sz3:(s₂.heap.push accO).objs.size=s₂.heap.objs.size+1:=size_push ..
 have K3:Ok (wr++s₂.heap.objs.size::Y.X) { s₂ with heap:=s₂.heap.push accO }:=K.addX (fun a m=>mem_append_right _ (mem_cons_of_mem _ m)) hx (fun a m=>by
  show a<(s₂.heap.push accO).objs.size
  rw [sz3];rcases mem_append.mp m with m|m
  ·exact lt_succ_of_lt (S.lt a (S.sub a m))
  ·rcases mem_cons.mp m with rfl|m
   ·exact lt_succ_self _
   ·exact lt_succ_of_lt (lt_of_lt_of_le (K.x.lt a m) (G1.trans G2).size)) G3
 have R3:=(zC.addX R.raise hx).grow G3;refine zjE (n₀:=Y.s.heap.objs.size) R3 K3 hco G3.size (fun z a h=>.inr h) _ _ fun cenv s₄ ws G4 hLw hws hown hold R4=>?_;have hlt:=K.lts;have hWs:∀ a∈ws,Y.s.heap.objs.size≤a:=fun a m=>le_trans G3.size (hws a m).1
 have hDw:s₂.heap.objs.size∉ws:=fun m=>by
  have:=(hws _ m).1;have e2:({ s₂ with heap:=s₂.heap.push accO }:Shared).heap.objs.size=s₂.heap.objs.size+1:=sz3;rw [e2] at this;exact lt_irrefl _ this
 have K4:Ok (ws++(wr++s₂.heap.objs.size::Y.X)) s₄:=K3.addX (fun a m=>mem_append_right _ m) (fun a m=>by
  rcases mem_append.mp m with m|m
  ·exact .inr (hws a m).1
  ·exact .inl m) (fun a m=>by
  rcases mem_append.mp m with m|m
  ·exact (hws a m).2
  ·exact lt_of_lt_of_le (K3.x.lt a m) G4.size) G4
 have hDX:s₂.heap.objs.size∈ws++(wr++s₂.heap.objs.size::Y.X):=mem_append_right _ (mem_append_right _ (mem_cons_self ..))
 have hfpl:∀ b∈fp,b∉ws∧b≠s₂.heap.objs.size:=fun b m=>by
  have hb:=S.lt b m;refine ⟨fun q=>?_,ne_of_lt hb⟩;have:=(hws b q).1;have e2:({ s₂ with heap:=s₂.heap.push accO }:Shared).heap.objs.size=s₂.heap.objs.size+1:=sz3;rw [e2] at this;exact absurd hb (not_lt.mpr (le_of_succ_le this))
 have G34:=gp.trans G4;have hstart:St 0 s₄.heap:=S.frame _ _ _ S.start fun b m o e=>G34.keep b o (S.ne b m) e
 let GG:GP β:=⟨Y.A,e,g::gs,s₂.heap.objs.size,{ cenv with scope:=relabel scope Y.env },T.inner scope,emit,good,P s₂.heap.objs.size,Y.s.heap.objs.size,ws,emitW s₂.heap.objs.size { cenv with scope:=relabel scope Y.env }⟩
 have HG:GG.Good:=⟨G.hA,G.CO,G.G,CK s₂.heap.objs.size _,AP _,fun h1 h2 h3 h4 h6 h7 Q' hQ'=>hemit (Y':=GP.pl GG _ _) rfl h1 h2 h3 h4 h6 (le_trans hn₀ hDs) h7 Q' hQ',hLw,hWs,hDs,hDw,hn₀,
  fun g' hg' x hxm=>by
   have hx0:=all_eq_true.mp htok g' hg';simp only [and_eq_true] at hx0;have hx':=all_eq_true.mp hx0.2 x hxm;simp only [or_eq_true,beq_iff_eq] at hx';refine ⟨?_,?_⟩
   ·rw [Bool.eq_false_iff];intro q
    replace q:(T.own.filter (qQ scope)).contains x=true:=q
    have q':x∈T.own.filter (qQ scope):=by simpa using q
    have:=(mem_filter.mp q').2;simp only [qQ,beq_iff_eq] at this;rw [this] at hx';rcases hx' with hx'|hx'<;>cases hx'
   ·rcases hx' with hx'|hx'
    ·exact ⟨_,hLw,.inl ⟨(q8 (scope:=scope) (sc:=T.sc) x).trans ((congrArg (Option.map _) hx').trans rfl),rfl⟩⟩
    ·refine X12 (hown x hx') fun c hc hcl'=>?_;exact ⟨c,hc,.inr ⟨(q8 (scope:=scope) (sc:=T.sc) x).trans ((congrArg (Option.map _) hx').trans rfl),hcl'⟩⟩,
  fun x c hxk hxc=>by
   rcases hold x c hxc with h|⟨h1,h2⟩
   ·exact .inl h
   ·right;obtain ⟨c',hc',_,⟨v₀,o,ho,_⟩,_⟩:=R.cell x ((hall x _ h1).2 rfl);rw [h2] at hc';cases hc';exact lt_size ho,
  fun i g' hg'=>by
   have:=all_eq_true.mp htok g' (mem_of_getElem? hg');simp only [and_eq_true,beq_iff_eq,not_eq_true'] at this;exact this.1⟩
 have loop:=zpU ih HG (g::gs) 0 rfl (l:=⟨fun x=>if qQ scope x=true then T.σ x else none,ds,out,ws++(wr++s₂.heap.objs.size::Y.X),s₄,[],fp,wr,St⟩) hgo hgood (by simpa using hlen) S
  (fun g' hg' q=>by cases hg';cases q2:wj g.target with|true=>rfl|false=>exact absurd ⟨q,q2⟩ htp)
  (fun a m=>by
   rcases mem_append.mp m with m|m
   ·exact .inr (le_trans hlo2 (le_trans (le_of_lt (by show _<({ s₂ with heap:=s₂.heap.push accO }:Shared).heap.objs.size;rw [show ({ s₂ with heap:=s₂.heap.push accO }:Shared).heap.objs.size=s₂.heap.objs.size+1 from sz3];exact lt_succ_self _)) (hws a m).1))
   ·rcases mem_append.mp m with m|m
    ·exact .inr (S.new a m)
    ·rcases mem_cons.mp m with rfl|m
     ·exact .inr hlo2
     ·exact .inl m)
  ⟨S.sub,hfpl,fun b m=>⟨mem_append_right _ (mem_append_left _ m),le_trans hlo (S.new b m)⟩,fun a m=>mem_append_left _ m,hDX,K4⟩
  R4 ((AP _).chg (hP0 ⟨(ne_of_lt (lt_of_lt_of_le hlt.2.1 hDs)).symm,(ne_of_lt (lt_of_lt_of_le hlt.2.2 hDs)).symm⟩) fun b o z ne e=>G4.keep b o ne e) hstart (fun a o n e=>G34.keep a o ⟨fun q=>n (q▸K4.x.mem.1),fun q=>n (q▸K4.x.mem.2)⟩ e)
  (compPost (model prog w) Y.A E use Q (.ref s₂.heap.objs.size) cenv.locals)
 suffices hfin:_ by exact (let loop:=loop hfin;(CK _ _).start (show (g::gs)[0]? =some g from rfl) has loop (S.self 0 s₄ _ _ hstart loop))
 intro s₅ G5 R5 P5;refine X12 (zC.loc R5) fun m hn z=>?_;have hLX:cenv.locals∈ws++(wr++s₂.heap.objs.size::Y.X):=mem_append_left _ hLw;have hLD:cenv.locals≠s₂.heap.objs.size:=fun q=>hDw (q▸hLw)
 have P7:P s₂.heap.objs.size out (s₂.heap.objs.size::cenv.locals::Y.X) s₅.heap:=(AP _).addX (by simpa using P5) fun a m=>.inl (by
  rcases mem_cons.mp m with rfl|m
  ·exact hDX
  ·rcases mem_cons.mp m with rfl|m
   ·exact hLX
   ·exact mem_append_right _ (mem_append_right _ (mem_cons_of_mem _ m)))
 have G05:Grow Y.s s₅:=(((G3.trans G4).toW _).trans (show zb _ _ _ from G5)).toGrow fun b m=>by
  rcases mem_append.mp m with m|m
  ·rcases mem_cons.mp m with rfl|m
   ·exact hDs
   ·exact hWs b m
  ·exact le_trans hlo (S.new b m)
 refine hQ _ _ _ ⟨G05,hDs,?_,hWs _ hLw,lt_of_lt_of_le (hws _ hLw).2 (zb.size G5),hLD,⟨m,hn⟩⟩ P7
 have:s₂.heap.objs.size+1≤s₄.heap.objs.size:=by
  have:=G4.size;have e2:({ s₂ with heap:=s₂.heap.push accO }:Shared).heap.objs.size=s₂.heap.objs.size+1:=sz3
  rwa [e2] at this
 exact lt_of_lt_of_le this (zb.size G5)
end
end
section
section
variable {Y:Pl}
theorem yI{K:Type}[DecidableEq K]:∀ (xs ds:List (K × D)) (k:K) (d:D),zD ds (xs++[(k,d)])=qc (zD ds xs) k d
 |[],_,_,_=>rfl
 |(_,_)::xs,ds,k,d=>yI xs _ k d
theorem zqW{K:Type}[DecidableEq K](ds:List (K × D))(k:K)(d:D):(qc ds k d).length≤ds.length+1:=by unfold qc;split<;>simp
theorem kq{K:Type}[DecidableEq K]:∀ (xs ds:List (K × D)),(zD ds xs).length≤ds.length+xs.length
 |[],_=>le_refl _
 |(k,d)::xs,ds=>by
  show (zD (qc ds k d) xs).length≤ds.length+(xs.length+1)
  have:=kq xs (qc ds k d);have:=zqW ds k d;lia
theorem wg{α β:Type}{f:α→Option β}:∀ {as:List α} {bs:List β} {a:α} {b:β},qp f as=some bs→f a=some b→qp f (as++[a])=some (bs++[b])
 |[],_,_,_,h,h'=>sj h▸jF h' rfl
 |x::as,bs,a,b,h,h'=>X23 (q7 h) fun b0 bs0 q1 q2 e=>e▸jF q1 (wg q2 h')
theorem zzJ{α β:Type}{f:α→Option β}:∀ {as:List α} {bs:List β},qp f as=some bs→∀ a∈as,∃ b,f a=some b
 |[],_,_,_,m=>nomatch m
 |x::as,bs,h,a,m=>X23 (q7 h) fun b bs q1 q2 z=>(mem_cons.mp m).elim (fun e=>⟨b,e▸q1⟩) (zzJ q2 a)
theorem zgY{Da:Addr}(K:Ok X s)(hD:h₀.objs.size≤Da)(kk:∀ b o,b≠Da→s.heap.get? b=some o→h'.get? b=some o)(sz:s.heap.objs.size≤h'.objs.size):zb [Da] s { s with heap:=h',toks:=tk }:=
 have hh:∀ {a:Addr},a<h₀.objs.size→a∉[Da]:=fun ha m=>absurd (mem_singleton.mp m▸ha) (not_lt.mpr hD)
 zb.step (fun b o n e=>kk b o (fun q=>n (mem_singleton.mpr q)) e) sz (hh K.ccs.1) (hh K.ccs.2.2.2.1) (hh K.ccs.2.2.2.2.1)
theorem zzY{l:List α}{a:α}(h:l.length+[a].length≤zz):l.length≤zz:=le_of_succ_le h
def zmy(Da:Addr)(out:List D)(X:List Addr)(h:Heap):Prop:=(Da≠P₀∧Da≠cStatics)∧∃ vs n,h.get? Da=some { cls:=.type "list",data:=.seq vs n }∧zu h X vs.toList out
theorem znC(Da:Addr):zhM Da (zmy Da):=
 ⟨fun q kk=>X02 q fun ne q=>X22 q fun vs n ho rl=>⟨ne,vs,n,kk _ _ (.inr rfl) ne ho,zu.move ⟨fun a o ne n e=>kk a o (.inl n) ne e,fun z z n z=>n⟩ rl⟩,
  fun q hx=>X02 q fun ne q=>X22 q fun vs n ho rl=>⟨ne,vs,n,ho,rl.addX hx⟩⟩
theorem zfb(ih:k9 p){gens:List Comprehension}{out:List D}(h:vj p T scope gens (fun T=>if qY T.own elt=true then none else p.e T elt fun d=>some [d])=some out)(hlen:out.length≤zz)(G:Good T Y)
  (use:Option (Value→Sem Unit))(pos':Pos)(Q:Value→Shared→Prop)(E:Value→Shared→Prop)(hQ:∀ Da Cl s',zdZ Y Da Cl s'→Rep s'.heap (Da::Cl::Y.X) true (.ref Da) (.list out)→compPost (model prog w) Y.A E use Q (.ref Da) Cl (.ok .next) s'):
  wpAny (model prog w) Y.A (comprehension (.ListComp elt gens scope pos) scope Y.env pos' (newList []) (firstAsync gens) (firstIter gens Y.env) use) Q E Y.s:=
 vY ih (newAcc:=newList []) (accO:={ cls:=.type "list",data:=.seq #[] }) (gens:=gens) rfl (fun q=>wpAny_newList q (zero_le _)) (fun Da cenv=>zkY) (emitW:=fun Da cenv=>zfg Y.A elt (.ref Da) cenv) _ (fun z=>True) zmy znC (fun hne=>⟨hne, #[],0,get?_push_size _ rfl,.nil⟩)
  (fun {Da T' Y' bs acc} hA hem z hl G hDX hD0 hp Q hQ=>iN hem fun ho hem=>(ih.e hem).elim fun d h1 e=>X02 hp fun hne q=>X22 q fun vs n hl' rl=>by
   show wpAny _ Y.A (eval elt Y'.env) _ _ _
   rw [←hA];refine h1 Y' G _ _ fun x s₁ o=>?_;have e:=sj e;refine wpAny_list_append_plain (items:=vs) ⟨n,o.g.keep _ _ hne hl'⟩ (fun h' hpl sb=>X11 hpl fun n' ho'=>?_) (zn (le_trans (le_of_eq (show vs.size=acc.length from rl.length)) (zzY (rwR (P:=fun bs=>acc.length+bs.length≤zz) e hl))));have up:∀ b o,b∉Y'.X→s₁.heap.get? b=some o→h'.get? b=some o:=fun b o n e=>sb.extBut b o (fun q=>n (q▸hDX)) e
   exact hQ _ ((o.g.toW [Da]).trans (zgY (o.to G).K hD0 (fun b o n e=>sb.extBut b o n e) (le_of_eq sb.1.symm))) (rwL (P:=fun bs=>zmy Da (acc++bs) Y'.X h') e ⟨hne,_,n',ho',by
    rw [Array.toList_push];exact (zu.upd up (rl.grow o.g)).append (.cons (Rep.upd up (rwL (P:=fun b=>Rep s₁.heap Y'.X b x d) (eq_false_of_ne_true ho) o.r)) .nil)⟩))
  h hlen (fun z z=>trivial) G use Q E fun Da Cl s' m hp=>X02 hp fun hne q=>X22 q fun vs n ho rl=>hQ _ _ _ m (.list ⟨hne,fun q=>Bool.noConfusion q⟩ ⟨n,ho⟩ rl)
section
variable {K:Type} [DecidableEq K] (B:KB K)
def zmk(Da:Addr)(out:List (D × D))(X:List Addr)(h:Heap):Prop:=(Da≠P₀∧Da≠cStatics)∧∃ kds kvs,qp B.keyf out=some kds∧h.DictOf B.knd Da kvs∧kvs.map (fun z=>z.1)=(zD [] kds).map (fun z=>z.1)∧zu h X (kvs.map (fun z=>z.2)) ((zD [] kds).map (fun z=>z.2))
theorem znO(Da:Addr):zhM Da (zmk B Da):=
 ⟨fun q kk=>X02 q fun ne q=>X24 q fun kds kvs e1 hd e2 rl=>⟨ne,kds,kvs,e1,hd.at fun o e=>kk _ _ (.inr rfl) ne e,e2,zu.move ⟨fun a o ne n e=>kk a o (.inl n) ne e,fun z z n z=>n⟩ rl⟩,
  fun q hx=>X02 q fun ne q=>X24 q fun kds kvs e1 hd e2 rl=>⟨ne,kds,kvs,e1,hd,e2,rl.addX hx⟩⟩
theorem zfd(ih:k9 p){gens:List Comprehension}{out:List (D × D)}{kds:List (K × D)}(h:vj p T scope gens (fun T=>if qY T.own vx=true then none else p.e T kx fun kd=>p.e T vx fun vd=>some [(kd,vd)])=some out)(hlen:out.length≤zz)(hk:qp B.keyf out=some kds)(G:Good T Y)
  (use:Option (Value→Sem Unit))(pos':Pos)(Q:Value→Shared→Prop)(E:Value→Shared→Prop)(hQ:∀ Da Cl s',zdZ Y Da Cl s'→Rep s'.heap (Da::Cl::Y.X) true (.ref Da) (B.mkd (zD [] kds))→compPost (model prog w) Y.A E use Q (.ref Da) Cl (.ok .next) s'):
  wpAny (model prog w) Y.A (comprehension (.DictComp kx vx gens scope pos) scope Y.env pos' newDict (firstAsync gens) (firstIter gens Y.env) use) Q E Y.s:=
 vY ih (newAcc:=newDict) (accO:={ cls:=.type "dict",data:=.dict #[] }) (gens:=gens) rfl (fun q=>wpAny_bind (wpAny_alloc (wpAny_pure q))) (fun Da cenv=>zkK) (emitW:=fun Da cenv=>zfp Y.A kx vx Da cenv) _ (fun b=>∃ q,B.keyf b=some q) (zmk B) (znO B) (fun hne=>⟨hne,[],[],rfl,DictOf.new _,rfl,.nil⟩)
  (fun {Da T' Y' bs acc} hA hem hgood hl G hDX hD0 hp Q hQ=>iN hem fun ho hem=>(ih.e hem).elim fun kd h1 hem=>(ih.e hem).elim fun vd h2 e=>X02 hp fun hne q=>X24 q fun kds kvs e1 hd e2 rl=>by
   have e:=sj e;refine X11 (rwR (P:=fun bs=>∀ b∈bs,∃ q,B.keyf b=some q) e hgood _ (.head _)) fun q hq=>?_;have hkq:=B.hkf hq
   show wpAny _ Y.A (eval kx Y'.env) _ _ _
   rw [←hA];refine h1 Y' G _ _ fun kv s₁ o1=>h2 (Y'.to s₁) (o1.to G) _ _ fun vv s₂ o2=>?_;have g:=o1.g.trans o2.g
   have hlen:kvs.length≤zz:=by
    have q1:=congrArg List.length e2;have q2:=kq kds [];have q3:=wy e1;have q4:=zzY (rwR (P:=fun bs=>acc.length+bs.length≤zz) e hl);rw [length_map,length_map] at q1;rw [length_nil,zero_add] at q2;exact q1▸le_trans q2 (q3▸q4)
   refine wpAny_dictSet_pairs (B.hkey (hkq.1▸Rep.grow o2.g o1.r)) (hd.at fun o e=>g.keep _ o hne e) (fun h' hd' sb=>?_) (zn hlen);have m:=yx (k:=q.1) e2 (rl.grow g) (rwL (P:=fun b=>Rep s₂.heap Y'.X b vv vd) (eq_false_of_ne_true ho) o2.r)
   exact hQ _ ((g.toW [Da]).trans (zgY (o2.to (o1.to G)).K hD0 (fun b o n e=>sb.extBut b o n e) (le_of_eq sb.1.symm))) (rwL (P:=fun bs=>zmk B Da (acc++bs) Y'.X h') e ⟨hne,kds++[q],_,wg e1 hq,hd',by
    rw [show kds++[q]=kds++[(q.1,q.2)] from rfl,yI, ←hkq.2];exact ⟨m.1,zu.upd (fun b o n e=>sb.extBut b o (fun q=>n (q▸hDX)) e) m.2⟩⟩))
  h hlen (zzJ hk) G use Q E fun Da Cl s' m hp=>X02 hp fun hne q=>X24 q fun kds' kvs e1 hd e2 rl=>hQ _ _ _ m (B.hmk ⟨⟨hne,fun q=>Bool.noConfusion q⟩,G.K.x.noMods m.d1,hd,sj (hk.symm.trans e1)▸e2,sj (hk.symm.trans e1)▸rl⟩)
end
theorem Rep.back{Da Cl:Addr}(r:Rep h (Da::Cl::X) true (.ref Da) d)(hd:∀ C fs,d≠ .obj C fs)(k:∀ b o,b≠Cl→h.get? b=some o→h'.get? b=some o)(n1:Cl≠Da)(n2:Da∉X):
  Rep h' X false (.ref Da) d∧Rep h' (Da::X) true (.ref Da) d:=by
 have kl:∀ {vs:List Value} {ds:List D},zu h (Da::Cl::X) vs ds→zu h' (Da::X) vs ds:=fun l=>
  (zu.upd (fun a o n e=>k a o (fun q=>n (q▸mem_cons_of_mem _ (mem_cons_self ..))) e) l).subX fun a m=>(mem_cons.mp m).elim (fun q=>q▸mem_cons_self ..) fun m=>mem_cons_of_mem _ (mem_cons_of_mem _ m)
 have kx:∀ {vs:List Value} {ds:List D},zu h' (Da::X) vs ds→zu h' X vs ds:=fun l=>l.subX fun a m=>mem_cons_of_mem _ m;have kr:∀ o,h.get? Da=some o→h'.get? Da=some o:=fun o=>k Da o (Ne.symm n1);have ro:RootOk (Da::Cl::X) true Da→RootOk X false Da∧RootOk (Da::X) true Da:=fun r=>⟨⟨r.ne,fun z=>n2⟩,⟨r.ne,fun q=>nomatch q⟩⟩
 cases d with
 |list ds=>
  refine X34 r.inv fun a vs n e q i l=>?_;cases e;exact ⟨.list (ro q).1 ⟨n,kr _ i⟩ (kx (kl l)),.list (ro q).2 ⟨n,kr _ i⟩ (kl l)⟩
 |dS ds=>
  refine X26 r.inv fun a kvs e q n i e' l=>?_;cases e;exact ⟨.dS (ro q).1 n (i.at kr) e' (kx (kl l)),.dS (ro q).2 n (i.at kr) e' (kl l)⟩
 |dI ds=>
  refine X26 r.inv fun a kvs e q n i e' l=>?_;cases e;exact ⟨.dI (ro q).1 n (i.at kr) e' (kx (kl l)),.dI (ro q).2 n (i.at kr) e' (kl l)⟩
 |tup ds=>
  refine X34 r.inv fun a vs n e q i l=>?_;cases e;exact ⟨.tup (ro q).1 ⟨n,kr _ i⟩ (kx (kl l)),.tup (ro q).2 ⟨n,kr _ i⟩ (kl l)⟩
 |obj C fs=>exact absurd rfl (hd C fs)
 |none=>have e:=r.inv;cases e
 |bool z=>have e:=r.inv;cases e
 |int z=>refine X11 r.inv fun z e=>?_;cases e
 |str z=>refine X11 r.inv fun z e=>?_;cases e
theorem pN{Da Cl:Addr}{s₅:Shared}(G:Good T Y)(hd:∀ C fs,d≠ .obj C fs)(m:zdZ Y Da Cl s₅)(r:Rep s₅.heap (Da::Cl::Y.X) true (.ref Da) d)(hQ:∀ v s',Grow Y.s s'→Rep s'.heap Y.X false v d→gh Y.X Y.s s' v d→Q v s'):
  compPost (model prog w) Y.A E none Q (.ref Da) Cl (.ok .next) s₅:=X11 m.ns fun mm hn=>⟨mm,hn,fun h' sb=>
 have R:=r.back hd (fun b o n e=>sb.extBut b o n e) m.ne fun q=>absurd (G.K.x.lt _ q) (not_lt.mpr m.d1)
 hQ _ _ (Grow.off (W:=fun b=>b=Cl) (tk:=s₅.toks) m.g (fun b o n e=>sb.extBut b o n e) (fun b q=>q▸m.c1) (le_of_eq sb.1.symm) G.K.lts) R.1 ⟨Da,rfl,m.d1,lt_of_lt_of_le m.d2 (le_of_eq sb.1.symm),R.2⟩⟩
theorem zqV(ih:k9 p){gens:List Comprehension}{out:List D}(h:vj p T scope gens (fun T=>if qY T.own elt=true then none else p.e T elt fun d=>some [d])=some out)(hlen:out.length≤zz):SE T (.ListComp elt gens scope pos) (.list out):=fun Y G Q E hQ=>by
 rw [eval_ListComp];exact zfb ih h hlen G none _ Q E fun Da Cl s' m r=>pN G (fun z z q=>D.noConfusion q) m r fun v s' g r f=>hQ v s' ⟨g,r,fun z=>f⟩
theorem wb{K:Type}[DecidableEq K](B:KB K)(hmo:∀ l C fs,B.mkd l≠ .obj C fs)(ih:k9 p){gens:List Comprehension}{out:List (D × D)}{kds:List (K × D)}(h:vj p T scope gens (fun T=>if qY T.own vx=true then none else p.e T kx fun kd=>p.e T vx fun vd=>some [(kd,vd)])=some out)(hlen:out.length≤zz)(hk:qp B.keyf out=some kds):
  SE T (.DictComp kx vx gens scope pos) (B.mkd (zD [] kds)):=fun Y G Q E hQ=>by
 rw [arm_eval_DictComp];exact zfd B ih h hlen hk G none _ Q E fun Da Cl s' m r=>pN G (hmo _) m r fun v s' g r f=>hQ v s' (.plain rfl g r)
end
end
section
section
variable {r:β} {k:D→Option β}
theorem zpG(h:zhI d k=some r)(f:∀ i,d= .int i→k (.int (-i))=some r→M):M:=by
 cases d with
 |int i=>exact f i rfl h
 |_=>exact zq h
theorem zvO{C:Cx}{name:Str}(h:zp5 C name d k=some r)(f:∀ c fs x,d= .obj c fs→C.fld c name=true→fs.lookup name=some x→k x=some r→M):M:=by
 cases d with
 |obj c fs=>exact iE h fun h1 h=>bE h fun x h2 h=>f c fs x rfl h1 h2 h
 |_=>exact zq h
variable (ih:k9 p)
include ih
theorem zpP{v i:Expr}(h1:SE T v dv)(h:zn5 p T dv i k=some r):OkE T (.Subscript v i pos) k r:=by
 have pl:(p.e T i fun j=>(zY dv j).bind k)=some r→OkE T (.Subscript v i pos) k r:=fun h=>(ih.e h).elim fun j h2 h=>bE h fun x h3 h=>.mk (zfy h1 h2 h3) h;cases i with
 |Slice=>exact gn ih h fun z h2 h=>gn ih h fun z h3 h=>gn ih h fun z h4 h=>bE h fun x h5 h=>.mk (zvU h1 h2 h3 h4 h5) h
 |_=>exact pl h
theorem zkB(h:zka p T f args (.Call (.Name f fp) args [] pos) k=some r):OkE T (.Call (.Name f fp) args [] pos) k r:=iE h fun c h=>by
 cases hi:yA f args with
 |some o=>rw [hi] at h;exact iE h fun z h=>(ih.e h).elim fun dv h1 h=>bE h fun ds h2 h=>iE h fun hl h=>.mk (zvH c.1 hi h1 h2 hl) h
 |none=>rw [hi] at h;exact i2 h (fun z h=>bE h fun x h1 h=>.mk (zpY rfl h1) h) fun hn h=>(qF ih h).elim fun ds h1 h=>bE h fun x h2 h=>.mk (zvB c.1 c.2 (orF (eq_false_of_ne_true hn)).1 h1 h2) h
theorem zkD{name:Str}(h:zke p T o name ap args pos k=some r):OkE T (.Call (.Attribute o name ap) args [] pos) k r:=iE h fun c h=>(ih.e h).elim fun dv h1 h=>(qF ih h).elim fun ds h2 h=>by
 have C:zpK T o args ap pos:=⟨c.1,c.2.1,c.2.2.1,c.2.2.2.1,c.2.2.2.2⟩
 have pl:∀ {x},SE T o x→(if (y0 name x).isSome=true then (jP name x ds).bind k else none)=some r→OkE T (.Call (.Attribute o name ap) args [] pos) k r:=fun h1 h=>iE h fun hm h=>bE h fun y h3 h=>.mk (zvD C h1 h2 hm h3) h;cases dv with
 |obj=>exact iN h fun ho h=>bE h fun y h3 h=>.mk (zvF C (eq_false_of_ne_true ho) h1 h2 h3) h
 |_=>exact pl h1 h
theorem zvA(h:((zqQ e).bind fun q=>match nmE q.1 with
  |some x=>zka p T x q.2.1 e k
  |none=>(atV q.1).bind fun r=>zke p T r.1 r.2.1 r.2.2 q.2.1 q.2.2 k)=some r):OkE T e k r:=bE h fun q e1 h=>by
 rw [yO e1] at h ⊢;cases e2:nmE q.1 with
 |some x=>
  rw [e2] at h;refine X11 (y3 e2) fun xp e3=>?_;rw [e3] at h ⊢;exact zkB ih h
 |none=>
  rw [e2] at h;refine bE h fun a e3 h=>?_;rw [gd e3];exact zkD ih h
theorem zpB(h:zp7 p T e k=some r):OkE T e k r:=by
 cases e with
 |Constant=>exact bE h fun x h1 h=>.mk (zvW h1) h
 |Name=>exact i2 h (fun hv h=>bE h fun x h1 h=>.mk (zdE hv h1) h) fun z h=>iE h fun hg h=>bE h fun x h1 h=>.mk (zpZ hg h1) h
 |BinOp=>exact (ih.e h).elim fun a h1 h=>(ih.e h).elim fun b h2 h=>bE h fun x h3 h=>.mk (zdI h1 h2 h3) h
 |UnaryOp op=>cases op with
  |USub=>exact (ih.e h).elim fun a h1 h=>zpG h fun i e h=>.mk (zfq (e▸h1)) h
  |_=>exact zq h
 |IfExp=>
   refine bE h fun x h h2=>(ih.t h).elim fun c h1 h=>?_;cases c with
   |true=>exact iN ((if_pos rfl).symm.trans h) fun ho h=>(ih.e h).elim fun y h3 h4=>.mk (zz6 (c:=true) h1 h3 (eq_false_of_ne_true ho)) (sj h4▸h2)
   |false=>exact iN ((if_neg Bool.false_ne_true).symm.trans h) fun ho h=>(ih.e h).elim fun y h3 h4=>.mk (zz6 (c:=false) h1 h3 (eq_false_of_ne_true ho)) (sj h4▸h2)
 |Dict=>exact iE h fun c h=>(qF ih h).elim fun ks h1 h=>(qF ih h).elim fun vs h2 h=>bE h fun x h3 h=>.mk (zpQ c h1 h2 h3) h
 |List=>exact iE h fun c h=>(qF ih h).elim fun ds h1 h=>.mk (zpJ c h1) h
 |Tuple=>exact iE h fun c h=>(qF ih h).elim fun ds h1 h=>.mk (zvV c h1) h
 |ListComp=>exact bE h fun out h1 h=>iE h fun hl h=>.mk (zqV ih h1 hl) h
 |DictComp=>exact bE h fun out h1 h=>iE h fun hl h=>bE h fun x h2 h=>kD h2 (fun ks q e=>.mk (e▸wb (kds:=ks) kbS (fun z z z q=>D.noConfusion q) ih h1 hl q) h) fun ks q e=>.mk (e▸wb (kds:=ks) kbI (fun z z z q=>D.noConfusion q) ih h1 hl q) h
 |Compare=>exact zz8 ih h fun c h1 z h=>.mk (h1 _) h
 |Subscript=>exact (ih.e h).elim fun dv h1 h=>zpP ih h1 h
 |Attribute o=>cases o with
  |Name=>exact i2 h (fun hg h=>bE h fun x h1 h=>.mk (zvG hg h1) h) fun z h=>iE h fun hv h=>bE h fun dv h1 h=>zvO h fun c fs x e h2 h3 h=>.mk (zvP hv (e▸h1) h2 h3) h
  |_=>exact zq h
 |Call=>exact zvA ih h
 |_=>exact zq h
end
theorem zyz:∀ n,k9 (evK n)
 |0=>⟨fun h=>zq h,fun h=>zq h,fun h=>zq h⟩
 |n+1=>⟨zpB (zyz n),zpX (zyz n),zpV (zyz n)⟩
end
variable {X₀:List Addr}
section
inductive Fl where
 |next
 |brk
 |ret (d:D)
noncomputable def asS:D→Option Str
 | .str x=>some x
 |_=>none
theorem zpD(h:asS d=some x):d= .str x:=by
 cases d with
 |str y=>exact congrArg D.str (sj h)
 |_=>exact zq h
noncomputable def zzK(dx di d:D):Option D:=match dx with
 | .list ds=>(asI di).bind fun k=>if 0≤k∧k<ds.length∧ds.length≤zz then some (.list (ds.set k.toNat d)) else none
 | .dS kvs=>(asS di).bind fun k=>if kvs.length≤zz then some (.dS (qc kvs k d)) else none
 | .dI kvs=>(asI di).bind fun k=>if kvs.length≤zz then some (.dI (qc kvs k d)) else none
 |_=>none
noncomputable def zvf(a b:D):Option D:=(asI a).bind fun i=>(asI b).map fun j=>.int (i+j)
noncomputable def jj:D→Bool
 | .list z=>true
 | .dS z=>true
 | .dI z=>true
 |_=>false
noncomputable def zg(sc:Scope)(x:Str):Bool:=sc.names.lookup x==some .local||sc.names.lookup x==some .cell
noncomputable def xg(own:List Str)(sc:Scope)(tgt:Expr):Bool:=(zJ tgt).all fun x=>zg sc x&& !own.contains x
noncomputable def wd(sc:Scope)(x:Str)(xl:Pos)(value:Expr):Bool:=
 match value with
 | .ListComp _ _ scope _| .DictComp z y v scope u=>sc.names.lookup x==some .local&&xl.line==value.pos.line&& !(scope.names.any fun (n,k)=>n==x&&(k== .local||k== .cell))
 |_=>false
noncomputable def pR:Expr→Bool
 | .SetComp .. =>true
 |_=>false
noncomputable def zyF(f:Sg→Option (Sg × Fl))(tgt:Expr):List D→Sg→Option (Sg × Fl)
 |[],σ=>some (σ,.next)
 |d::ds,σ=>match j6 tgt d σ with
  |none=>none
  |some σ'=>match f σ' with
   |none=>none
   |some (σ'',.next)=>zyF f tgt ds σ''
   |some (σ'',.brk)=>some (σ'',.next)
   |some (σ'',.ret r)=>some (σ'',.ret r)
noncomputable def qb:Str:="self"
noncomputable def zL:List Str→List D→Sg→Sg
 |x::xs,d::ds,σ=>zL xs ds (upd σ x d)
 |_,_,σ=>σ
noncomputable def gZ:Expr→Bool
 | .Tuple .. =>true
 | .List .. =>true
 |_=>false
noncomputable def kz:List Expr→Bool
 |[]=>true
 | .Name z y::r=>kz r
 |_=>false
noncomputable def zgK{β:Type}(xs:List Str)(k:Str→Str→Str→Option β):Option β:=match xs with
 |[]=>none
 |x::r=>match r with
  |[]=>none
  |y::r=>match r with
   |[]=>none
   |z::r=>match r with
    |[]=>k x y z
    |v::u=>none
noncomputable def zn8:Expr→Bool
 | .Slice .. =>true
 |_=>false
noncomputable def zmx:Operator→Bool
 | .Add=>true
 |_=>false
section
noncomputable def zpF(p:EvK)(T:Sc):List Expr→List Expr→(List D→Option β)→Option β
 |[],vs,k=>match vs with
  |[]=>k []
  |z::y=>none
 |t::ts,vs,k=>match vs with
  |[]=>none
  |v::vs=>(nmE t).bind fun x=>p.e T v fun d=>if zg T.sc x=true∧(if T.own.contains x=true then y5 v d=true∧jj d=true∧x≠qb else qY T.own v=false) then zpF p T ts vs fun ds=>k (d::ds) else none
noncomputable def zmw(C:Cx)(f:Str)(d:D)(dx:D)(k:D→Option β):Option β:=match dx with
 | .obj c fs=>if C.fld c f=true∧fs.length≤50 then k (.obj c (qc fs f d)) else none
 |_=>none
noncomputable def zmv(dl d:D)(k:D→Option β):Option β:=match dl with
 | .list ds=>if ds.length≤zz then k (.list (ds++[d])) else none
 |_=>none
variable (p:EvK) (T:Sc)
noncomputable def zmu(x:Str)(xp:Pos)(value:Expr)(k:Sg→Option β)(d:D):Option β:=
 if T.own.contains x=true then (if y5 value d=true∧jj d=true∧wd T.sc x xp value=false∧x≠qb then k (upd T.σ x d) else none)
 else if qY T.own value=false then k (upd T.σ x d) else none
noncomputable def zzX(x:Str)(xp:Pos)(value:Expr)(k:Sg→Option β):Option β:=if zg T.sc x=true∧pR value=false then p.e T value (zmu T x xp value k) else none
noncomputable def zzW(ts:List Expr)(q:Nat)(pos:Pos)(value:Expr)(k:Sg→Option β):Option β:=
 if xg T.own T.sc (.Tuple ts q pos)=true∧qY T.own value=false∧gZ value=false then p.e T value fun d=>zkl (.Tuple ts q pos) d T.σ k else none
noncomputable def zkF(ts:List Expr)(q:Nat)(pos:Pos)(value:Expr)(k:Sg→Option β):Option β:=match value with
 | .Tuple vs z y=>if (zJ (.Tuple ts 0 default)).Nodup∧kz ts=true∧zl vs=true∧vs.length≤15∧ts.length=vs.length∧(vs.all (foldedForSure 8)|| !vs.all (constantsAlone 8))=true then
   zpF p T ts vs fun ds=>k (zL (zJ (.Tuple ts 0 default)) ds T.σ)
  else none
 |value=>zzW p T ts q pos value k
noncomputable def zkH(x:Str)(i value:Expr)(k:Sg→Option β):Option β:=
 if T.own.contains x=true∧qY T.own value=false∧jq T.sc x=true∧zg T.sc x=true then p.e T value fun d=>p.e T i fun di=>(T.σ x).bind fun dx=>(zzK dx di d).bind fun r=>k (upd T.σ x r) else none
noncomputable def zzV(x f:Str)(value:Expr)(k:Sg→Option β):Option β:=
 if T.own.contains x=true∧qY T.own value=false∧jq T.sc x=true∧zg T.sc x=true then p.e T value fun d=>(T.σ x).bind fun dx=>zmw T.C f d dx fun r=>k (upd T.σ x r) else none
noncomputable def zmg(x y z:Str)(value:Expr)(k:Sg→Option β):Option β:=
 if xg T.own T.sc (.Tuple [.Name x default,.Name y default,.Name z default] 0 default)=true∧qY T.own value=false then p.e T value fun d=>k (upd (upd (upd T.σ x d) y d) z d) else none
noncomputable def zff(t value:Expr)(k:Sg→Option β):Option β:=match t with
 | .Name x xp=>zzX p T x xp value k
 | .Tuple ts q pos=>zkF p T ts q pos value k
 | .Subscript o i z=>(nmE o).bind fun x=>zkH p T x i value k
 | .Attribute o f z=>(nmE o).bind fun x=>zzV p T x f value k
 |_=>none
noncomputable def zn9(ts:List Expr)(value:Expr)(k:Sg→Option β):Option β:=match ts with
 |[]=>none
 |t::r=>match r with
  |[]=>zff p T t value k
  |v::u=>(qp nmE ts).bind fun xs=>zgK xs fun x y z=>zmg p T x y z value k
noncomputable def zmp(x:Str)(value:Expr)(k:Sg→Option β):Option β:=
 if T.own.contains x=false∧zg T.sc x=true∧jq T.sc x=true then (T.σ x).bind fun a=>p.e T value fun b=>(zvf a b).bind fun r=>k (upd T.σ x r) else none
noncomputable def zmb(x:Str)(i value:Expr)(k:Sg→Option β):Option β:=
 if T.own.contains x=true∧jq T.sc x=true∧zg T.sc x=true∧zn8 i=false then
  (T.σ x).bind fun dx=>p.e T i fun di=>p.e T value fun b=>(zY dx di).bind fun a=>(zvf a b).bind fun r=>(zzK dx di r).bind fun dx'=>k (upd T.σ x dx')
 else none
noncomputable def zfh(t value:Expr)(k:Sg→Option β):Option β:=match t with
 | .Name x z=>zmp p T x value k
 | .Subscript o i z=>(nmE o).bind fun x=>zmb p T x i value k
 |_=>none
noncomputable def zmd(x m:Str)(ap cp:Pos)(e:Expr)(k:Sg→Option β):Option β:=
 if m="append"∧T.own.contains x=true∧jq T.sc x=true∧zg T.sc x=true∧qY T.own e=false∧(ap.endLine==cp.line)=true∧zl [e]=true then
  (T.σ x).bind fun dl=>p.e T e fun d=>zmv dl d fun r=>k (upd T.σ x r)
 else none
noncomputable def zmf(rec:Sg→Option (Sg × Fl))(tgt iter:Expr)(k:Sg→Fl→Option β):Option β:=
 if xg T.own T.sc tgt=true∧zdQ T.own iter=false∧xt iter=false then p.i T iter fun tp ds=>
  if tp=true∧wj tgt=false then none else (zyF rec tgt ds T.σ).bind fun q=>k q.1 q.2
 else none
noncomputable def zzU(rec:{γ:Type}→Sc→List Stmt→(Sg→Fl→Option γ)→Option γ)(st:Stmt)(k:Sg→Fl→Option β):Option β:=match st with
 | .Pass z=>k T.σ .next
 | .Break z=>k T.σ .brk
 | .Return eo z=>eo.bind fun e=>p.e ⟨T.C,[],T.sc,T.σ⟩ e fun d=>k T.σ (.ret d)
 | .If test body orelse z=>p.t T test fun b=>if b=true then rec T body k else rec T orelse k
 | .For tgt iter body orelse z=>match orelse with
  |[]=>zmf p T (fun σ=>rec (T.at σ) body fun σ' fl=>some (σ',fl)) tgt iter k
  |z::y=>none
 | .Assign targets value z=>zn9 p T targets value fun σ'=>k σ' .next
 | .AugAssign t op value z=>if zmx op=true then zfh p T t value fun σ'=>k σ' .next else none
 | .Expr e z=>(zqQ e).bind fun q=>(atV q.1).bind fun a=>(nmE a.1).bind fun x=>(one q.2.1).bind fun e'=>zmd p T x a.2.1 a.2.2 q.2.2 e' fun σ'=>k σ' .next
 |_=>none
noncomputable def zpH(fl:Fl)(a:Option β)(b:Option β):Option β:=match fl with
 | .next=>a
 |_=>b
noncomputable def zfm(f:Sc→Stmt→(Sg→Fl→Option β)→Option β):Sc→List Stmt→(Sg→Fl→Option β)→Option β
 |T,[],k=>k T.σ .next
 |T,s::ss,k=>f T s fun σ' fl=>zpH fl (zfm f (T.at σ') ss k) (k σ' fl)
end
noncomputable def exK(p:EvK):Nat→{β:Type}→Sc→List Stmt→(Sg→Fl→Option β)→Option β
 |0,_=>fun z z z=>none
 |n+1,_=>zfm fun T s k=>zzU p T (exK p n) s k
section
def xc(env:Env)(sc:Scope)(h:Heap)(x:Str)(v:Value):Prop:=
 (sc.names.lookup x=some .local∧∃ m,h.Ns env.locals m∧m x=some v)∨
 ((sc.names.lookup x=some .cell∨sc.names.lookup x=some .free)∧∃ c,env.cells.lookup x=some c∧h.IsCell c (some v))
theorem zgX{m m':Str→Option Value}(x:h.Ns a m)(y:h.Ns a m'):m=m':=by
 (refine X34 x fun o es ep ho hd hk hm=>?_;try clear x)
 (refine X34 y fun o' es' ep' ho' hd' hk' hm'=>?_;try clear y)
 rw [ho] at ho';cases ho';rw [hd] at hd';cases hd'
 funext n
 rw [←hm n, ←hm' n]
theorem xc.ok(N:xc env sc h x v)(R:zC V env sc own σ X h)(hd:σ x=some d):VOk h X (own.contains x) (V x) v d:=by
 rcases N with ⟨hx,m,hn,hv⟩|⟨hx,c,hc,hv⟩
 ·refine X12 R.loc fun m' hn' hm=>?_;refine X12 (hm x d hx hd) fun v' hv' y=>?_;rw [zgX hn' hn,hv] at hv';cases hv';exact y
 ·refine X14 (R.cell x hx) fun c' hc' z z hh=>?_;rw [hc] at hc';cases hc';refine X12 (hh d hd) fun v' hv' y=>?_
  (refine X12 hv fun o ho e1=>?_;try clear hv)
  (refine X12 hv' fun o' ho' e2=>?_;try clear hv')
  rw [ho] at ho';cases ho';rw [e1] at e2;cases e2;exact y
theorem xc.grow(N:xc env sc s.heap x v)(R:zC V env sc own σ X s.heap)(g:Grow s s'):xc env sc s'.heap x v:=by
 rcases N with ⟨hx,m,hn,hv⟩|⟨hx,c,hc,o,ho,hv⟩
 ·exact .inl ⟨hx,m,hn.at' fun o e=>g.keep _ o R.ne e,hv⟩
 ·refine X13 (R.cell x hx) fun c' hc' ne z=>?_;rw [hc] at hc';cases hc';exact .inr ⟨hx,c,hc,o,g.keep c o ne ho,hv⟩
theorem zC.nameV(R:zC V env sc own σ X s.heap)(hx:jq sc x=true)(hd:σ x=some d)
  (h:∀ v,xc env sc s.heap x v→VOk s.heap X (own.contains x) (V x) v d→Q v s):wpAny (model prog w) A (eval (.Name x pos) env) Q E s∧wpAny (model prog w) A (loadName env x) Q E s:=by
 have hk:env.scope.kind= .function:=by rw [R.scp];exact R.kind
 simp only [jq,and_eq_true,or_eq_true,beq_iff_eq,not_eq_true'] at hx;obtain ⟨⟨hx,hdb⟩,hcd⟩:=hx;have hkd:env.kindOf x=sc.names.lookup x:=by rw [←R.scp];rfl
 rcases hx with (hx|hx)|hx
 ·refine X12 R.loc fun m hn hm=>?_;refine X12 (hm x d hx hd) fun v hv r=>?_;have l:=wpAny_loadName_local (M:=model prog w) (A:=A) (E:=E) hk (hkd.trans hx) hn hv (h v (.inl ⟨hx,m,hn,hv⟩) r);exact ⟨wpAny_Name l hdb,l⟩
 ·refine X14 (R.cell x (.inl hx)) fun c hc ne z hv=>?_;refine X12 (hv d hd) fun v h1 r=>?_;have l:=wpAny_loadName_cell (M:=model prog w) (A:=A) (E:=E) hk (hkd.trans hx) hc h1 (h v (.inr ⟨.inl hx,c,hc,h1⟩) r);exact ⟨wpAny_Name l hdb,l⟩
 ·refine X14 (R.cell x (.inr hx)) fun c hc ne z hv=>?_;refine X12 (hv d hd) fun v h1 r=>?_;have l:=wpAny_loadName_free (M:=model prog w) (A:=A) (E:=E) hk (hkd.trans hx) hc h1 (h v (.inr ⟨.inr hx,c,hc,h1⟩) r) hcd;exact ⟨wpAny_Name l hdb,l⟩
theorem zC.mut{Z:Addr→Prop}(R:zC V env sc own σ X h)(N:xc env sc h y v)(hX:∀ a,Z a→a∈X)(hV:∀ x a,x≠y→Z a→V x a)(hl:¬ Z env.locals)
  (hc:∀ x c,(sc.names.lookup x=some .cell∨sc.names.lookup x=some .free)→env.cells.lookup x=some c→¬ Z c)(k:∀ b o,¬ Z b→(b≠P₀∧b≠cStatics)→h.get? b=some o→h'.get? b=some o)
  (nv:VOk h' X (own.contains y) (V y) v d):zC V env sc own (upd σ y d) X h' where
 scp:=R.scp
 cod:=R.cod
 kind:=R.kind
 glob:=R.glob
 bi:=R.bi
 ne:=R.ne
 locV:=R.locV
 inj:=R.inj
 loc:=by
  refine X12 R.loc fun m hn hm=>?_;refine ⟨m,hn.at' fun o e=>k _ o hl R.ne e,fun x d' hx hd=>?_⟩;by_cases hxy:x=y
  ·subst hxy;simp only [upd,if_true] at hd;cases hd;rcases N with ⟨_,m',hn',hv⟩|⟨hx',_⟩
   ·rw [zgX hn hn'];exact ⟨v,hv,nv⟩
   ·rw [hx] at hx';rcases hx' with h|h<;>cases h
  ·simp only [upd,if_neg hxy] at hd;refine X12 (hm x d' hx hd) fun v' hv r=>?_;exact ⟨v',hv,r.updZ hX (fun a z=>.inl (hV x a hxy z)) k⟩
 cell:=fun x hx=>by
  obtain ⟨c,hc',ne,⟨v₀,hv₀⟩,hd⟩:=R.cell x hx;have key:∀ v₀,h.IsCell c v₀→h'.IsCell c v₀:=fun v₀ hq=>X12 hq fun o ho e=>⟨o,k c o (hc x c hx hc') ne ho,e⟩
  refine ⟨c,hc',ne,⟨v₀,key _ hv₀⟩,fun d' hd'=>?_⟩;by_cases hxy:x=y
  ·subst hxy;simp only [upd,if_true] at hd';cases hd';rcases N with ⟨hx',_⟩|⟨_,c',hc'',hv⟩
   ·rw [hx'] at hx;rcases hx with h|h<;>cases h
   ·rw [hc'] at hc'';cases hc'';exact ⟨v,key _ hv,nv⟩
  ·simp only [upd,if_neg hxy] at hd';refine X12 (hd d' hd') fun v' h1 h2=>?_;exact ⟨v',key _ h1,h2.updZ hX (fun a z=>.inl (hV x a hxy z)) k⟩
noncomputable def FlR(X₀:List Addr)(h:Heap):Fl→Flow→Prop
 | .next,f=>f= .next
 | .brk,f=>f= .brk
 | .ret d,f=>∃ v,f= .ret v∧Rep h X₀ false v d
def zyj(C:Cx):Prop:=
 ∀ {c fs f d},C.fld c f=true→fs.length≤50→∀ {A X s a v},Ok X s→Rep s.heap X true (.ref a) (.obj c fs)→(∀ b∈zw s.heap (.ref a),b∈X)→Rep s.heap X false v d→∀ (Q:Unit→Shared→Prop) (E:Value→Shared→Prop),
  (∀ h' tk,(∀ b o,b∉zw s.heap (.ref a)→s.heap.get? b=some o→h'.get? b=some o)→s.heap.objs.size≤h'.objs.size→Rep h' X true (.ref a) (.obj c (qc fs f d))→zw h' (.ref a)=zw s.heap (.ref a)→Q () { s with heap:=h',toks:=tk })→
  wpAny (model prog w) A (setAttr (.ref a) f v) Q E s
structure FC where
 env:Env
 A:Around
 X₀:List Addr
structure FS where
 rts:Str→List Addr
 W:List Addr
 X:List Addr
 s:Shared
noncomputable def FS.to(S:FS)(s:Shared):FS:=⟨S.rts,S.W,S.X,s⟩
noncomputable def FS.pl(S:FS)(C:FC):Pl:=⟨fun x a=>a∉S.rts x,C.env,S.X,S.s,C.A⟩
structure FrR(T:Sc)(C:FC)(S:FS):Prop where
 r:zC (fun x a=>a∉S.rts x) C.env T.sc T.own T.σ S.X S.s.heap
 ok:Ok S.X S.s
 WX:∀ a∈S.W,a∈S.X
 Wh:∀ a∈S.W,h₀.objs.size≤a
 W0:∀ a∈S.W,a∉C.X₀
 X0:(∀ a∈C.X₀,a∈S.X)∧P₀∈C.X₀∧cStatics∈C.X₀
 loc:C.env.locals∈S.W
 cells:∀ x c,T.sc.names.lookup x=some .cell→C.env.cells.lookup x=some c→c∈S.W
 rtsW:∀ x,∀ a∈S.rts x,a∈S.W
 sep:∀ x y,x≠y→∀ a∈S.rts x,a∉S.rts y
 pin:T.own.contains qb=true→S.rts qb=[C.env.locals - 1,C.env.locals - 2]
 rtc:∀ x,∀ a∈S.rts x,∀ y c,(T.sc.names.lookup y=some .cell∨T.sc.names.lookup y=some .free)→C.env.cells.lookup y=some c→a≠c
 hA:kQ C.A T.C.lvl
 CO:jH T.C
 G:kB
 SO:zyj T.C
structure Aft(n:Nat)(S S':FS):Prop where
 w1:∀ a∈S.W,a∈S'.W
 w2:∀ a∈S'.W,a∈S.W∨n≤a
 x1:∀ a∈S.X,a∈S'.X
 x2:∀ a∈S'.X,a∈S.X∨n≤a
theorem Aft.to(n:Nat)(S:FS)(s:Shared):Aft n S (S.to s):=⟨fun z m=>m,fun z m=>.inl m,fun z m=>m,fun z m=>.inl m⟩
theorem Aft.trans{n':Nat}{S S' S'':FS}(a:Aft n S S')(b:Aft n' S' S'')(h:n≤n'):Aft n S S'':=
 ⟨fun x m=>b.w1 x (a.w1 x m),fun x m=>(b.w2 x m).elim (a.w2 x) fun l=>.inr (le_trans h l),fun x m=>b.x1 x (a.x1 x m),fun x m=>(b.x2 x m).elim (a.x2 x) fun l=>.inr (le_trans h l)⟩
structure zvE(T:Sc)(σ':Sg)(fl:Fl)(C:FC)(S S':FS)(f:Flow):Prop where
 F:FrR (T.at σ') C S'
 g:zb S.W S.s S'.s
 a:Aft S.s.heap.objs.size S S'
 fr:FlR C.X₀ S'.s.heap fl f
def SX(T:Sc)(t:Env→Sem Flow)(σ':Sg)(fl:Fl):Prop:=∀ C S,FrR T C S→∀ (Q:Flow→Shared→Prop) (E:Value→Shared→Prop),(∀ S' f,zvE T σ' fl C S S' f→Q f S'.s)→wpAny (model prog w) C.A (t C.env) Q E S.s
def OkS{β:Type}(T:Sc)(t:Env→Sem Flow)(k:Sg→Fl→Option β)(r:β):Prop:=∃ σ' fl,SX T t σ' fl∧k σ' fl=some r
theorem OkS.mk{t:Env→Sem Flow}{k:Sg→Fl→Option β}{r:β}{σ':Sg}{fl:Fl}(h:SX T t σ' fl)(q:k σ' fl=some r):OkS T t k r:=⟨σ',fl,h,q⟩
theorem OkS.elim{t:Env→Sem Flow}{k:Sg→Fl→Option β}{r:β}(h:OkS T t k r)(f:∀ σ' fl,SX T t σ' fl→k σ' fl=some r→M):M:=X22 h f
section
variable {C:FC} {S:FS}
theorem FrR.good(F:FrR T C S):Good T (S.pl C):=⟨F.r,F.ok,F.hA,F.CO,F.G⟩
theorem FrR.grow(F:FrR T C S)(g:Grow S.s s'):FrR T C (S.to s'):=⟨F.r.grow g,F.ok.grow g,F.WX,F.Wh,F.W0,F.X0,F.loc,F.cells,F.rtsW,F.sep,F.pin,F.rtc,F.hA,F.CO,F.G,F.SO⟩
theorem FrR.no(F:FrR T C S):cc∉S.W∧P₀∉S.W∧cStatics∉S.W:=
 have n:∀ {a:Addr},a<h₀.objs.size→a∉S.W:=fun l m=>absurd l (not_lt.mpr (F.Wh _ m))
 ⟨n F.ok.ccs.1,n F.ok.ccs.2.2.2.1,n F.ok.ccs.2.2.2.2.1⟩
theorem FrR.set(F:FrR T C S)(r:zC (fun x a=>a∉S.rts x) C.env T.sc T.own τ S.X s'.heap)(g:zb S.W S.s s'):FrR (T.at τ) C (S.to s'):=⟨r,F.ok.growW g F.Wh,F.WX,F.Wh,F.W0,F.X0,F.loc,F.cells,F.rtsW,F.sep,F.pin,F.rtc,F.hA,F.CO,F.G,F.SO⟩
theorem y6(hx:zg sc x=true):sc.names.lookup x=some .local∨sc.names.lookup x=some .cell:=(Bool.or_eq_true_iff.mp hx).imp beq_iff_eq.mp beq_iff_eq.mp
theorem FrR.keeps(F:FrR T C S)(hx:zg T.sc x=true):∃ a,a∈S.X∧a∈S.W∧wx C.env T.sc x a:=
 (y6 hx).elim (fun hx=>⟨_,F.WX _ F.loc,F.loc,.inl ⟨hx,rfl⟩⟩) fun hx=>X12 (F.r.cell x (.inl hx)) fun c hc z=>have m:=F.cells x c hx hc;⟨c,F.WX _ m,m,.inr ⟨hx,hc⟩⟩
theorem zkM(hp:xg own sc tgt=true):∀ x∈zJ tgt,zg sc x=true∧own.contains x=false:=fun x m=>
 X02 (zmz (all_eq_true.mp hp x m)) fun h1 h2=>⟨h1,(not_eq_true' _).mp h2⟩
theorem FrR.bind(F:FrR T C S)(hp:xg T.own T.sc tgt=true)(hb:j6 tgt d T.σ=some τ)(r:Rep S.s.heap S.X false v d)(Q:Unit→Shared→Prop)(E:Value→Shared→Prop)
  (hQ:∀ s',FrR (T.at τ) C (S.to s')→zb S.W S.s s'→Q () s'):wpAny (model prog w) C.A (assign tgt C.env v) Q E S.s:=
 have hall:=zkM hp
 zzQ (W:=S.W) (K:=F.ok) F.hA.hand hb r F.r (F.WX _ F.loc) (fun x m q=>Bool.noConfusion ((hall x m).2.symm.trans q)) F.no (fun x m=>F.keeps (hall x m).1) _ _ fun s' R' G=>hQ s' (F.set R' G) G
theorem zvE.plain{f:Flow}{fl:Fl}(F:FrR (T.at σ) C (S.to s'))(g:zb S.W S.s s')(fr:FlR C.X₀ s'.heap fl f):zvE T σ fl C S (S.to s') f:=⟨F,g,Aft.to ..,fr⟩
theorem zvE.seq{S' S'':FS}{σ₁ σ₂:Sg}{fl fl':Fl}{f f':Flow}(x:zvE T σ₁ fl C S S' f)(y:zvE (T.at σ₁) σ₂ fl' C S' S'' f'):zvE T σ₂ fl' C S S'' f':=⟨y.F,((x.g.mono x.a.w1).trans y.g).narrow x.a.w2,x.a.trans y.a x.g.size,y.fr⟩
theorem zfn:SX T (execs []) T.σ .next:=fun C S F Q E hQ=>wpAny_execs_nil (hQ S .next ⟨F,zb.refl ..,Aft.to ..,rfl⟩)
theorem zpM{st:Stmt}{ss:List Stmt}{σ₁:Sg}{fl:Fl}(h1:SX T (exec st) σ₁ .next)(h2:SX (T.at σ₁) (execs ss) τ fl):SX T (execs (st::ss)) τ fl:=fun C S F Q E hQ=>
 wpAny_execs_cons (h1 C S F _ _ fun S₁ f x=>by
  have e:f= .next:=x.fr
  rw [e];exact h2 C S₁ x.F Q E fun S₂ f₂ y=>hQ S₂ f₂ (x.seq y))
theorem zkN{st:Stmt}{ss:List Stmt}{fl:Fl}(h1:SX T (exec st) τ fl)(hn:fl≠ .next):SX T (execs (st::ss)) τ fl:=fun C S F Q E hQ=>
 wpAny_execs_cons (h1 C S F _ _ fun S₁ f x=>by
  have q:=hQ S₁ f x;have fr:=x.fr;cases fl with
  |next=>exact absurd rfl hn
  |brk=>
   have e:f= .brk:=fr;rw [e] at q ⊢;exact q
  |ret d=>
   refine X12 fr fun v e z=>?_;rw [e] at q ⊢;exact q)
theorem zkR{β:Type}{f:Sc→Stmt→(Sg→Fl→Option β)→Option β}{k:Sg→Fl→Option β}{r:β}(hf:∀ {T st} {k:Sg→Fl→Option β} {r},f T st k=some r→OkS T (exec st) k r):∀ {ss:List Stmt} {T:Sc},zfm f T ss k=some r→OkS T (execs ss) k r
 |[],T,h=>.mk zfn h
 |st::ss,T,h=>(hf h).elim fun σ' fl h1 h=>by
  cases fl with
  |next=>exact (zkR hf h).elim fun σ'' fl' h2 h=>.mk (zpM h1 h2) h
  |brk=>exact .mk (zkN h1 fun q=>Fl.noConfusion q) h
  |ret d=>exact .mk (zkN h1 fun q=>Fl.noConfusion q) h
end
end
end
variable {xp:Pos}{V':Str→Addr→Prop}{rts:Str→List Addr}{body:List Stmt}{fl:Fl}{S S':FS}
section
section
variable {C:FC}
theorem Rep.unown(R:Rep h X true v d)(hr:∀ a∈zw h v,a∉X₀)(hs:∀ a∈X₀,a∈X):Rep h X₀ false v d:=by
 have keyL:∀ {vs:List Value} {ds:List D},zu h X vs ds→zu h X₀ vs ds:=fun L=>L.subX hs;cases R with
 |none=>exact .none _
 |bool=>exact .bool _ _
 |int=>exact .int _ _ _
 |str=>exact .str _ _ _
 |tup r i L=>exact .tup ⟨r.ne,fun z=>hr _ (mem_cons_self ..)⟩ i (keyL L)
 |list r i L=>exact .list ⟨r.ne,fun z=>hr _ (mem_cons_self ..)⟩ i (keyL L)
 |dS r n i e L=>exact .dS ⟨r.ne,fun z=>hr _ (mem_cons_self ..)⟩ n i e (keyL L)
 |dI r n i e L=>exact .dI ⟨r.ne,fun z=>hr _ (mem_cons_self ..)⟩ n i e (keyL L)
 |obj r r' g i e L=>exact .obj ⟨r.ne,fun z=>hr _ (mem_cons_self ..)⟩ ⟨⟨r'.ne,fun z=>hr _ (v6 g rfl)⟩,r'.lt⟩ g i e (keyL L)
theorem zpN:qY [] e=false:=by
 cases e with
 |Name=>rfl
 |_=>rfl
theorem FrR.free(F:FrR T C S):Good ⟨T.C,[],T.sc,T.σ⟩ ⟨fun x a=>a∉S.rts x,C.env,C.X₀,S.s,C.A⟩:=
 have key:∀ {x:Str} {v:Value} {d:D},VOk S.s.heap S.X (T.own.contains x) (fun a=>a∉S.rts x) v d→VOk S.s.heap C.X₀ (([]:List Str).contains x) (fun a=>a∉S.rts x) v d:=fun {x v d} y=>⟨by
  show Rep S.s.heap C.X₀ false v d
  have y1:=y.1;cases q:T.own.contains x with
  |true=>rw [q] at y1;exact y1.unown (fun a m=>F.W0 a (F.rtsW x a (Decidable.not_not.mp (y.2 q a m)))) F.X0.1
  |false=>rw [q] at y1;exact y1.subX F.X0.1,fun q=>Bool.noConfusion q⟩
 have R:=F.r
 ⟨⟨R.scp,fun q=>Bool.noConfusion q,R.kind,R.glob,R.bi,R.ne,R.locV,X12 R.loc fun m hn hm=>⟨m,hn,fun x d hx hd=>X12 (hm x d hx hd) fun v hv y=>⟨v,hv,key y⟩⟩,fun x hx=>X14 (R.cell x hx) fun c hc ne hv₀ hd=>⟨c,hc,ne,hv₀,fun d q=>X12 (hd d q) fun v h1 y=>⟨v,h1,key y⟩⟩,R.inj⟩,
  F.ok.subX F.X0.2.1 F.X0.2.2 F.X0.1,F.hA,F.CO,F.G⟩
theorem zkS(h:SE ⟨T.C,[],T.sc,T.σ⟩ e d):SX T (exec (.Return (some e) pos)) T.σ (.ret d):=fun C S F Q E hQ=>
 wpAny_Return_some (h _ F.free _ _ fun v s' o=>hQ (S.to s') _ (.plain (F.grow o.g) (o.g.toW _) ⟨v,rfl,rwL (P:=fun b=>Rep s'.heap C.X₀ b v d) zpN o.r⟩))
theorem zvI:SX T (exec (.Break pos)) T.σ .brk:=fun C S F Q E hQ=>wpAny_Break (hQ S _ ⟨F,zb.refl ..,Aft.to ..,rfl⟩)
theorem zpR:SX T (exec (.Pass pos)) T.σ .next:=fun C S F Q E hQ=>wpAny_Pass (hQ S _ ⟨F,zb.refl ..,Aft.to ..,rfl⟩)
theorem zfr{test:Expr}{orelse:List Stmt}{c:Bool}(h:ST T test c)(hb:SX T (execs (if c=true then body else orelse)) τ fl):SX T (exec (.If test body orelse pos)) τ fl:=fun C S F Q E hQ=>
 wpAny_If (h _ F.good _ _ fun s₁ g=>by
  have fin:=hb C (S.to s₁) (F.grow g) Q E fun S' f y=>hQ S' f ((zvE.plain (T:=T) (σ:=T.σ) (fl:=.next) (F.grow g) (g.toW S.W) rfl).seq y);cases c with
  |true=>exact fin
  |false=>exact fin)
theorem FrR.place(F:FrR T C S)(hk:wx C.env T.sc x a):a=C.env.locals∨∃ y,S.s.heap.IsCell a y:=
 hk.elim (fun h=>.inl h.2) fun h=>.inr (X13 (F.r.cell x (.inl h.1)) fun c hc z q=>X02 q fun q z=>X11 q fun v hv=>⟨v,sj (hc.symm.trans h.2)▸hv⟩)
def zuq(C:FC)(X:List Addr)(s s':Shared):Prop:=∀ {t u e},Rep s.heap X t u e→(t=true→C.env.locals∉zw s.heap u)→Rep s'.heap X t u e∧zw s'.heap u=zw s.heap u
theorem FrR.stays(F:FrR T C S)(hk:wx C.env T.sc x a)(haX:a∈S.X)(kk:∀ b o,b≠a→S.s.heap.get? b=some o→h'.get? b=some o):zuq C S.X S.s { S.s with heap:=h',toks:=tk }:=fun {t u e} Ru hl=>
 Rep.updR (V:=fun b=>b=a) (fun b q=>q▸haX) (fun b o n z e=>kk b o n e) Ru fun q b m e=>(F.place hk).elim (fun h=>hl q (h▸e▸m)) fun h=>X11 h fun y h=>v7 Ru h (e▸m)
theorem FrR.stepG(F:FrR T C S)(m:a∈S.W)(kk:∀ b o,b≠a→S.s.heap.get? b=some o→h'.get? b=some o)(sz:S.s.heap.objs.size≤h'.objs.size):zb S.W S.s { S.s with heap:=h',toks:=tk }:=
 zb.step (fun b o n e=>kk b o (fun q=>n (q▸m)) e) sz F.no.1 F.no.2.1 F.no.2.2
theorem FrR.storeV(F:FrR T C S)(hx:zg T.sc x=true)(ho:T.own.contains x=false)(r:Rep S.s.heap S.X false v d)(Q:Unit→Shared→Prop)(E:Value→Shared→Prop)
  (hQ:∀ s',FrR (T.at (upd T.σ x d)) C (S.to s')→zb S.W S.s s'→(∀ b o,b∉S.W→S.s.heap.get? b=some o→s'.heap.get? b=some o)→zuq C S.X S.s s'→Q () s'):wpAny (model prog w) C.A (storeName C.env x v) Q E S.s:=
 X13 (F.keeps hx) fun a haX haW hk=>F.r.store (F.WX _ F.loc) hk haX (by rw [ho];exact ⟨r,fun q=>Bool.noConfusion q⟩) _ _ fun h' tk R' kk sz=>
 have G:=F.stepG (tk:=tk) haW kk (le_of_eq sz.symm)
 hQ _ (F.set R' G) G (fun b o n e=>kk b o (fun q=>n (q▸haW)) e) (F.stays hk haX kk)
theorem zC.reV(R:zC V env sc own σ X h)(hl:∀ x,V' x env.locals)(hs:∀ x d,τ x=some d→σ x=some d∧∀ a,V' x a→V x a):zC V' env sc own τ X h where
 scp:=R.scp
 cod:=R.cod
 kind:=R.kind
 glob:=R.glob
 bi:=R.bi
 ne:=R.ne
 locV:=hl
 inj:=R.inj
 loc:=by
  refine X12 R.loc fun m hn hm=>?_;exact ⟨m,hn,fun x d hx hd=>X02 (hs x d hd) fun h1 h2=>X12 (hm x d hx h1) fun v hv y=>⟨v,hv,y.1,fun q a m h=>y.2 q a m (h2 a h)⟩⟩
 cell:=fun x hx=>by
  refine X14 (R.cell x hx) fun c hc ne hv₀ hd=>?_;exact ⟨c,hc,ne,hv₀,fun d h=>X02 (hs x d h) fun h1 h2=>X12 (hd d h1) fun v h3 y=>⟨v,h3,y.1,fun q a m h=>y.2 q a m (h2 a h)⟩⟩
noncomputable def zuz(rts:Str→List Addr)(x:Str)(as:List Addr):Str→List Addr:=fun y=>if y=x then as else rts y
theorem zpS{as:List Addr}(h:y≠x):zuz rts x as y=rts y:=if_neg h
theorem zpT{as:List Addr}:zuz rts x as x=as:=if_pos rfl
theorem j8{b:Addr}(h:b∈zuz rts x [a] y)(k1:y=x→b=a→M)(k2:y≠x→b∈rts y→M):M:=
 if q:y=x then k1 q (mem_singleton.mp ((if_pos q:zuz rts x [a] y=[a])▸h)) else k2 q ((if_neg q:zuz rts x [a] y=rts y)▸h)
theorem FrR.storeO(F:FrR T C S)(hx:zg T.sc x=true)(ho:T.own.contains x=true)(hxs:x≠qb)(r:Rep S.s.heap S.X true (.ref a) d)(hr:∀ b∈zw S.s.heap (.ref a),b=a)(haW:a∈S.W)(hal:a≠C.env.locals)
  (hac:∀ y c,(T.sc.names.lookup y=some .cell∨T.sc.names.lookup y=some .free)→C.env.cells.lookup y=some c→a≠c)(har:∀ y,y≠x→a∉S.rts y)(Q:Unit→Shared→Prop)(E:Value→Shared→Prop)
  (hQ:∀ s',FrR (T.at (upd T.σ x d)) C ⟨zuz S.rts x [a],S.W,S.X,s'⟩→zb S.W S.s s'→zuq C S.X S.s s'→Q () s'):wpAny (model prog w) C.A (storeName C.env x (.ref a)) Q E S.s:=by
 refine X13 (F.keeps hx) fun b₀ haX hbW hk=>?_;have R1:zC (fun y b=>b∉zuz S.rts x [a] y) C.env T.sc T.own (fun y=>if y=x then none else T.σ y) S.X S.s.heap:=F.r.reV (fun y m=>j8 m (fun v e=>hal e.symm) fun v m=>F.r.locV y m) fun y d hd=>iN hd fun hy hd=>⟨hd,fun b hb m=>hb (rwR (P:=fun l=>b∈l) (zpS hy) m)⟩
 have hσ:upd (fun y=>if y=x then none else T.σ y) x d=upd T.σ x d:=funext fun y=>if h:y=x then (if_pos h).trans (if_pos h).symm else (if_neg h).trans ((if_neg h).trans (if_neg h).symm)
 refine R1.store (F.WX _ F.loc) hk haX (by rw [ho];exact ⟨r,fun v b m h=>h (rwR (P:=fun l=>b∈l) zpT (hr b m▸ .head _))⟩) _ _ fun h' tk R' kk sz=>?_;rw [hσ] at R';have G:=F.stepG (tk:=tk) hbW kk (le_of_eq sz.symm)
 exact hQ _ ⟨R',F.ok.growW G F.Wh,F.WX,F.Wh,F.W0,F.X0,F.loc,F.cells,fun y b m=>j8 m (fun v e=>e▸haW) fun v m=>F.rtsW y b m,
  fun y z hyz b m m'=>j8 m (fun e1 e=>j8 m' (fun e2 v=>hyz (e1.trans e2.symm)) fun hz m'=>har z hz (e▸m')) fun hy m=>j8 m' (fun v e=>har y hy (e▸m)) fun v m'=>F.sep y z hyz b m m',
  fun h=>(if_neg (Ne.symm hxs)).trans (F.pin h),fun y b m z c hz hc=>j8 m (fun v e=>e▸hac z c hz hc) fun v m=>F.rtc y b m z c hz hc,F.hA,F.CO,F.G,F.SO⟩ G (F.stays hk haX kk)
theorem gJ{l:Nat}(R:zC V env sc own σ X s.heap)(hs:pR value=false):swapsWith value (some (.Name x xp)) l env=pure (wd sc x xp value):=by
 have hbk:env.blockKind= .function:=by
  have hk:env.scope.kind= .function:=by rw [R.scp];exact R.kind
  simp [Env.blockKind,hk,ScopeKind.isAnnotationScope]
 have hkd:env.kindOf x=sc.names.lookup x:=by rw [←R.scp];rfl
 unfold swapsWith
 cases value<;>first
  |rfl
  |exact Bool.noConfusion hs
  |(simp only [hbk,hkd,beq_self_eq_true,Bool.true_and];rfl)
theorem zB{M:α→Prop}{a:α}{l:List α}(h1:M a)(h2:∀ b∈l,M b):∀ b∈a::l,M b:=fun b m=>(mem_cons.mp m).elim (fun e=>e▸h1) (h2 b)
noncomputable def FS.wide(S:FS)(a:Addr)(s:Shared):FS:=⟨S.rts,a::S.W,a::S.X,s⟩
theorem FrR.widen(F:FrR T C S)(g:Grow S.s s₁)(ha:S.s.heap.objs.size≤a)(hl:a<s₁.heap.objs.size):FrR T C (S.wide a s₁):=
 have hx:=zp9 (X:=S.X) (h:=S.s.heap) a ha
 ⟨(F.r.addX hx).grow g,F.ok.addX (fun b m=>mem_cons_of_mem _ m) hx (zB hl fun b m=>lt_of_lt_of_le (F.ok.x.lt b m) g.size) g,zB (.head _) fun b m=>.tail _ (F.WX b m),zB (le_trans F.ok.sz ha) F.Wh,zB (fun q=>absurd (F.ok.x.lt _ (F.X0.1 _ q)) (not_lt.mpr ha)) F.W0,
  ⟨fun b m=>.tail _ (F.X0.1 b m),F.X0.2⟩,.tail _ F.loc,fun x c h1 h2=>.tail _ (F.cells x c h1 h2),fun x b m=>.tail _ (F.rtsW x b m),F.sep,F.pin,F.rtc,F.hA,F.CO,F.G,F.SO⟩
theorem Aft.wide(h:n≤a)(s:Shared):Aft n S (S.wide a s):=
 ⟨fun b m=>.tail _ m,fun b m=>(mem_cons.mp m).elim (fun e=>.inr (e▸h)) .inl,fun b m=>.tail _ m,fun b m=>(mem_cons.mp m).elim (fun e=>.inr (e▸h)) .inl⟩
theorem yu(R:Rep h X t (.ref a) d)(hc:jj d=true):∀ b∈zw h (.ref a),b=a:=by
 intro b m;cases R with
 |list r i L=>exact X11 i fun n i=>qH i rfl m
 |dS r n i e L=>exact X33 i fun o' es ep i ex z=>qH i ex.2.1 m
 |dI r n i e L=>exact X33 i fun o' es ep i ex z=>qH i ex.2.1 m
 |tup=>cases hc
 |obj=>cases hc
theorem FrR.cell_lt(F:FrR T C S)(hy:T.sc.names.lookup y=some .cell∨T.sc.names.lookup y=some .free)(hcy:C.env.cells.lookup y=some c):c<S.s.heap.objs.size:=
 X13 (F.r.cell y hy) fun c' hc' z q=>X02 q fun q z=>X11 q fun v q=>X12 q fun o ho z=>sj (hc'.symm.trans hcy)▸lt_size ho
theorem FrR.W_lt(F:FrR T C S){b:Addr}(m:b∈S.W):b<S.s.heap.objs.size:=F.ok.x.lt b (F.WX b m)
theorem zpL(h:SE T value d)(hx:zg T.sc x=true∧pR value=false)(ho:T.own.contains x=true)(c:y5 value d=true∧jj d=true∧wd T.sc x xp value=false∧x≠qb):SX T (exec (.Assign [.Name x xp] value pos)) (upd T.σ x d) .next:=fun C S F Q E hQ=>
 wpAny_Assign_Name (h _ F.good _ _ fun v s₁ o=>X14 (o.f c.1) fun a e ha hl r=>by
  rw [e] at r ⊢;have F1:=F.widen o.g ha hl;have hlt:∀ b∈S.W,b≠a:=fun b m q=>absurd (F.W_lt m) (not_lt.mpr (q▸ha))
  exact F1.storeO hx.1 ho c.2.2.2 r (yu r c.2.1) (.head _) (fun q=>hlt _ F.loc q.symm) (fun y c hy hcy q=>absurd (F.cell_lt hy hcy) (not_lt.mpr (q▸ha))) (fun y z m=>hlt a (F.rtsW y a m) rfl) _ _ fun s₂ F2 G2 z=>
   hQ _ _ ⟨F2,((o.g.toW _).trans G2).narrow (Aft.wide (S:=S) ha s₁).w2,(have a:=Aft.wide (S:=S) ha s₁;⟨a.w1,a.w2,a.x1,a.x2⟩),rfl⟩) (by rw [gJ F.r hx.2,c.2.2.1])
end
end
section
section
variable {C:FC}
theorem zpC(h:SE T value d)(hx:zg T.sc x=true∧pR value=false)(ho:T.own.contains x=false)(hv:qY T.own value=false)(hw:wd T.sc x xp value=false):SX T (exec (.Assign [.Name x xp] value pos)) (upd T.σ x d) .next:=fun C S F Q E hQ=>
 wpAny_Assign_Name (h _ F.good _ _ fun v s₁ o=>(F.grow o.g).storeV hx.1 ho (rwL (P:=fun b=>Rep s₁.heap S.X b v d) hv o.r) _ _ fun s₂ F2 G2 z z=>hQ (S.to s₂) _ (.plain F2 ((o.g.toW _).trans G2) rfl)) (by rw [gJ F.r hx.2,hw])
noncomputable def FS.more(S:FS)(X:List Addr)(s:Shared):FS:=⟨S.rts,S.W,X++S.X,s⟩
theorem FrR.more(F:FrR T C S)(g:Grow S.s s₁)(h1:∀ a∈X,S.s.heap.objs.size≤a)(h2:∀ a∈X,a<s₁.heap.objs.size):FrR T C (S.more X s₁):=
 have hx:∀ a∈X++S.X,a∈S.X∨S.s.heap.objs.size≤a:=fun a m=>(mem_append.mp m).elim (fun m=>.inr (h1 a m)) .inl
 ⟨(F.r.addX hx).grow g,F.ok.addX (fun b m=>mem_append_right _ m) hx (fun a m=>(mem_append.mp m).elim (h2 a) fun m=>lt_of_lt_of_le (F.ok.x.lt a m) g.size) g,fun b m=>mem_append_right _ (F.WX b m),F.Wh,F.W0,⟨fun b m=>mem_append_right _ (F.X0.1 b m),F.X0.2⟩,F.loc,F.cells,F.rtsW,F.sep,F.pin,F.rtc,F.hA,F.CO,F.G,F.SO⟩
theorem Aft.more(h1:∀ a∈X,n≤a)(s s':Shared):Aft n S ((S.more X s).to s'):=
 ⟨fun b m=>m,fun b m=>.inl m,fun b m=>mem_append_right _ m,fun a m=>(mem_append.mp m).elim (fun m=>.inr (h1 a m)) .inl⟩
theorem zyy{Da Cl:Addr}(F:FrR T C S)(hx:zg T.sc x=true)(ho:T.own.contains x=false)(m:zdZ (S.pl C) Da Cl s₁)(r:Rep s₁.heap (Da::Cl::S.X) true (.ref Da) d)(hc:jj d=true)(Q:Flow→Shared→Prop)(E:Value→Shared→Prop)
  (hQ:∀ S' f,zvE T (upd T.σ x d) .next C S S' f→Q f S'.s):compPost (model prog w) C.A E (some (assign (.Name x xp) C.env)) (fun z s'=>Q .next s') (.ref Da) Cl (.ok .next) s₁:=by
 show wpAny _ _ _ _ _ _
 have l1:∀ a∈[Cl],S.s.heap.objs.size≤a:=fun a q=>mem_singleton.mp q▸m.c1;have hlt:∀ b∈S.W,b≠Cl:=fun b mb q=>absurd (F.W_lt mb) (not_lt.mpr (q▸m.c1));have F1:=F.more m.g l1 fun a q=>mem_singleton.mp q▸m.c2;have rv:Rep s₁.heap (Cl::S.X) false (.ref Da) d:=Rep.unown r (fun b mb q=>(mem_cons.mp (yu r hc b mb▸q)).elim (fun q=>m.ne q.symm) fun q=>absurd (F.ok.x.lt _ q) (not_lt.mpr m.d1)) fun b mb=>.tail _ mb;refine PySem.wpAny_assign_Name (F1.storeV hx ho rv _ _ fun s₂ F2 G2 kk z=>X11 m.ns fun mm hn=>⟨mm,hn.at' fun o e=>kk _ o (fun q=>hlt _ q rfl) e,fun h' sb=>?_⟩);have k':∀ b o,b≠Cl→s₂.heap.get? b=some o→h'.get? b=some o:=fun b o n e=>sb.extBut b o n e;have hL:=F.ok.lts;have n:∀ {a:Addr},a<S.s.heap.objs.size→a∉[Cl]:=fun l q=>absurd l (not_lt.mpr (l1 _ q));have G3:zb [Cl] s₂ { s₂ with heap:=h',toks:=s₂.toks }:=zb.step (fun b o n e=>k' b o (fun q=>n (mem_singleton.mpr q)) e) (le_of_eq sb.1.symm) (n hL.1) (n hL.2.1) (n hL.2.2);have R3:=F2.r.chg (h':=h') (Z:=fun b=>b=Cl) (fun b q=>q▸ .head _) (fun y b q mb=>hlt b (F.rtsW y b mb) q) (fun q=>hlt _ F.loc q) (fun y c hy hcy q=>absurd (F.cell_lt hy hcy) (not_lt.mpr (q▸m.c1))) fun b o n z e=>k' b o n e;have K3:=F2.ok.growW G3 fun b mb=>le_trans F.ok.sz (l1 b mb)
 exact hQ ((S.more [Cl] s₁).to { s₂ with heap:=h' }) _ ⟨⟨R3,K3,F2.WX,F2.Wh,F2.W0,F2.X0,F2.loc,F2.cells,F2.rtsW,F2.sep,F2.pin,F2.rtc,F2.hA,F2.CO,F2.G,F2.SO⟩,
  (((m.g.toW (Cl::S.W)).trans (G2.mono fun b mb=>mem_cons_of_mem _ mb)).trans (G3.mono fun b mb=>mem_singleton.mp mb▸ .head _)).narrow fun b mb=>(mem_cons.mp mb).elim (fun e=>.inr (e▸m.c1)) .inl,Aft.more l1 _ _,rfl⟩
theorem zkT{comp:Env→Sem Value}(hx:zg T.sc x=true∧pR value=false)(ho:T.own.contains x=false)(hw:wd T.sc x xp value=true)(hc:jj d=true)
  (he:∀ env,evalThenUse value env (assign (.Name x xp) env)=(comp env >>= fun z=>pure ()))
  (h:∀ {C:FC} {S:FS},FrR T C S→∀ (Q:Value→Shared→Prop) (E:Value→Shared→Prop),(∀ Da Cl s',zdZ (S.pl C) Da Cl s'→Rep s'.heap (Da::Cl::S.X) true (.ref Da) d→compPost (model prog w) C.A E (some (assign (.Name x xp) C.env)) Q (.ref Da) Cl (.ok .next) s')→wpAny (model prog w) C.A (comp C.env) Q E S.s):
  SX T (exec (.Assign [.Name x xp] value pos)) (upd T.σ x d) .next:=fun C S F Q E hQ=>by
 have hsw:swapsWith value (some (.Name x xp)) pos.line C.env=pure true:=by rw [gJ F.r hx.2,hw]
 rw [exec_Assign_Name_used _ _ _ _ hsw];refine wpAny_bind (wpAny_standAt (wpAny_bind ?_));rw [he];exact wpAny_bind (wpAny_mono (h F (fun z s'=>Q .next s') E fun Da Cl s' m r=>zyy F hx.1 ho m r hc Q E hQ) (fun z z q=>wpAny_pure (wpAny_pure q)) fun z z e=>e)
theorem zuj{vpos:Pos}{gens:List Comprehension}{out:List D}(ih:k9 p)(h:vj p T scope gens (fun T=>if qY T.own elt=true then none else p.e T elt fun d=>some [d])=some out)(hl:out.length≤zz)(hx:zg T.sc x=true)(ho:T.own.contains x=false)(hw:wd T.sc x xp (.ListComp elt gens scope vpos)=true):
  SX T (exec (.Assign [.Name x xp] (.ListComp elt gens scope vpos) pos)) (upd T.σ x (.list out)) .next:=
 zkT ⟨hx,rfl⟩ ho hw rfl (comp:=fun env=>comprehension (.ListComp elt gens scope vpos) scope env _ (newList []) (firstAsync gens) (firstIter gens env) (some (assign (.Name x xp) env))) (fun z=>rfl) fun {C S} F Q E hQ=>zfb ih h hl F.good (some (assign (.Name x xp) C.env)) _ Q E hQ
theorem zzG{K:Type}[DecidableEq K](B:KB K)(hc:∀ l,jj (B.mkd l)=true){vpos:Pos}{gens:List Comprehension}{out:List (D × D)}{kds:List (K × D)}(ih:k9 p)(h:vj p T scope gens (fun T=>if qY T.own vx=true then none else p.e T kx fun kd=>p.e T vx fun vd=>some [(kd,vd)])=some out)(hl:out.length≤zz)(hk:qp B.keyf out=some kds)
  (hx:zg T.sc x=true)(ho:T.own.contains x=false)(hw:wd T.sc x xp (.DictComp kx vx gens scope vpos)=true):SX T (exec (.Assign [.Name x xp] (.DictComp kx vx gens scope vpos) pos)) (upd T.σ x (B.mkd (zD [] kds))) .next:=
 zkT ⟨hx,rfl⟩ ho hw (hc _) (comp:=fun env=>comprehension (.DictComp kx vx gens scope vpos) scope env _ newDict (firstAsync gens) (firstIter gens env) (some (assign (.Name x xp) env))) (fun z=>rfl) fun {C S} F Q E hQ=>zfd B ih h hl hk F.good (some (assign (.Name x xp) C.env)) _ Q E hQ
end
end
variable {ts:List Expr}
section
section
variable {C:FC}
theorem yg{l:Nat}(h:nmE tgt=none):swapsWith value (some tgt) l env=pure false:=by
 cases value with
 |ListComp=>cases tgt with
  |Name=>cases h
  |_=>rfl
 |SetComp=>cases tgt with
  |Name=>cases h
  |_=>rfl
 |DictComp=>cases tgt with
  |Name=>cases h
  |_=>rfl
 |_=>rfl
theorem pT(h:gZ value=false):swappedStores [tgt] value env=pure none:=by
 cases tgt with
 |Tuple=>cases value with
  |Tuple=>cases h
  |_=>rfl
 |List=>cases value with
  |Tuple=>cases h
  |_=>rfl
 |_=>rfl
theorem zpO{tpos:Pos}(h:SE T value d)(c:xg T.own T.sc (.Tuple ts q tpos)=true∧qY T.own value=false∧gZ value=false)(hb:j6 (.Tuple ts q tpos) d T.σ=some τ):SX T (exec (.Assign [.Tuple ts q tpos] value pos)) τ .next:=fun C S F Q E hQ=>
 wpAny_Assign_stores (h _ F.good _ _ fun v s₁ o=>(F.grow o.g).bind c.1 hb (rwL (P:=fun b=>Rep s₁.heap S.X b v d) c.2.1 o.r) _ _ fun s₂ F2 G2=>hQ (S.to s₂) _ (.plain F2 ((o.g.toW _).trans G2) rfl)) (show swapsWith value (some (.Tuple ts q tpos)) pos.line C.env=_ from yg rfl) (pT c.2.2)
theorem zpA{z:Str}{yp zp:Pos}(h:SE T value d)(hv:qY T.own value=false)(hx:zg T.sc x=true∧T.own.contains x=false)(hy:zg T.sc y=true∧T.own.contains y=false)(hz:zg T.sc z=true∧T.own.contains z=false):
  SX T (exec (.Assign [.Name x xp,.Name y yp,.Name z zp] value pos)) (upd (upd (upd T.σ x d) y d) z d) .next:=fun C S F Q E hQ=>
 wpAny_Assign_stores (h _ F.good _ _ fun v s₁ o=>by
  have r:=rwL (P:=fun b=>Rep s₁.heap S.X b v d) hv o.r;refine wpAny_bind (wpAny_holding (PySem.wpAny_assign_Name ((F.grow o.g).storeV hx.1 hx.2 r _ _ fun s₂ F2 G2 u k2=>?_)));have r2:=(k2 r fun q=>Bool.noConfusion q).1;refine wpAny_bind (wpAny_holding (PySem.wpAny_assign_Name (F2.storeV hy.1 hy.2 r2 _ _ fun s₃ F3 G3 u k3=>?_)));exact PySem.wpAny_assign_Name (F3.storeV hz.1 hz.2 (k3 r2 fun q=>Bool.noConfusion q).1 _ _ fun s₄ F4 G4 u u=>hQ (S.to s₄) _ (.plain F4 ((((o.g.toW _).trans G2).trans G3).trans G4) rfl))) rfl (by cases value<;>rfl)
theorem vK{a b:D}(h:zvf a b=some r)(R:Rep s.heap X t v a)(R':Rep s.heap X t' u b):zj A X (inplaceOp .Add v u) s r:=
 bE h fun i h1 h=>X12 (map_some h) fun j h2 h=>
 h▸Rep.intE (M:=fun v=>zj A X (inplaceOp .Add v u) s _) (zW h1▸R) fun z=>Rep.intE (M:=fun u=>zj A X (inplaceOp .Add _ u) s _) (zW h2▸R') fun z=>q9 fun Q E q=>AutoIntOps.iadd_0 q
theorem zfs{a b:D}(c:T.own.contains x=false∧zg T.sc x=true∧jq T.sc x=true)(ha:T.σ x=some a)(h:SE T value b)(hr:zvf a b=some r):SX T (exec (.AugAssign (.Name x xp) .Add value pos)) (upd T.σ x r) .next:=fun C S F Q E hQ=>
 wpAny_AugAssign_Name (F.r.nameV (pos:=default) c.2.2 ha fun v z y=>h _ F.good _ _ fun u s₁ o=>vK hr (Rep.grow o.g y.1) o.r _ _ fun v' s₂ g2 r2=>
  ((F.grow o.g).grow g2).storeV c.2.1 c.1 r2 _ _ fun s₃ F3 G3 z z=>hQ (S.to s₃) _ (.plain F3 (((o.g.trans g2).toW _).trans G3) rfl)).2
theorem gY{k:Int}{t:Tok}{Q:Unit→Shared→Prop}(hl:s.heap.PlainList l items)
  (h0:0≤k)(hfit:k<2 ^ 63)(hn:k<items.size)
  (hQ:∀ h',h'.PlainList l (items.setIfInBounds k.toNat v)→SameBut l s.heap h'→Q () { s with heap:=h' }):
  wpAny (model prog w) A (setItem (.ref l) (.int k t) v) Q E s:=by
 (refine X11 hl fun ne ho=>?_;try clear hl)
 have hT:s.TypeIs (.ref l) "list":=⟨_,ho,rfl⟩
 unfold setItem
 try with_reducible refine wpAny_holding ?_
 first|refine wpAny_bind (wpAny_pure ?_)|skip
 refine wpAny_bind (wpAny_sequenceKey hT (by decide) ?_)
 refine wpAny_bind (wpAny_callSpecial?_slot (name:=ofString "__setitem__") hT slot_list_setitem
  (wpAny_call_entry slot_list_setitem hT entry_list_setitem ?_ (args_list_setitem _ _ _)))
 show wpAny _ _ (Builtin.List.listSubscript? (.int k t) >>= _) _ _ s
 refine wpAny_bind (wpAny_listSubscript_int (fitsIndex_of h0 hfit) ?_);clear hfit
 (refine X11 (Int.eq_ofNat_of_zero_le h0) fun j z1=>?_;subst z1)
 have hj:j<items.size:=by lia
 have hx':items[j]? =some items[j]:=Array.getElem?_eq_getElem hj
 show wpAny _ _ ((seqItemAt l j >>= fun r=>pure (r.map (j, ·))) >>= _) _ _ s
 refine wpAny_bind (wpAny_bind (wpAny_seqItemAt ho rfl (wpAny_pure ?_)));rw [hx']
 show wpAny _ _ (setSeqItemAt l j v >>= _) _ _ s
 have hm:∃ n',Obj.mapSeq (·.setIfInBounds j v) { cls:=.type "list",data:=.seq items ne }={ cls:=.type "list",data:=.seq (items.setIfInBounds j v) n' }:=by
  simp [Obj.mapSeq]
 refine X11 hm fun n' hm=>?_
 have hfin:(s.heap.update l (Obj.mapSeq (·.setIfInBounds j v))).PlainList l (items.setIfInBounds j v):=
  ⟨n',by rw [get?_update_self _ ho (by rw [hm];rfl),hm]⟩
 refine wpAny_bind (wpAny_setSeqItemAt ho rfl ?_)
 first
  |exact wpAny_bind (wpAny_pure (wpAny_pure ⟨.none,rfl,wpAny_pure (hQ _ hfin (SameBut.update ..))⟩))
  |exact wpAny_pure ⟨.none,rfl,wpAny_pure (hQ _ hfin (SameBut.update ..))⟩
theorem FrR.mutO(F:FrR T C S)(ho:T.own.contains x=true)(N:xc C.env T.sc S.s.heap x (.ref a))(hd:T.σ x=some d)(kk:∀ b o,b∉zw S.s.heap (.ref a)→S.s.heap.get? b=some o→h'.get? b=some o)(sz:S.s.heap.objs.size≤h'.objs.size)
  (r':Rep h' S.X true (.ref a) r)(hroot:zw h' (.ref a)=zw S.s.heap (.ref a)):FrR (T.at (upd T.σ x r)) C (S.to { S.s with heap:=h',toks:=tk })∧zb S.W S.s { S.s with heap:=h',toks:=tk }:=
 have y:=N.ok F.r hd;have har:∀ b∈zw S.s.heap (.ref a),b∈S.rts x:=fun b m=>Decidable.not_not.mp (y.2 ho b m);have G:zb S.W S.s { S.s with heap:=h',toks:=tk }:=zb.step (fun b o n e=>kk b o (fun q=>n (F.rtsW x b (har b q))) e) sz F.no.1 F.no.2.1 F.no.2.2
 ⟨F.set (F.r.mut (Z:=fun b=>b∈zw S.s.heap (.ref a)) N (fun b q=>F.WX b (F.rtsW x b (har b q))) (fun y b hy q m=>F.sep x y (Ne.symm hy) b (har b q) m) (fun q=>F.r.locV x (har _ q)) (fun y c hy hc q=>F.rtc x c (har c q) y c hy hc rfl) (fun b o n z e=>kk b o n e)
  (by rw [ho];exact ⟨r',fun z b m n=>n (har b (hroot▸m))⟩)) G,G⟩
theorem FrR.inX(F:FrR T C S)(ho:T.own.contains x=true)(y:VOk S.s.heap S.X (T.own.contains x) (fun a=>a∉S.rts x) (.ref a) d):a∈S.X:=
 F.WX _ (F.rtsW x a (Decidable.not_not.mp (y.2 ho a (.head _))))
theorem zu.set(r:Rep h X false v d):∀ {vs:List Value} (i:Nat),zu h X vs ds→zu h X (vs.set i v) (ds.set i d):=by
 induction ds with
 |nil=>exact fun {vs} i L=>zu.nilE (M:=fun vs=>zu h X (vs.set i v) ([].set i d)) L .nil
 |cons e ds ih=>
  exact fun {vs} i L=>zu.consE (M:=fun vs=>zu h X (vs.set i v) ((e::ds).set i d)) L fun u us a b=>by
   cases i with
   |zero=>exact .cons r b
   |succ i=>exact .cons a (ih i b)
theorem zkL{o:Obj}(e:h.get? a=some o)(n:o.dict=none):zw h (.ref a)=[a]:=by
 have key:∀ q:Option Obj,q=some o→(a::(match q with
  |some o=>o.dict.toList
  |none=>[]):List Addr)=[a]:=fun q e=>by rw [e];exact congrArg (fun q:Option Addr=>a::q.toList) n
 exact key _ e
theorem zgW{K:Type}[DecidableEq K]{knd:PySem.KeyKind prog w K}{kvs:List (K × Value)}(i:h.DictOf knd a kvs):zw h (.ref a)=[a]:=
 X33 i fun z z z i ex z=>
 zkL i ex.2.1
theorem off(m:a∈X)(sb:SameBut a h h'):∀ b o,b∉X→h.get? b=some o→h'.get? b=some o:=fun b o n e=>sb.extBut b o (fun q=>n (q▸m)) e
theorem zpE{γ:Type}{f:α→γ}{g:β→γ}{l:List α}{l':List β}(e:l.map f=l'.map g):l.length=l'.length:=by
 rw [←length_map (f:=f),e,length_map]
theorem FrR.mut(F:FrR T C S)(ho:T.own.contains x=true)(N:xc C.env T.sc S.s.heap x (.ref a))(hd:T.σ x=some d)(sb:SameBut a S.s.heap h')(h1:zw S.s.heap (.ref a)=[a])(h2:zw h' (.ref a)=[a])(r':Rep h' S.X true (.ref a) r):
  FrR (T.at (upd T.σ x r)) C (S.to { S.s with heap:=h',toks:=tk })∧zb S.W S.s { S.s with heap:=h',toks:=tk }:=
 F.mutO ho N hd (fun b o n e=>sb.extBut b o (fun q=>n (h1.symm▸q▸ .head _)) e) (le_of_eq sb.1.symm) r' (h2.trans h1.symm)
theorem zuy{ov iv:Value}{k:Int}{ti:Bool}(F:FrR T C S)(ho:T.own.contains x=true)(N:xc C.env T.sc S.s.heap x ov)(hd:T.σ x=some (.list ds))(ri:Rep S.s.heap S.X ti iv (.int k))(rv:Rep S.s.heap S.X false v d)(c:0≤k∧k<ds.length∧ds.length≤zz)
  (Q:Unit→Shared→Prop)(E:Value→Shared→Prop)(hQ:∀ s',FrR (T.at (upd T.σ x (.list (ds.set k.toNat d)))) C (S.to s')→zb S.W S.s s'→Q () s'):wpAny (model prog w) C.A (setItem ov iv v) Q E S.s:=by
 have y:=N.ok F.r hd;refine X34 y.1.inv fun a vs n e ro i L=>X11 ri.inv fun j ej=>?_;rw [e] at N y;rw [e,ej];have hl:vs.size=ds.length:=L.length;have h1:k<vs.size:=hl.symm▸c.2.1;refine gY ⟨n,i⟩ c.1 (Int.lt_of_lt_of_le h1 (Int.le_trans (ofNat_le.mpr (hl.symm▸c.2.2)) (by decide))) h1 fun h' hp sb=>X11 hp fun n' hp=>?_;have kk:=off (F.inX ho y) sb;have FG:=F.mut (tk:=S.s.toks) ho N hd sb (zkL i rfl) (zkL hp rfl) (.list (ho▸ro) ⟨n',hp⟩ (Array.toList_setIfInBounds .. ▸zu.set (Rep.upd kk rv) _ (zu.upd kk L)));exact hQ _ FG.1 FG.2
theorem zzP{K:Type}[DecidableEq K](B:KB K){kvs:List (K × D)}{k:K}{ov iv:Value}{ti:Bool}(F:FrR T C S)(ho:T.own.contains x=true)(N:xc C.env T.sc S.s.heap x ov)(hd:T.σ x=some (B.mkd kvs))(ri:Rep S.s.heap S.X ti iv (B.key k))(rv:Rep S.s.heap S.X false v d)(hc:kvs.length≤zz)
  (Q:Unit→Shared→Prop)(E:Value→Shared→Prop)(hQ:∀ s',FrR (T.at (upd T.σ x (B.mkd (qc kvs k d)))) C (S.to s')→zb S.W S.s s'→Q () s'):wpAny (model prog w) C.A (setItem ov iv v) Q E S.s:=by
 have y:=N.ok F.r hd;refine X22 (B.inv y.1) fun a ks e dr=>?_;rw [e] at N y;rw [e];refine wpAny_setItem_pairs (B.hkey ri) dr.dict (fun h' hp sb=>?_) (zn (zpE dr.keys▸hc));have m:=yx (k:=k) dr.keys dr.vals rv;have FG:=F.mut (tk:=S.s.toks+1) ho N hd sb (zgW dr.dict) (zgW hp) (B.hmk ⟨ho▸dr.root,dr.mods,hp,m.1,zu.upd (off (F.inX ho y) sb) m.2⟩);exact hQ _ FG.1 FG.2
theorem zkC{ov iv:Value}{di dx:D}{ti:Bool}(F:FrR T C S)(ho:T.own.contains x=true)(N:xc C.env T.sc S.s.heap x ov)(hd:T.σ x=some dx)(ri:Rep S.s.heap S.X ti iv di)(rv:Rep S.s.heap S.X false v d)(h:zzK dx di d=some r)
  (Q:Unit→Shared→Prop)(E:Value→Shared→Prop)(hQ:∀ s',FrR (T.at (upd T.σ x r)) C (S.to s')→zb S.W S.s s'→Q () s'):wpAny (model prog w) C.A (setItem ov iv v) Q E S.s:=by
 have hq:∀ {r'},r'=r→∀ s',FrR (T.at (upd T.σ x r')) C (S.to s')→zb S.W S.s s'→Q () s':=fun e=>e▸hQ;cases dx with
 |list ds=>exact bE h fun k h1 h=>iE h fun c h=>zuy F ho N hd (zW h1▸ri) rv c Q E (hq (sj h))
 |dS kvs=>exact bE h fun k h1 h=>iE h fun c h=>zzP kbS F ho N hd (zpD h1▸ri) rv c Q E (hq (sj h))
 |dI kvs=>exact bE h fun k h1 h=>iE h fun c h=>zzP kbI F ho N hd (zW h1▸ri) rv c Q E (hq (sj h))
 |_=>exact zq h
theorem zpI{sp:Pos}{i:Expr}{di dx:D}(c:T.own.contains x=true∧qY T.own value=false∧jq T.sc x=true∧zg T.sc x=true)(h:SE T value d)(hi:SE T i di)(hd:T.σ x=some dx)(hs:zzK dx di d=some r):SX T (exec (.Assign [.Subscript (.Name x xp) i sp] value pos)) (upd T.σ x r) .next:=fun C S F Q E hQ=>
 wpAny_Assign_Subscript (h _ F.good _ _ fun v s₁ o=>have F1:=F.grow o.g
  (F1.r.nameV c.2.2.1 hd fun ov N y=>hi _ F1.good _ _ fun iv s₂ o2=>zkC (F1.grow o2.g) c.1 (N.grow F1.r o2.g) hd o2.r (Rep.grow o2.g (rwL (P:=fun b=>Rep s₁.heap S.X b v d) c.2.1 o.r)) hs _ _ fun s₃ F3 G3=>hQ (S.to s₃) _ (.plain F3 (((o.g.trans o2.g).toW _).trans G3) rfl)).1) (yg rfl)
theorem zbq{sp:Pos}{i:Expr}{a b di dx dx':D}(c:T.own.contains x=true∧jq T.sc x=true∧zg T.sc x=true∧zn8 i=false)(hd:T.σ x=some dx)(hi:SE T i di)(h:SE T value b)(ha:zY dx di=some a)(hr:zvf a b=some r)(hs:zzK dx di r=some dx'):
  SX T (exec (.AugAssign (.Subscript (.Name x xp) i sp) .Add value pos)) (upd T.σ x dx') .next:=fun C S F Q E hQ=>
 wpAny_AugAssign_Subscript_any ((F.r.nameV c.2.1 hd fun ov N y=>hi _ F.good _ _ fun iv s₁ o1=>vc (Rep.grow o1.g y.1) o1.r ha _ _ fun old s₂ g2 r2=>h _ ((F.grow o1.g).grow g2).good _ _ fun u s₃ o3=>vK hr (Rep.grow o3.g r2) o3.r _ _ fun new s₄ g4 r4=>
  have g:=((o1.g.trans g2).trans o3.g).trans g4
  zkC (F.grow g) c.1 (N.grow F.r g) hd (Rep.grow ((g2.trans o3.g).trans g4) o1.r) r4 hs _ _ fun s₅ F5 G5=>hQ (S.to s₅) _ (.plain F5 ((g.toW _).trans G5) rfl)).1) (by cases i<;>first|exact fun z z z=>rfl|exact Bool.noConfusion c.2.2.2)
theorem zkO{cp:Pos}(ho:T.own.contains x=true)(hx:jq T.sc x=true)(hv:qY T.own e=false)(hl:(ap.endLine==cp.line)=true)(hs:zl [e]=true)(hd:T.σ x=some (.list ds))(h:SE T e d)(hc:ds.length≤zz):
  SX T (exec (.Expr (.Call (.Attribute (.Name x xp) "append" ap) [e] [] cp) pos)) (upd T.σ x (.list (ds++[d]))) .next:=fun C S F Q E hQ=>by
 have e1:=(qU (env:=C.env) (es:=[]) hs).1;have hk:C.env.scope.kind= .function:=F.r.scp▸F.r.kind;have hi:interactive C.env=false:=by unfold interactive;rw [hk];rfl
 refine wpAny_Expr_any (wpAny_Call_append rfl (by rw [e1];rfl) hl (by rw [e1];rfl) ((F.r.nameV hx hd fun ov N y=>X34 y.1.inv fun a vs n e ro i L=>?_).1)) hi rfl;rw [e] at N y;refine ⟨a,vs,e,⟨_,n,i,rfl,rfl,rfl⟩,h _ F.good _ _ fun u s₁ o=>?_⟩;have i1:=o.g.keep _ _ ro.ne i;refine wpAny_list_append_plain (items:=vs) ⟨n,i1⟩ (fun h' hp sb=>X11 hp fun n' hp=>?_) (zn (le_trans (le_of_eq (show vs.size=ds.length from L.length)) hc));have kk:=off (F.inX ho y) sb;have FG:=(F.grow o.g).mut (tk:=s₁.toks) ho (N.grow F.r o.g) hd sb (zkL i1 rfl) (zkL hp rfl) (.list (ho▸ro) ⟨n',hp⟩ (by rw [Array.toList_push];exact (zu.upd kk (L.grow o.g)).append (.cons (Rep.upd kk (rwL (P:=fun b=>Rep s₁.heap S.X b u d) hv o.r)) .nil)));exact hQ (S.to _) _ (.plain FG.1 ((o.g.toW _).trans FG.2) rfl)
end
end
section
section
variable {C:FC}
theorem FrR.iter{wr:List Addr}(F:FrR T C S)(kk:∀ b o,b∉wr→S.s.heap.get? b=some o→h'.get? b=some o)(sz:S.s.heap.objs.size≤h'.objs.size)(hX:∀ b∈wr,b∈S.X)(hW:∀ b∈wr,b∉S.W)
  (hh:∀ b∈wr,h₀.objs.size≤b)(hc:∀ y c,(T.sc.names.lookup y=some .cell∨T.sc.names.lookup y=some .free)→C.env.cells.lookup y=some c→c∉wr):
  FrR T C (S.to { S.s with heap:=h',toks:=tk })∧zb wr S.s { S.s with heap:=h',toks:=tk }:=
 have n:∀ {a:Addr},a<h₀.objs.size→a∉wr:=fun l m=>absurd l (not_lt.mpr (hh _ m));have G:zb wr S.s { S.s with heap:=h',toks:=tk }:=zb.step kk sz (n F.ok.ccs.1) (n F.ok.ccs.2.2.2.1) (n F.ok.ccs.2.2.2.2.1)
 ⟨⟨F.r.chg (Z:=fun b=>b∈wr) hX (fun y b m q=>hW b m (F.rtsW y b q)) (fun m=>hW _ m F.loc) hc (fun b o n z e=>kk b o n e),F.ok.growW G hh,F.WX,F.Wh,F.W0,F.X0,F.loc,F.cells,F.rtsW,F.sep,F.pin,F.rtc,F.hA,F.CO,F.G,F.SO⟩,G⟩
theorem zkA{f:Sg→Option (Sg × Fl)}(h:zyF f tgt (d::ds) σ=some (τ,fl))
  (k:∀ σ' σ'' fl',j6 tgt d σ=some σ'→f σ'=some (σ'',fl')→(match fl' with
   | .next=>zyF f tgt ds σ''=some (τ,fl)
   | .brk=>σ''=τ∧fl= .next
   | .ret r=>σ''=τ∧fl= .ret r)→M):M:=by
 unfold zyF at h;cases e1:j6 tgt d σ with
 |none=>rw [e1] at h;exact zq h
 |some σ'=>
  rw [e1] at h;dsimp only at h;cases e2:f σ' with
  |none=>rw [e2] at h;exact zq h
  |some q=>
   rw [e2] at h;obtain ⟨σ'',fl'⟩:=q;refine k σ' σ'' fl' e1 e2 ?_;cases fl' with
   |next=>exact h
   |brk=>have h:=Prod.mk.inj (sj h);exact ⟨h.1,h.2.symm⟩
   |ret r=>have h:=Prod.mk.inj (sj h);exact ⟨h.1,h.2.symm⟩
structure LP where
 T:Sc
 C:FC
 S:FS
 τ:Sg
 fl:Fl
 f:Sg→Option (Sg × Fl)
 tgt:Expr
 body:List Stmt
 ds:List D
 fp:List Addr
 wr:List Addr
 s₂:Shared
 St:Nat→Heap→Prop
 Q:Flow→Shared→Prop
section
variable (L:LP)
noncomputable def LP.S₂:FS:=L.S.more L.wr L.s₂
structure LP.Ok:Prop where
 hp:xg L.T.own L.T.sc L.tgt=true
 hf:∀ {σ σ' fl},L.f σ=some (σ',fl)→SX (L.T.at σ) (execs L.body) σ' fl
 sub:∀ b∈L.wr,b∈L.fp
 lt:∀ b∈L.fp,b<L.s₂.heap.objs.size
 out:∀ b∈L.fp,b∉L.S.W
 ne:∀ b∈L.fp,b≠P₀∧b≠cStatics
 hcells:∀ y c,(L.T.sc.names.lookup y=some .cell∨L.T.sc.names.lookup y=some .free)→L.C.env.cells.lookup y=some c→c∉L.wr
 hh:∀ b∈L.wr,h₀.objs.size≤b
 fin:∀ {S' f'},FrR (L.T.at L.τ) L.C S'→zb (L.S.W++L.wr) L.s₂ S'.s→Aft L.s₂.heap.objs.size L.S₂ S'→FlR L.C.X₀ S'.s.heap L.fl f'→L.Q f' S'.s
structure LP.At(i:Nat)(σ:Sg)(S:FS):Prop where
 hi:i≤L.ds.length
 fo:zyF L.f L.tgt (L.ds.drop i) σ=some (L.τ,L.fl)
 st:L.St i S.s.heap
 F:FrR (L.T.at σ) L.C S
 G:zb (L.S.W++L.wr) L.s₂ S.s
 a:Aft L.s₂.heap.objs.size L.S₂ S
def LP.Inv(n:Nat)(s:Shared):Prop:=∃ i σ S,n=L.ds.length - i∧S.s=s∧L.At i σ S
end
section
variable {L:LP}
theorem LP.Ok.disj(H:L.Ok)(a:Aft L.s₂.heap.objs.size L.S₂ S'):∀ b∈L.fp,b∉S'.W:=fun b m q=>(a.w2 b q).elim (H.out b m) fun h=>absurd (H.lt b m) (not_lt.mpr h)
theorem LP.wid{s'':Shared}(a:Aft L.s₂.heap.objs.size L.S₂ S')(G:zb (L.S.W++L.wr) L.s₂ s')(G':zb S'.W s' s''):zb (L.S.W++L.wr) L.s₂ s'':=
 ((zb.mono G (W:=S'.W++L.wr) fun b m=>(mem_append.mp m).elim (fun m=>mem_append_left _ (a.w1 b m)) (mem_append_right _)).trans (zb.mono G' fun b m=>mem_append_left _ m)).narrow fun b m=>(mem_append.mp m).elim (fun m=>(a.w2 b m).imp (mem_append_left _) id) fun m=>.inl (mem_append_right _ m)
theorem LP.Ok.turn(H:L.Ok){lo:Nat}{I:Addr}{Mid:Nat→Value→Heap→Prop}(S:Src L.C.A lo L.s₂.heap L.S.X t tp I L.ds L.fp L.wr L.St Mid)(hlo2:lo≤L.s₂.heap.objs.size)(ht:¬ (tp=true∧wj L.tgt=false))
  {R:Result→Shared→Prop}(hR:∀ f s,L.Q f s→R (.ok f) s)(hI:L.Inv n s):
  wpAny (model prog w) L.C.A (pyNext (.ref I)) (fun r s₁=>match r with
   |none=>wpAny (model prog w) L.C.A (execs [] L.C.env) (fun f s₃=>R (.ok f) s₃) E s₁
   |some v=>wpAny (model prog w) L.C.A (letOwnedTupleGo L.tgt (.ref I) v) (fun z s₁'=>
     wpAny (model prog w) L.C.A (assign L.tgt L.C.env v) (fun z s₂=>wpAny (model prog w) L.C.A (execs L.body L.C.env) (fun f s₃=>match f with
      | .next| .cont=>∃ m,m<n∧L.Inv m s₃
      | .brk=>R (.ok .next) s₃
      | .ret v=>R (.ok (.ret v)) s₃) E s₂) E s₁') E s₁) E s:=by
 refine X33 hI fun i σi Si hn es T=>?_;rw [hn, ←es];clear hI hn es;have x:=T.F.ok.x;have hwX:∀ b∈L.wr,b∈Si.X:=fun b m=>T.a.x1 b (mem_append_left _ m);have hwW:∀ b∈L.wr,b∉Si.W:=fun b m=>H.disj T.a b (H.sub b m);have hwrm:∀ b∈L.wr,b∈L.S.W++L.wr:=fun b m=>mem_append_right _ m;rcases lt_or_ge i L.ds.length with hlt|hge
 ·refine zkA (rwL (P:=fun l=>zyF L.f L.tgt l σi=some (L.τ,L.fl)) (List.drop_eq_getElem_cons hlt) T.fo) fun σ' σ'' fl' hb hfb hnx=>?_;refine qg (S.item i Si.s _ _ _ (getElem?_eq_getElem hlt) T.st fun v h' tk hrep hmid kk sz=>?_)
  replace sz:Si.s.heap.objs.size≤h'.objs.size:=sz
  have rv:=hrep Si.X x.mem.1 x.mem.2 (fun b m=>⟨x.lt b m,(T.a.x2 b m).elim (fun q=>(mem_append.mp q).elim (fun q=>.inr (S.new b q)) .inl) fun l=>.inr (le_trans hlo2 l)⟩) fun b o n e=>
   kk b o (fun m=>n (hwX b m)) (zb.keep T.G b o (fun m=>(mem_append.mp m).elim (fun m=>n (T.F.WX b (T.a.w1 b m))) fun m=>n (hwX b m)) ⟨fun q=>n (q▸x.mem.1),fun q=>n (q▸x.mem.2)⟩ e)
  have FG4:=FrR.iter (tk:=tk) T.F kk sz hwX hwW H.hh H.hcells;refine qg (S.go L.tgt i v _ _ _ (fun q=>vJ (zgJ ht q)) hmid fun h'' tk' hst₂ kk' sz'=>?_)
  replace sz':h'.objs.size≤h''.objs.size:=sz'
  have FG5:=FrR.iter (tk:=tk') FG4.1 kk' sz' hwX hwW H.hh H.hcells;refine FG5.1.bind H.hp hb (Rep.upd (fun b o n e=>kk' b o (fun m=>n (hwX b m)) e) rv) _ _ fun s₆ F6 G6=>?_;have G26:=LP.wid T.a ((zb.trans T.G (FG4.2.mono hwrm)).trans (FG5.2.mono hwrm)) G6;have st6:L.St (i+1) s₆.heap:=S.frame _ _ _ hst₂ fun b m o e=>G6.keep b o (H.disj T.a b m) (H.ne b m) e;refine H.hf hfb L.C _ F6 _ _ fun S₇ f₇ y=>?_;have a27:Aft L.s₂.heap.objs.size L.S₂ S₇:=T.a.trans ⟨y.a.w1,y.a.w2,y.a.x1,y.a.x2⟩ (zb.size G26);have G27:=LP.wid a27 G26 (y.g.mono y.a.w1);have fr:=y.fr;cases fl' with
  |next=>
   have fr:f₇= .next:=fr
   rw [fr];exact ⟨_,Nat.sub_lt_sub_left hlt (lt_succ_self i),i+1,σ'',S₇,rfl,rfl,hlt,hnx,S.frame _ _ _ st6 fun b m o e=>y.g.keep b o (H.disj T.a b m) (H.ne b m) e,y.F,G27,a27⟩
  |brk=>
   have fr:f₇= .brk:=fr;rw [fr];exact hR _ _ (H.fin (hnx.1▸y.F) G27 a27 (hnx.2▸rfl))
  |ret d'=>
   refine X12 fr fun v' e rv'=>?_;rw [e];exact hR _ _ (H.fin (hnx.1▸y.F) G27 a27 (hnx.2▸⟨v',rfl,rv'⟩))
 ·have hi:i=L.ds.length:=Nat.le_antisymm T.hi hge;have st:=T.st;have hfor:=T.fo;rw [hi] at st hfor;rw [List.drop_length] at hfor;have hfor:=Prod.mk.inj (sj hfor);refine qg (S.done Si.s _ _ st fun h' tk kk sz=>?_);have FG4:=FrR.iter (tk:=tk) T.F kk (show Si.s.heap.objs.size≤h'.objs.size from sz) hwX hwW H.hh H.hcells;exact wpAny_execs_nil (hR _ _ (H.fin (S':=Si.to _) (hfor.1▸FG4.1) (zb.trans T.G (FG4.2.mono hwrm)) ⟨T.a.w1,T.a.w2,T.a.x1,T.a.x2⟩ (hfor.2▸rfl)))
theorem LP.Ok.loop(H:L.Ok){lo:Nat}{I:Addr}{Mid:Nat→Value→Heap→Prop}(S:Src L.C.A lo L.s₂.heap L.S.X t tp I L.ds L.fp L.wr L.St Mid)(hlo2:lo≤L.s₂.heap.objs.size)(ht:¬ (tp=true∧wj L.tgt=false))
  {R:Result→Shared→Prop}(hR:∀ f s,L.Q f s→R (.ok f) s)(T:L.At 0 σ L.S₂):codeAny (model prog w) L.C.A (.forLoop L.tgt (.ref I) L.body [] L.C.env) R L.s₂:=
 codeAny_forLoop_any L.Inv (fun z z hI=>H.turn S hlo2 ht hR hI) (L.ds.length - 0) ⟨0,σ,L.S₂,rfl,rfl,T⟩
end
theorem zft{iter:Expr}{f:Sg→Option (Sg × Fl)}(c:xg T.own T.sc tgt=true∧zdQ T.own iter=false∧xt iter=false)(hi:SI T iter tp ds)(ht:¬ (tp=true∧wj tgt=false))
  (hf:∀ {σ σ' fl},f σ=some (σ',fl)→SX (T.at σ) (execs body) σ' fl)(h:zyF f tgt ds T.σ=some (τ,fl)):SX T (exec (.For tgt iter body [] pos)) τ fl:=fun C S F Q E hQ=>by
 refine wpAny_For (hi _ F.good _ _ fun x s₁ g1 it=>it _ _ fun I s₂ lo fp wr St Mid g2 hlo Sr=>?_) (xX c.2.2 C.env);have g:=g1.trans g2;have hlo2:lo≤s₂.heap.objs.size:=le_of_lt (lt_of_le_of_lt (Sr.new _ Sr.iw) (Sr.lt _ (Sr.sub _ Sr.iw)));have hwn:∀ b∈wr,S.s.heap.objs.size≤b:=fun b m=>le_trans hlo (Sr.new b m)
 have H:LP.Ok ⟨T,C,S,τ,fl,f,tgt,body,ds,fp,wr,s₂,St,fun f s=>Q f s⟩:=⟨c.1,hf,Sr.sub,Sr.lt,fun b m q=>Sr.out c.2.1 b m (F.WX b q),Sr.ne,
  fun y c hy hcy m=>absurd (F.cell_lt hy hcy) (not_lt.mpr (hwn c m)),fun b m=>le_trans F.ok.sz (hwn b m),
  fun {S' f'} F' G a fr=>hQ S' f' ⟨F',((g.toW (S.W++wr)).trans G).narrow fun b m=>(mem_append.mp m).elim .inl fun m=>.inr (hwn b m),
   ⟨a.w1,fun b m=>(a.w2 b m).imp id (le_trans g.size),fun b m=>a.x1 b (mem_append_right _ m),fun b m=>(a.x2 b m).elim (fun m=>(mem_append.mp m).elim (fun m=>.inr (hwn b m)) .inl) fun l=>.inr (le_trans g.size l)⟩,fr⟩⟩
 exact H.loop Sr hlo2 ht (fun z z q=>q) (σ:=T.σ) ⟨zero_le _,h,Sr.start,F.more g hwn fun b m=>Sr.lt b (Sr.sub b m),zb.refl ..,Aft.to ..⟩
end
end
section
section
variable {C:FC}
inductive DL(T:Sc):List Expr→List Expr→List D→Prop
 |nil:DL T [] [] []
 |cons {x:Str} {xp:Pos} {v:Expr} {d:D} {ts vs:List Expr} {ds:List D} (h:SE T v d) (hs:zg T.sc x=true) (hc:if T.own.contains x=true then y5 v d=true∧jj d=true∧x≠qb else qY T.own v=false) (r:DL T ts vs ds):DL T (.Name x xp::ts) (v::vs) (d::ds)
theorem zzB{β:Type}(ih:k9 p){r:β}{M:Prop}:∀ {ts vs:List Expr} {k:List D→Option β},zpF p T ts vs k=some r→(∀ ds,DL T ts vs ds→k ds=some r→M)→M
 |[],vs,k,h,f=>by
  cases vs with
  |nil=>exact f [] .nil h
  |cons=>exact zq h
 |t::ts,vs,k,h,f=>by
  cases vs with
  |nil=>exact zq h
  |cons v vs=>exact bE h fun x hx h=>(ih.e h).elim fun d h1 h=>iE h fun c h=>zzB ih h fun ds h2 h=>X11 (y3 hx) fun xp e=>f _ (e▸ .cons h1 c.1 c.2 h2) h
def xo(T:Sc)(S:FS)(n:Nat)(q:Str × Value × D):Prop:=
 (T.own.contains q.1=false∧Rep S.s.heap S.X false q.2.1 q.2.2)∨(T.own.contains q.1=true∧∃ a,q.2.1= .ref a∧a∈S.W∧n≤a∧Rep S.s.heap S.X true q.2.1 q.2.2∧jj q.2.2=true∧q.1≠qb)
def zbz(T:Sc)(its:List (Str × Value × D)):Prop:=its.Pairwise (fun a b=>T.own.contains a.1=true→T.own.contains b.1=true→a.2.1≠b.2.1)
structure zbj(T:Sc)(C:FC)(S:FS)(ts:List Expr)(ds:List D)(S':FS)(its:List (Str × Value × D)):Prop where
 F:FrR T C S'
 g:Grow S.s S'.s
 a:Aft S.s.heap.objs.size S S'
 rt:S'.rts=S.rts
 n1:its.map (fun z=>z.1)=zJ (.Tuple ts 0 default)
 n2:its.map (·.2.2)=ds
 all:∀ q∈its,zg T.sc q.1=true∧xo T S' S.s.heap.objs.size q
 pw:zbz T its
theorem xo.le{n m:Nat}{q:Str × Value × D}(l:m≤n)(i:xo T S n q):xo T S m q:=i.imp id fun h=>⟨h.1,X16 h.2 fun b e hb hn rr c c'=>⟨b,e,hb,le_trans l hn,rr,c,c'⟩⟩
variable {its:List (Str × Value × D)}
theorem zbj.consO(ho:T.own.contains x=true)(hst:zg T.sc x=true)(hc:jj d=true)(hx:x≠qb)(g:Grow S.s s₁)(ha:S.s.heap.objs.size≤a)(hl:a<s₁.heap.objs.size)(r:Rep s₁.heap (a::S.X) true (.ref a) d)
  (D:zbj T C (S.wide a s₁) ts ds S' its):zbj T C S (.Name x xp::ts) (d::ds) S' ((x,.ref a,d)::its):=
 ⟨D.F,g.trans D.g,(Aft.wide ha s₁).trans D.a g.size,D.rt,congrArg (fun l=>x::l) D.n1,congrArg (fun l=>d::l) D.n2,zB ⟨hst,.inr ⟨ho,a,rfl,D.a.w1 a (.head _),ha,Rep.grow D.g (r.addX D.a.x2),hc,hx⟩⟩ fun q m=>(D.all q m).imp id (xo.le g.size),
  .cons (fun q m z hq=>(D.all q m).2.elim (fun o=>Bool.noConfusion (o.1.symm.trans hq)) fun h=>X13 h.2 fun b e z q he=>absurd hl (not_lt.mpr (Value.ref.inj (he.trans e)▸q.1))) D.pw⟩
theorem zbj.consV(ho:T.own.contains x=false)(hst:zg T.sc x=true)(g:Grow S.s s₁)(r:Rep s₁.heap S.X false u d)(D:zbj T C (S.to s₁) ts ds S' its):zbj T C S (.Name x xp::ts) (d::ds) S' ((x,u,d)::its):=
 ⟨D.F,g.trans D.g,(Aft.to _ S s₁).trans D.a g.size,D.rt,congrArg (fun l=>x::l) D.n1,congrArg (fun l=>d::l) D.n2,zB ⟨hst,.inl ⟨ho,Rep.grow D.g (r.addX D.a.x2)⟩⟩ fun q m=>(D.all q m).imp id (xo.le g.size),.cons (fun q m hq z=>Bool.noConfusion (ho.symm.trans hq)) D.pw⟩
theorem zby(pos:Pos){vs:List Expr}(h:DL T ts vs ds):∀ {S:FS},zl vs=true→FrR T C S→∀ (Q:List Value→Shared→Prop) (E:Value→Shared→Prop),(∀ S' its,zbj T C S ts ds S' its→Q (its.map (·.2.1)) S'.s)→wpAny (model prog w) C.A (spliced (backTo pos (starEach vs C.env))) Q E S.s:=by
 induction h with
 |nil=>exact fun {S} z F Q E hQ=>spliced_nil (hQ S [] ⟨F,Grow.refl ..,Aft.to ..,rfl,rfl,rfl,(fun q m=>nomatch m),.nil⟩)
 |@cons x xp v d ts vs ds h hst hc z IH=>
  intro S hs F Q E hQ;refine X02 (qU (env:=C.env) hs) fun e1 e2=>?_;rw [e1];refine spliced_cons (h _ F.good _ _ fun u s₁ o=>?_);cases ho:T.own.contains x with
  |true=>
   rw [ho,if_pos rfl] at hc;exact X14 (o.f hc.1) fun a ea ha hl r=>IH e2 (F.widen o.g ha hl) _ _ fun S₂ its D=>rwR (P:=fun u=>Q (u::its.map (·.2.1)) S₂.s) ea (hQ S₂ ((x,.ref a,d)::its) (D.consO ho hst hc.2.1 hc.2.2 o.g ha hl (ea▸r)))
  |false=>
   rw [ho,if_neg Bool.noConfusion] at hc;exact IH e2 (F.grow o.g) _ _ fun S₂ its D=>hQ S₂ ((x,u,d)::its) (D.consV ho hst o.g (rwL (P:=fun b=>Rep s₁.heap S.X b u d) hc o.r))
noncomputable def StL(A:Around)(env:Env):List (Value→Sem Unit)→List Str→Prop
 |[],[]=>True
 |f::fs,x::xs=>(∀ {v s} {Q:Unit→Shared→Prop} {E:Value→Shared→Prop},wpAny (model prog w) A (storeName env x v) Q E s→wpAny (model prog w) A (f v) Q E s)∧StL A env fs xs
 |_,_=>False
theorem xo.kept{q:Str × Value × D}(hloc:C.env.locals<n)(kk:zuq C S.X S.s s₁)(i:xo T S n q):xo T ⟨rts,S.W,S.X,s₁⟩ n q:=
 i.imp (fun h=>⟨h.1,(kk h.2 fun z=>Bool.noConfusion z).1⟩) fun h=>⟨h.1,X16 h.2 fun a e haW hn rr hc hc'=>⟨a,e,haW,hn,(kk rr fun y m=>absurd hloc (not_lt.mpr (yu (rwL (P:=fun v=>Rep S.s.heap S.X true v q.2.2) e rr) hc _ (rwL (P:=fun v=>_∈zw S.s.heap v) e m)▸hn))).1,hc,hc'⟩⟩
theorem zbk{b:Addr}(h1:b≠a)(h2:b∉rts y):b∉zuz rts x [a] y:=fun m=>j8 m (fun z e=>h1 e) fun z m=>h2 m
structure Due(T:Sc)(C:FC)(S:FS)(n:Nat)(its:List (Str × Value × D)):Prop where
 F:FrR T C S
 all:∀ q∈its,zg T.sc q.1=true∧xo T S n q
 pw:zbz T its
 av:∀ q∈its,T.own.contains q.1=true→∀ a,q.2.1= .ref a→∀ y,a∉S.rts y
theorem zkE(hcell:∀ y c,(T.sc.names.lookup y=some .cell∨T.sc.names.lookup y=some .free)→C.env.cells.lookup y=some c→c<n)(hloc:C.env.locals<n){its:List (Str × Value × D)}:∀ {sts:List (Value→Sem Unit)} {σ:Sg} {S:FS},StL C.A C.env sts (its.map (fun z=>z.1))→Due (T.at σ) C S n its→
   ∀ (Q:Unit→Shared→Prop) (E:Value→Shared→Prop),(∀ s' rts',FrR (T.at (zL (its.map (fun z=>z.1)) (its.map (·.2.2)) σ)) C ⟨rts',S.W,S.X,s'⟩→zb S.W S.s s'→Q () s')→wpAny (model prog w) C.A (assignInOrder sts (its.map (·.2.1))) Q E S.s:=by
 induction its with
 |nil=>
  intro sts σ S h D Q E hQ;cases sts with
  |cons=>exact h.elim
  |nil=>exact wpAny_pure (hQ S.s S.rts D.F (zb.refl ..))
 |cons it its ih=>
  intro sts σ S h D Q E hQ;cases sts with
  |nil=>exact h.elim
  |cons f sts=>
   have hp:=pairwise_cons.mp D.pw;have hit:=D.all _ (.head _);refine wpAny_bind (wpAny_holding (h.1 ?_));refine hit.2.elim (fun hi=>?_) fun hi=>?_
   ·exact D.F.storeV hit.1 hi.1 hi.2 _ _ fun s₁ F1 G1 z kk=>ih (S:=S.to s₁) h.2 ⟨F1,fun q m=>(D.all q (.tail _ m)).imp id fun i=>xo.kept (T:=T) (rts:=S.rts) hloc kk i,hp.2,fun q m=>D.av q (.tail _ m)⟩ Q E fun s₂ rts' F2 G2=>hQ s₂ rts' F2 (G1.trans G2)
   ·refine X16 hi.2 fun a e haW hn rr hc hs=>?_
    show wpAny _ _ (storeName _ it.1 it.2.1) _ _ _
    rw [e] at rr ⊢;refine D.F.storeO hit.1 hi.1 hs rr (yu rr hc) haW (fun q=>absurd hloc (not_lt.mpr (q▸hn))) (fun y c hy hcy q=>absurd (hcell y c hy hcy) (not_lt.mpr (q▸hn))) (fun y z=>D.av _ (.head _) hi.1 a e y) _ _ fun s₁ F1 G1 kk=>?_;exact ih (S:=⟨zuz S.rts it.1 [a],S.W,S.X,s₁⟩) h.2 ⟨F1,fun q m=>(D.all q (.tail _ m)).imp id fun i=>xo.kept (T:=T) hloc kk i,hp.2,fun q m oq b eb y=>zbk (fun q'=>hp.1 q m hi.1 oq (by rw [e,eb,q'])) (D.av q (.tail _ m) oq b eb y)⟩ Q E fun s₂ rts' F2 G2=>hQ s₂ rts' F2 (G1.trans G2)
theorem zyk:∀ {ds:List D} {σ:Sg},x∉xs→zL xs ds (upd σ x d)=upd (zL xs ds σ) x d:=by
 induction xs with
 |nil=>exact fun v=>rfl
 |cons y xs ih=>
  intro ds σ h;cases ds with
  |nil=>rfl
  |cons d' ds=>
   refine Eq.trans (congrArg (zL xs ds) (funext fun z=>?_)) (ih (σ:=upd σ y d') fun m=>h (.tail _ m));unfold upd;by_cases hz:z=x
   ·rw [hz,if_pos rfl,if_neg fun q:x=y=>h (q▸ .head _),if_pos rfl]
   ·rw [if_neg hz,if_neg hz]
theorem zqU:∀ {ds:List D} {σ:Sg},xs.length=ds.length→zL (xs++[x]) (ds++[d]) σ=upd (zL xs ds σ) x d:=by
 induction xs with
 |nil=>
  intro ds σ h;cases ds with
  |nil=>rfl
  |cons=>cases h
 |cons y xs ih=>
  intro ds σ h;cases ds with
  |nil=>cases h
  |cons d' ds=>exact ih (Nat.succ.inj h)
theorem vy:∀ {ds:List D} {σ:Sg},xs.Nodup→xs.length=ds.length→zL xs.reverse ds.reverse σ=zL xs ds σ:=by
 induction xs with
 |nil=>
  intro ds σ z h;cases ds with
  |nil=>rfl
  |cons=>cases h
 |cons x xs ih=>
  intro ds σ hn h;cases ds with
  |nil=>cases h
  |cons d ds=>
   have h1:=(nodup_cons.mp hn).1;have h2:=(nodup_cons.mp hn).2;have h3:=Nat.succ.inj h;rw [reverse_cons,reverse_cons,zqU (by rw [length_reverse,length_reverse];exact h3),ih h2 h3];exact (zyk h1).symm
end
end
section
section
variable {C:FC}
theorem zyx(h:kz ts=true):StL A env ((assignEach ts env).map (fun z=>z.2)) (zJ (.Tuple ts 0 default))∧(assignEach ts env).length=ts.length∧(assignEach ts env).findIdx? (fun z=>z.1)=none∧(zJ (.Tuple ts 0 default)).length=ts.length:=by
 induction ts with
 |nil=>exact ⟨trivial,rfl,rfl,rfl⟩
 |cons t ts ih=>cases t with
  |Name x xp=>
   refine X04 (ih h) fun h1 h2 h3 h4=>?_;refine ⟨⟨fun q=>PySem.wpAny_assign_Name q,h1⟩,congrArg Nat.succ h2,?_,congrArg Nat.succ h4⟩
   show findIdx? (fun z=>z.1) ((false,assign (.Name x xp) env)::assignEach ts env)=none
   rw [List.findIdx?_cons,h3];rfl
  |_=>exact Bool.noConfusion h
theorem zzD:∀ (xs:List Str),StL A env (xs.map fun n=>bindName env n) xs
 |[]=>trivial
 |x::xs=>⟨fun q=>wpAny_bindName q,zzD xs⟩
theorem zuk{f:Expr→Option Str}(hf:∀ e y,f e=some y→∃ xp,e= .Name y xp):(ts.filterMap f).length=ts.length→kz ts=true∧ts.filterMap f=zJ (.Tuple ts 0 default):=by
 induction ts with
 |nil=>exact fun z=>⟨rfl,rfl⟩
 |cons t ts ih=>
  intro h;cases q:f t with
  |none=>
   rw [List.filterMap_cons_none q] at h;exact absurd (List.length_filterMap_le f ts) (not_le.mpr (h▸lt_succ_self _))
  |some y=>
   refine X11 (hf t y q) fun xp e=>?_;rw [List.filterMap_cons_some q] at h ⊢;refine X02 (ih (Nat.succ.inj h)) fun h1 h2=>?_;exact ⟨e▸h1,e▸congrArg (fun l=>y::l) h2⟩
theorem znA{a b:Nat}{c:Bool}(h:¬(a !=b||c)=true):a=b:=
 Decidable.byContradiction fun n=>h ((congrArg (· ||c) (bne_iff_ne.mpr n)).trans rfl)
set_option tactic.hygienic true in
theorem gK{vs:List Expr}{q':Nat}{tpos vpos:Pos}(h:(vs.all (foldedForSure 8)|| !vs.all (constantsAlone 8))=true):
  swappedStores [.Tuple ts q tpos] (.Tuple vs q' vpos) env=pure none∨swappedStores [.Tuple ts q tpos] (.Tuple vs q' vpos) env=pure (some (zJ (.Tuple ts 0 default))):=by
 delta swappedStores
 dsimp only
 split
 ·exact .inl rfl
 split
 ·exact .inl rfl
 split
 ·exact .inl rfl
 rename_i hn
 split
 ·exact .inl rfl
 split
 ·rename_i h1 h2;rw [h2] at h;simp only [Bool.not_true,Bool.or_false] at h;exact absurd h h1
 right
 rw [(zuk (fun e y he=>by
  cases e with
  |Name id pos=>exact ⟨_,congrArg (Expr.Name · pos) (sj (zk he).2)⟩
  |_=>exact zq he) (znA hn)).2]
theorem zbx{vs:List Expr}{q':Nat}{tpos vpos:Pos}(c:(zJ (.Tuple ts 0 default)).Nodup∧kz ts=true∧zl vs=true∧vs.length≤15∧ts.length=vs.length∧(vs.all (foldedForSure 8)|| !vs.all (constantsAlone 8))=true)(h:DL T ts vs ds):
  SX T (exec (.Assign [.Tuple ts q tpos] (.Tuple vs q' vpos) pos)) (zL (zJ (.Tuple ts 0 default)) ds T.σ) .next:=fun C S F Q E hQ=>X04 (zyx (A:=C.A) (env:=C.env) c.2.1) fun stl l1 l2 l3=>by
 rw [exec_Assign_arm];refine wpAny_bind (wpAny_standAt ?_);rw [show swapsWithSole [.Tuple ts q tpos] (.Tuple vs q' vpos) pos.line C.env=pure false from (yg rfl:swapsWith (.Tuple vs q' vpos) (some (.Tuple ts q tpos)) pos.line C.env=pure false)];refine wpAny_bind (wpAny_pure ?_);rw [if_neg Bool.false_ne_true];refine wpAny_bind (wpAny_Tuple_spliced (zby vpos h c.2.2.1 F _ _ fun S₁ its Z=>?_));have hil:its.length=ts.length:=by rw [←l3, ←Z.n1,length_map]
 refine ⟨zn (by rw [length_map,hil,c.2.2.2.2.1];exact le_trans c.2.2.2.1 (by decide)),?_⟩;generalize hvs:(its.map (·.2.1)).toArray=tv;have hvl:tv.toList=its.map (·.2.1):=hvs▸rfl;have hT:(S₁.s.heap.push { cls:=.type "tuple",data:=.seq tv }:Heap).get? S₁.s.heap.objs.size=some { cls:=.type "tuple",data:=.seq tv }:=get?_push_size _ rfl;have hTT:(S₁.s.heap.push { cls:=.type "tuple",data:=.seq tv }:Heap).IsTuple S₁.s.heap.objs.size tv:=⟨_,hT,rfl,_,rfl⟩
 have hlt:C.env.locals<S.s.heap.objs.size:=F.W_lt F.loc
 have cont:∀ (h':Heap) {its':List (Str × Value × D)} {sts:List (Value→Sem Unit)} {Q':Unit→Shared→Prop} {E':Value→Shared→Prop},ExtBut (S₁.s.heap.push { cls:=.type "tuple",data:=.seq tv }:Heap).objs.size (S₁.s.heap.push { cls:=.type "tuple",data:=.seq tv }) h'→
   StL C.A C.env sts (its'.map (fun z=>z.1))→(∀ q∈its',q∈its)→zbz T its'→zL (its'.map (fun z=>z.1)) (its'.map (·.2.2)) T.σ=zL (zJ (.Tuple ts 0 default)) ds T.σ→
   (∀ s',Q .next s'→Q' () s')→wpAny (model prog w) C.A (assignInOrder sts (its'.map (·.2.1))) Q' E' { S₁.s with heap:=h' }:=fun h' {its' sts Q' E'} ext hst hsub hpw' hσ hQ'=>by
  have kk:∀ b o,(S₁.s.heap.push { cls:=.type "tuple",data:=.seq tv }:Heap).get? b=some o→h'.get? b=some o:=fun b o e=>ext b o (ne_of_lt (lt_size e)) e;have g2:Grow S₁.s { S₁.s with heap:=h' }:=Grow.of_keep (tk:=S₁.s.toks) (fun b o e=>kk b o (get?_push_of_some _ e)) (le_of_lt (lt_size (kk _ _ hT)))
  refine zkE (T:=T) (σ:=T.σ) (n:=S.s.heap.objs.size) (fun y c hy hcy=>F.cell_lt hy hcy) hlt (S:=S₁.to { S₁.s with heap:=h' }) hst ⟨Z.F.grow g2,fun q m=>(Z.all q (hsub q m)).imp id fun i=>i.imp (fun h=>⟨h.1,Rep.grow g2 h.2⟩) fun h=>⟨h.1,X16 h.2 fun a e b c rr z z'=>⟨a,e,b,c,Rep.grow g2 rr,z,z'⟩⟩,hpw',fun q m o a e y hm=>?_⟩ _ _ fun s' rts' F' G'=>
   hQ' s' (hQ ⟨rts',S₁.W,S₁.X,s'⟩ _ ⟨hσ▸F',(((Z.g.trans g2).toW _).trans G').narrow Z.a.w2,⟨Z.a.w1,Z.a.w2,Z.a.x1,Z.a.x2⟩,rfl⟩)
  exact (Z.all q (hsub q m)).2.elim (fun h=>Bool.noConfusion (h.1.symm.trans o)) fun h=>X13 h.2 fun b eb x hn=>absurd (F.W_lt (F.rtsW y a (Z.rt▸hm))) (not_lt.mpr (Value.ref.inj (eb.symm.trans e)▸hn.1))
 refine (gK (env:=C.env) (ts:=ts) (q:=q) (q':=q') (tpos:=tpos) (vpos:=vpos) c.2.2.2.2.2).elim (fun hw=>?_) fun hw=>?_
 ·rw [hw];refine wpAny_bind (wpAny_pure ?_)
  show wpAny _ C.A (assign (.Tuple ts q tpos) C.env (.ref S₁.s.heap.objs.size) >>= fun x=>pure Flow.next) _ _ _
  refine wpAny_bind (wpAny_assign_Tuple F.hA.hand hTT (by rw [l1, ←hil, ←hvs];exact (length_map _).symm) l2 fun h' ext=>?_);rw [hvl];exact cont h' ext (by rw [Z.n1];exact stl) (fun q m=>m) Z.pw (by rw [Z.n1,Z.n2]) fun s' q=>wpAny_pure q
 ·rw [hw];refine wpAny_bind (wpAny_pure ?_)
  show wpAny _ C.A (do
   rule "assign.swapped-stores"
   let items ←unpackItems (.ref S₁.s.heap.objs.size) (zJ (.Tuple ts 0 default)).length none
   assignInOrder ((zJ (.Tuple ts 0 default)).reverse.map fun n=>bindName C.env n) items.reverse
   pure Flow.next) _ _ _
  refine wpAny_bind (wpAny_rule ?_);rw [show (zJ (.Tuple ts 0 default)).length=tv.size by rw [l3, ←hil, ←hvs];exact (length_map _).symm];refine wpAny_bind (wpAny_unpackItems_tuple F.hA.hand hTT fun h' ext=>wpAny_bind ?_);rw [hvl, ←map_reverse];refine cont h' ext (its':=its.reverse) ?_ (fun q m=>mem_reverse.mp m) (List.pairwise_reverse.mpr (Z.pw.imp fun hh a b=>(hh b a).symm)) ?_ fun s' q=>wpAny_pure q
  ·rw [show List.map (fun z=>z.1) its.reverse=(zJ (.Tuple ts 0 default)).reverse by rw [map_reverse,Z.n1]];exact zzD _
  ·rw [map_reverse,map_reverse,Z.n1,Z.n2];exact vy c.1 (by rw [l3, ←Z.n2,length_map,hil])
end
end
section
section
variable {C:FC}
theorem zbw{c:Nat}(R:Rep h X t v (.obj c fs)):∃ a,v= .ref a:=R.objE (M:=fun v=>∃ a,v= .ref a) fun z z z z z z z z z=>⟨_,rfl⟩
theorem zyw{f:Str→Str→Str→Option β}{r:β}(h:zgK xs f=some r):∃ x y z,xs=[x,y,z]∧f x y z=some r:=by
 cases xs with
 |nil=>exact zq h
 |cons x xs=>cases xs with
  |nil=>exact zq h
  |cons y xs=>cases xs with
   |nil=>exact zq h
   |cons z xs=>cases xs with
    |nil=>exact ⟨x,y,z,rfl,h⟩
    |cons=>exact zq h
theorem zbv{c:Nat}(cc:T.own.contains x=true∧qY T.own value=false∧jq T.sc x=true∧zg T.sc x=true)(h:SE T value d)(hd:T.σ x=some (.obj c fs))(hf:T.C.fld c f=true∧fs.length≤50):
  SX T (exec (.Assign [.Attribute (.Name x xp) f ap] value pos)) (upd T.σ x (.obj c (qc fs f d))) .next:=fun C S F Q E hQ=>by
 refine wpAny_Assign_stores (h _ F.good _ _ fun v s₁ o=>?_) (show swapsWith value (some (.Attribute (.Name x xp) f ap)) pos.line C.env=_ from yg rfl) (by cases value<;>rfl);have F1:=F.grow o.g
 show wpAny _ C.A (holding [v] (eval (.Name x xp) C.env) >>= fun ov=>standAt ap.atName >>= fun z=>holding [v,ov] (setAttr ov f v) >>= fun z=>release [v,ov] []) _ _ _
 refine wpAny_bind (wpAny_holding ((F1.r.nameV cc.2.2.1 hd fun ov N y=>X11 (zbw y.1) fun a e=>?_).1));rw [e] at N y ⊢;refine wpAny_bind (wpAny_standAt (wpAny_bind (wpAny_holding ?_)));refine F.SO hf.1 hf.2 F1.ok (cc.1▸y.1) (fun b m=>F.WX b (F.rtsW x b (Decidable.not_not.mp (y.2 cc.1 b m)))) (rwL (P:=fun b=>Rep s₁.heap S.X b v d) cc.2.1 o.r) _ _ fun h' tk kk sz r' hroot=>?_;have FG:=F1.mutO (tk:=tk) cc.1 N hd kk sz r' hroot;exact wpAny_release (hQ (S.to _) _ (.plain FG.1 ((o.g.toW _).trans FG.2) rfl))
section
variable {r:β} {k:Sg→Option β}
def OkA(T:Sc)(t:Env→Sem Flow)(k:Sg→Option β)(r:β):Prop:=∃ σ',SX T t σ' .next∧k σ'=some r
theorem OkA.mk{t:Env→Sem Flow}(h:SX T t σ .next)(q:k σ=some r):OkA T t k r:=⟨σ,h,q⟩
theorem OkA.up{t:Env→Sem Flow}{k:Sg→Fl→Option β}(h:OkA T t (fun σ'=>k σ' .next) r):OkS T t k r:=X12 h fun z h1 h2=>.mk h1 h2
variable (ih:k9 p) {value:Expr} {pos:Pos}
include ih
omit ih in
theorem zyv{M:Expr→Prop}(h:wd sc x xp value=true)(k1:∀ elt gens scope pos,M (.ListComp elt gens scope pos))(k2:∀ kx vx gens scope pos,M (.DictComp kx vx gens scope pos)):M value:=by
 cases value with
 |ListComp=>exact k1 ..
 |DictComp=>exact k2 ..
 |_=>exact Bool.noConfusion h
omit ih in
theorem wf(hw:wd T.sc x xp value=true)(s:T.own.contains x=false→SX T (exec (.Assign [.Name x xp] value pos)) (upd T.σ x d) .next)(h:zmu T x xp value k d=some r):OkA T (exec (.Assign [.Name x xp] value pos)) k r:=
 i2 h (fun ho h=>iE h fun e z=>Bool.noConfusion (hw.symm.trans e.2.2.1)) fun ho h=>iE h fun z h=>.mk (s (eq_false_of_ne_true ho)) h
theorem zqG{q:EvK}(hq:∀ {β:Type} {T e} {k:D→Option β} {r},p.e T e k=some r→zp7 q T e k=some r)(iq:k9 q)(h:zzX p T x xp value k=some r):OkA T (exec (.Assign [.Name x xp] value pos)) k r:=by
 refine iE h fun c h=>?_;cases hw:wd T.sc x xp value with
 |false=>exact (ih.e h).elim fun d h1 h=>i2 h (fun ho h=>iE h fun e h=>.mk (zpL h1 c ho e) h) fun ho h=>iE h fun hv h=>.mk (zpC h1 c (eq_false_of_ne_true ho) hv hw) h
 |true=>
  exact zyv (M:=fun value=>wd T.sc x xp value=true→zp7 q T value (zmu T x xp value k)=some r→OkA T (exec (.Assign [.Name x xp] value pos)) k r) hw
   (fun elt gens scope vp hw h=>bE h fun out h1 h=>iE h fun hl h=>wf hw (fun ho=>zuj iq h1 hl c.1 ho hw) h)
   (fun kx vx gens scope vp hw h=>bE h fun out h1 h=>iE h fun hl h=>bE h fun x h2 h=>kD h2 (fun ks e e'=>wf hw (fun ho=>e'▸zzG (kds:=ks) kbS (fun z=>rfl) iq h1 hl e c.1 ho hw) h) fun ks e e'=>wf hw (fun ho=>e'▸zzG (kds:=ks) kbI (fun z=>rfl) iq h1 hl e c.1 ho hw) h) hw (hq h)
theorem zqP{tp:Pos}(h:zzW p T ts n tp value k=some r):OkA T (exec (.Assign [.Tuple ts n tp] value pos)) k r:=iE h fun c h=>(ih.e h).elim fun d h1 h=>pM h fun σ' h2 h=>.mk (zpO h1 c h2) h
theorem zyu{tp:Pos}(h:zkF p T ts n tp value k=some r):OkA T (exec (.Assign [.Tuple ts n tp] value pos)) k r:=by
 cases value with
 |Tuple=>exact iE h fun c h=>zzB ih h fun ds h1 h=>.mk (zbx c h1) h
 |_=>exact zqP ih h
theorem zyg{sp:Pos}{i:Expr}(h:zkH p T x i value k=some r):OkA T (exec (.Assign [.Subscript (.Name x xp) i sp] value pos)) k r:=
 iE h fun c h=>(ih.e h).elim fun d h1 h=>(ih.e h).elim fun di h2 h=>bE h fun dx h3 h=>bE h fun r' h4 h=>.mk (zpI c h1 h2 h3 h4) h
omit ih in
theorem zbu{C:Cx}{dx:D}{k:D→Option β}(h:zmw C f d dx k=some r)(g:∀ c fs,dx= .obj c fs→C.fld c f=true∧fs.length≤50→k (.obj c (qc fs f d))=some r→M):M:=by
 cases dx with
 |obj c fs=>exact iE h fun e h=>g c fs rfl e h
 |_=>exact zq h
omit ih in
theorem zbg{dl:D}{k:D→Option β}(h:zmv dl d k=some r)(g:∀ ds,dl= .list ds→ds.length≤zz→k (.list (ds++[d]))=some r→M):M:=by
 cases dl with
 |list ds=>exact iE h fun e h=>g ds rfl e h
 |_=>exact zq h
theorem zqB(h:zzV p T x f value k=some r):OkA T (exec (.Assign [.Attribute (.Name x xp) f ap] value pos)) k r:=
 iE h fun c h=>(ih.e h).elim fun d h1 h=>bE h fun dx h2 h=>zbu h fun c' fs e c2 h=>.mk (zbv c h1 (e▸h2) c2) h
theorem zux{q:EvK}{t:Expr}(hq:∀ {β:Type} {T e} {k:D→Option β} {r},p.e T e k=some r→zp7 q T e k=some r)(iq:k9 q)(h:zff p T t value k=some r):OkA T (exec (.Assign [t] value pos)) k r:=by
 cases t with
 |Name=>exact zqG ih hq iq h
 |Tuple=>exact zyu ih h
 |Subscript=>exact bE h fun x hx h=>X11 (y3 hx) fun xp e=>e▸zyg ih h
 |Attribute=>exact bE h fun x hx h=>X11 (y3 hx) fun xp e=>e▸zqB ih h
 |_=>exact zq h
omit ih in
theorem gX{l:List Str}(h:((x::l).all fun x=>zg sc x&& !own.contains x)=true):(zg sc x=true∧own.contains x=false)∧(l.all fun x=>zg sc x&& !own.contains x)=true:=
 X02 (zmz h) fun h1 h2=>X02 (zmz h1) fun h3 h4=>⟨⟨h3,(not_eq_true' _).mp h4⟩,h2⟩
theorem zbp{q:EvK}(hq:∀ {β:Type} {T e} {k:D→Option β} {r},p.e T e k=some r→zp7 q T e k=some r)(iq:k9 q)(h:zn9 p T ts value k=some r):OkA T (exec (.Assign ts value pos)) k r:=by
 cases ts with
 |nil=>exact zq h
 |cons t ts=>cases ts with
  |nil=>exact zux ih hq iq h
  |cons t' ts=>
   refine bE h fun xs h1 h=>X32 (zyw h) fun x y z e h=>iE h fun c h=>(ih.e h).elim fun d h2 h=>?_;rw [e] at h1;refine X22 (qM h1) fun p1 es1 e1 h1=>X22 (qM h1) fun p2 es2 e2 h1=>X22 (qM h1) fun p3 es3 e3 h1=>?_;rw [e1,e2,e3,vZ h1];exact X02 (gX c.1) fun b1 c1=>X02 (gX c1) fun b2 c1=>X02 (gX c1) fun b3 v=>.mk (zpA h2 c.2 b1 b2 b3) h
theorem zuw{t:Expr}(h:zfh p T t value k=some r):OkA T (exec (.AugAssign t .Add value pos)) k r:=by
 cases t with
 |Name=>exact iE h fun c h=>bE h fun a h1 h=>(ih.e h).elim fun b h2 h=>bE h fun r' h3 h=>.mk (zfs c h1 h2 h3) h
 |Subscript=>exact bE h fun x hx h=>X11 (y3 hx) fun xp e=>iE h fun c h=>bE h fun dx h1 h=>(ih.e h).elim fun di h2 h=>(ih.e h).elim fun b h3 h=>bE h fun a h4 h=>bE h fun c' h5 h=>bE h fun dx' h6 h=>.mk (e▸zbq c h1 h2 h3 h4 h5 h6) h
 |_=>exact zq h
end
section
variable {r:β} {k:Sg→Fl→Option β}
theorem zkI{q:EvK}(ih:k9 p)(hq:∀ {β:Type} {T e} {k:D→Option β} {r},p.e T e k=some r→zp7 q T e k=some r)(iq:k9 q){rec:{γ:Type}→Sc→List Stmt→(Sg→Fl→Option γ)→Option γ}(hr:∀ {γ:Type} {b:List Stmt} {T:Sc} {k:Sg→Fl→Option γ} {r:γ},rec T b k=some r→OkS T (execs b) k r)
  {st:Stmt}(h:zzU p T rec st k=some r):OkS T (exec st) k r:=by
 cases st with
 |Pass=>exact .mk zpR h
 |Break=>exact .mk zvI h
 |Return=>exact bE h fun e h1 h=>(ih.e h).elim fun d h2 h=>h1▸ .mk (zkS h2) h
 |If test body orelse=>exact (ih.t h).elim fun b h1 h=>i2 h (fun c h=>(hr h).elim fun σ' fl h2 h=>.mk (zfr h1 (by rw [if_pos c];exact h2)) h) fun c h=>(hr h).elim fun σ' fl h2 h=>.mk (zfr h1 (by rw [if_neg c];exact h2)) h
 |For tgt iter body orelse=>cases orelse with
  |cons=>exact zq h
  |nil=>exact iE h fun c h=>(ih.i h).elim fun tp ds h1 h=>iN h fun c2 h=>bE h fun z h2 h=>.mk (zft c h1 c2 (fun h=>(hr h).elim fun σ' fl h3 h=>X02 (Prod.mk.inj (sj h)) fun e1 e2=>e1▸e2▸h3) (τ:=z.1) (fl:=z.2) h2) h
 |Assign=>exact (zbp ih hq iq h).up
 |AugAssign t op value=>
   refine iE h fun c h=>?_;cases op with
   |Add=>exact (zuw ih h).up
   |_=>exact Bool.noConfusion c
 |Expr e=>
   refine bE h fun q e1 h=>bE h fun a e2 h=>bE h fun x e3 h=>bE h fun e' e4 h=>iE h fun c h=>bE h fun dl h1 h=>(ih.e h).elim fun d h2 h=>zbg h fun ds e5 hl h=>X11 (y3 e3) fun xp e6=>?_;rw [yO e1,gd e2,gf e4,e6,c.1];exact .mk (zkO c.2.1 c.2.2.1 c.2.2.2.2.1 c.2.2.2.2.2.1 c.2.2.2.2.2.2 (e5▸h1) h2 hl) h
 |_=>exact zq h
end
theorem zxq{n:Nat}:∀ (m:Nat) {β:Type} {ss:List Stmt} {T:Sc} {k:Sg→Fl→Option β} {r:β},exK (evK (n+1)) m T ss k=some r→OkS T (execs ss) k r
 |0,_,_,_,_,_,h=>zq h
 |m+1,_,_,_,_,_,h=>zkR (fun h=>zkI (q:=evK n) (zyz (n+1)) id (zyz n) (fun h=>zxq m h) h) h
end
end
variable {fd:FuncData}{names:List Str}{fa:Addr}
section
structure xb(fa:Addr)(fd:FuncData)(names:List Str)(body:List Stmt):Prop where
 obj:∃ fo,h₀.get? fa=some fo∧fo.data= .func fd
 ne:fa≠P₀
 body:fd.body= .stmts body
 clo:fd.closure=[]
 glob:fd.globals=mainGlobals
 bi:fd.builtins=builtinsNs
 code:∃ c o vs t,fd.code= .ref c∧c≠P₀∧h₀.get? c=some o∧o.data= .fields vs∧vs[1]? =some (.str fd.qualname t)
 kind:fd.scope.kind= .function
 co:fd.scope.isCoroutine=false
 gen:fd.scope.isGenerator=false
 bind:∀ vs:List Value,vs.length=names.length→bindArgs fd ⟨vs,[]⟩=pure (names.zip vs)
 store:∀ x∈names,zg fd.scope x=true
 nofree:∀ n k,(n,k)∈fd.scope.names→k≠ .free
section
noncomputable def wh:Sg→Fl→Option D
 |_,.ret d=>some d
 |_,.next=>some .none
 |_,.brk=>none
end
noncomputable def zxz:Sg→Fl→Option D
 |σ,.next=>match σ "self" with
  |some (.obj c fs)=>some (.obj c fs)
  |_=>none
 |_,_=>none
section
noncomputable def zvh(M:Str→Value→D→Prop):List Str→List Value→List D→Prop
 |[],vs,ds=>vs=[]∧ds=[]
 |n::ns,vs,ds=>∃ v vs' d ds',vs=v::vs'∧ds=d::ds'∧M n v d∧zvh M ns vs' ds'
theorem zvh.length{M:Str→Value→D→Prop}:∀ {names:List Str} {vs:List Value} {ds:List D},zvh M names vs ds→vs.length=names.length
 |[],_,_,h=>h.1▸rfl
 |_::_,_,_,h=>X44 h fun v vs' d ds' e1 z z h=>e1▸congrArg Nat.succ h.length
theorem zvh.of{M:Str→Value→D→Prop}:∀ {names:List Str} {vs:List Value},ds.length=names.length→zu h X vs ds→(∀ n∈names,∀ v d,Rep h X false v d→M n v d)→zvh M names vs ds:=by
 induction ds with
 |nil=>
   intro names vs hl R z;cases names with
   |nil=>exact R.nilE (M:=fun vs=>vs=[]∧([]:List D)=[]) ⟨rfl,rfl⟩
   |cons=>exact absurd hl.symm (succ_ne_zero _)
 |cons d ds ih=>
   intro names vs hl R f;cases names with
   |nil=>exact absurd hl (succ_ne_zero _)
   |cons n names=>exact R.consE (M:=fun vs=>zvh M (n::names) vs (d::ds)) fun v vs r R=>⟨v,vs,d,ds,rfl,rfl,f n (.head _) v d r,ih (Nat.succ.inj hl) R fun m hm=>f m (.tail _ hm)⟩
def znQ(kd:Str→Option NameKind)(m cm:Str→Option Value)(M:Str→Value→D→Prop)(σ:Sg):Prop:=∀ x d,σ x=some d→∃ v,(kd x=some .local→m x=some v)∧(kd x≠some .local→cm x=some v)∧M x v d
theorem pL(kd:Str→Option NameKind){M:Str→Value→D→Prop}:∀ {names:List Str} {vs:List Value} {ds:List D} {σ:Sg} {m cm:Str→Option Value},zvh M names vs ds→znQ kd m cm M σ→znQ kd (bindL kd (names.zip vs) m) (bindC kd (names.zip vs) cm) M (zL names ds σ)
 |[],_,_,_,_,_,_,hs=>hs
 |n::ns,_,_,σ,m,cm,h,hs=>X44 h fun v vs' d ds' e1 e2 hm h=>by
  rw [e1,e2];refine pL kd (names:=ns) (vs:=vs') (ds:=ds') (σ:=upd σ n d) h fun y e hy=>?_;by_cases hyn:y=n
  ·refine ⟨v,fun hk=>?_,fun hk=>?_,?_⟩
   ·exact (if_pos (hyn▸hk)).symm▸if_pos hyn
   ·exact (if_neg (hyn▸hk)).symm▸if_pos hyn
   ·exact hyn▸sj ((if_pos hyn:upd σ n d y=some d).symm.trans hy)▸hm
  ·refine X13 (hs y e ((if_neg hyn:upd σ n d y=σ y).symm.trans hy)) fun u h1 h2 h3=>⟨u,fun hk=>?_,fun hk=>?_,h3⟩
   ·show (if kd n=some .local then (fun z=>if z=n then some v else m z) else m) y=some u
    split
    ·exact (if_neg hyn).trans (h1 hk)
    ·exact h1 hk
   ·show (if kd n=some .local then cm else (fun z=>if z=n then some v else cm z)) y=some u
    split
    ·exact h2 hk
    ·exact (if_neg hyn).trans (h2 hk)
def zfl(own:List Str)(X E:List Addr)(h h₁:Heap)(x:Str)(v:Value)(d:D):Prop:=
 (own.contains x=false∧Rep h X false v d)∨(own.contains x=true∧x=qb∧Rep h₁ (E++X) true v d∧∀ b∈zw h₁ v,b∈E)
noncomputable def zuv(E:List Addr):Str→List Addr:=fun y=>if y=qb then E else []
theorem jN{E:List Addr}{b:Addr}(h:b∈zuv E y):y=qb∧b∈E:=
 if q:y=qb then ⟨q,rwL (P:=fun l=>b∈l) (if_pos q) h⟩ else absurd (rwL (P:=fun l=>b∈l) (if_neg q) h) not_mem_nil
noncomputable def zqD(cs:List (Str × Addr)):List Addr:=cs.filterMap fun q=>if cs.lookup q.1=some q.2 then some q.2 else none
theorem zxj{cs:List (Str × Addr)}(h:cs.lookup x=some c):c∈zqD cs:=List.mem_filterMap.mpr ⟨(x,c),mem_of_lookup h,if_pos h⟩
theorem pC{cs:List (Str × Addr)}(h:c∈zqD cs):∃ x,cs.lookup x=some c:=
 X12 (List.mem_filterMap.mp h) fun q z e=>X02 (zk e) fun h e=>⟨q.1,sj e▸h⟩
structure zuu(T:Sc)(fa:Addr)(fd:FuncData)(names:List Str)(body:List Stmt)(vs:List Value)(ds:List D)(X E:List Addr)(A:Around)(s s₁:Shared):Prop where
 FA:xb fa fd names body
 lim:h₀.NoLimit
 sc:T.sc=fd.scope
 σ:T.σ=zL names ds (fun z=>none)
 CO:jH T.C
 G:kB
 SO:zyj T.C
 hA:kQ A (T.C.lvl+1)
 cod:T.own.contains zp8=true→fd.code= .ref cc
 K:Ok X s
 g:Grow s s₁
 e1:∀ a∈E,s.heap.objs.size≤a
 e2:∀ a∈E,a<s₁.heap.objs.size
 pin:T.own.contains qb=true→E=[s₁.heap.objs.size - 1,s₁.heap.objs.size - 2]
 h:zvh (zfl T.own X E s.heap s₁.heap) names vs ds
theorem kQ.deeper(h:kQ A (k+1)):kQ (A.deeper env) k:=⟨h.hand,by have:=h.depth;show A.depth+1+5 *k<900;lia,by have:=h.units;show A.units+3+100 *k<9000;lia⟩
noncomputable def zfc:Flow→Value
 | .ret v=>v
 |_=>.none
theorem zuu.go{E:List Addr}(N:zuu T fa fd names body vs ds X E A s s₁){R:Result→Shared→Prop}
  (k:∀ env S,FrR T ⟨env,A.deeper env,X⟩ S→env.locals=s₁.heap.objs.size→Grow s S.s→(∀ b∈S.W,s.heap.objs.size≤b)→wpAny (model prog w) (A.deeper env) (execs body env) (fun f s'=>R (.ok (.ret (zfc f))) s') (fun e s'=>wpAny (model prog w) (A.deeper env) (leaving env e) (fun z s''=>R (.error e) s'') (fun e' s''=>R (.error e') s'') s') S.s):
  codeAny (model prog w) A (.call (.ref fa) ⟨vs,[]⟩) R s₁:=X12 N.FA.obj fun fo ho hd=>X45 N.FA.code fun c oc cv ct hc1 hc2 hc3 hc4 hc5=>by
 have K1:=N.K.grow N.g;have FA:=N.FA;have hcd:s₁.heap.CodeRec fd.code fd.qualname:=⟨c,oc,cv,ct,hc1,K1.old _ _ hc2 hc3,hc4,hc5⟩
 have hlims:s₁.heap.NoLimit:=X12 N.lim fun mc hn hm=>⟨mc,hn.at' fun o e=>K1.old _ o (Ne.symm N.K.ccs.2.2.2.2.2) e,hm⟩
 refine codeAny_call_function (body:=body) (by have:=N.hA.depth;unfold recursionLimit;lia) (K1.old _ _ FA.ne ho) hd FA.co FA.gen FA.body hcd (BindsTo.of_eq (FA.bind vs N.h.length) _ _ _ _ ?_);rw [FA.clo];have hcf:∀ {x},fd.scope.names.lookup x=some .cell→∃ c,(cellsFrom (s₁.heap.objs.size+1) fd.scope.names []).lookup x=some c:=fun h=>qG _ fd.scope.names _ (mem_of_lookup h);refine wpAny_newFunctionEnv_cells FA.kind (fun x hx=>(y6 (FA.store _ (of_mem_zip hx).1)).imp id fun h=>⟨h,X11 (hcf h) fun c hc=>isSome_iff_exists.mpr ⟨c,hc⟩⟩) fun env he s₂ IC=>X22 IC.done fun h' tk es keep=>?_;have eL:env.locals=s₁.heap.objs.size:=he▸rfl;have eS:env.scope=fd.scope:=he▸rfl;have eC:env.cells=cellsFrom (s₁.heap.objs.size+1) fd.scope.names []:=he▸rfl;have eK:env.code=fd.code:=he▸rfl;have eG:env.globals=mainGlobals:=(show env.globals=fd.globals from he▸rfl).trans FA.glob;have eB:env.builtins=builtinsNs:=(show env.builtins=fd.builtins from he▸rfl).trans FA.bi;clear he;have hns:=IC.toInCall.ns;have hap:=IC.apart;have hce:∀ {x c},env.cells.lookup x=some c→s₁.heap.objs.size<c∧s₂.heap.IsCell c (bindC env.kindOf (names.zip vs) (fun z=>none) x):=fun {x c} hx=>⟨eL▸IC.above x c (mem_of_lookup hx),IC.cell x c hx⟩
 clear IC;have hLl:env.locals<s₂.heap.objs.size:=X32 hns fun o z z ho z=>lt_size ho;have keep:∀ b o,s₁.heap.get? b=some o→s₂.heap.get? b=some o:=by rw [es];exact keep
 have g:Grow s₁ s₂:=by
  have l:=eL▸hLl;rw [es] at keep l ⊢;exact Grow.of_keep keep (le_of_lt l)
 clear es;have hkd:env.kindOf=fun x=>fd.scope.names.lookup x:=funext fun x=>congrArg (fun c:Scope=>c.names.lookup x) eS;have sz:=N.g.size;have hcl:∀ {x c},env.cells.lookup x=some c→s.heap.objs.size≤c∧c<s₂.heap.objs.size:=fun hx=>⟨le_trans sz (le_of_lt (hce hx).1),X12 (hce hx).2 fun o ho z=>lt_size ho⟩
 have hWn:∀ a∈E++env.locals::zqD env.cells,s.heap.objs.size≤a∧a<s₂.heap.objs.size:=fun a m=>(mem_append.mp m).elim (fun m=>⟨N.e1 a m,lt_of_lt_of_le (N.e2 a m) g.size⟩) fun m=>(mem_cons.mp m).elim (fun e=>e▸⟨eL▸sz,hLl⟩) fun m=>X11 (pC m) fun x hx=>hcl hx;have hxX:∀ a∈(E++env.locals::zqD env.cells)++X,a∈X∨s.heap.objs.size≤a:=fun a m=>(mem_append.mp m).elim (fun m=>.inr (hWn a m).1) .inl;have look:=pL env.kindOf N.h (σ:=fun z=>none) (m:=fun z=>none) (cm:=fun z=>none) fun x d hx=>zq hx;rw [←N.σ] at look;have lts:=N.K.lts;have nn:∀ {a},s.heap.objs.size≤a→a≠P₀∧a≠cStatics:=fun h=>⟨(ne_of_lt (lt_of_lt_of_le lts.2.1 h)).symm,(ne_of_lt (lt_of_lt_of_le lts.2.2 h)).symm⟩
 have hV:∀ {x:Str} {v:Value} {d:D},zfl T.own X E s.heap s₁.heap x v d→VOk s₂.heap ((E++env.locals::zqD env.cells)++X) (T.own.contains x) (fun a=>a∉zuv E x) v d:=fun {x v d} i=>i.elim
  (fun i=>by rw [i.1];exact ⟨Rep.grow (N.g.trans g) (i.2.addX hxX),fun q=>Bool.noConfusion q⟩)
  fun i=>by
   rw [i.1];refine ⟨Rep.grow g (i.2.2.1.addX fun a m=>(mem_append.mp m).elim (fun m=>(mem_append.mp m).elim (fun m=>.inl (mem_append_left _ m)) fun m=>.inr ((mem_cons.mp m).elim (fun e=>e▸le_of_eq eL.symm) fun m=>X11 (pC m) fun x hx=>le_of_lt (hce hx).1)) fun m=>.inl (mem_append_right _ m)),fun z b m n=>n ?_⟩;rw [i.2.2.1.roots g.keep] at m;exact rwR (P:=fun l=>b∈l) (if_pos i.2.1) (i.2.2.2 b m)
 have F:FrR T ⟨env,A.deeper env,X⟩ ⟨zuv E,E++env.locals::zqD env.cells,(E++env.locals::zqD env.cells)++X,s₂⟩:=by
  refine ⟨⟨eS.trans N.sc.symm,fun q=>eK.trans (N.cod q),N.sc▸FA.kind,eG,eB,nn (eL▸sz),fun x q=>?_,⟨_,hns,fun x d hx hd=>X13 (look x d hd) fun v h1 z i=>⟨v,h1 (by rw [hkd, ←N.sc];exact hx),hV i⟩⟩,fun x hx=>?_,fun x y c h1 h2=>name_of_addr hap (mem_of_lookup h1) (mem_of_lookup h2)⟩,
   N.K.addX (fun a m=>mem_append_right _ m) hxX (fun a m=>(mem_append.mp m).elim (fun m=>(hWn a m).2) fun m=>lt_of_lt_of_le (N.K.x.lt a m) (le_trans sz g.size)) (N.g.trans g),fun a m=>mem_append_left _ m,fun a m=>le_trans N.K.sz (hWn a m).1,fun a m q=>absurd (N.K.x.lt a q) (not_lt.mpr (hWn a m).1),⟨fun a m=>mem_append_right _ m,N.K.x.mem⟩,
   mem_append_right _ (.head _),fun x c z hc=>mem_append_right _ (.tail _ (zxj hc)),fun x a m=>mem_append_left _ (jN m).2,fun x y hxy a m m'=>hxy ((jN m).1.trans (jN m').1.symm),fun h=>(if_pos rfl:zuv E qb=E).trans (eL▸N.pin h),fun x a m y c z hc e=>?_,N.hA.deeper,N.CO,N.G,N.SO⟩
  ·exact absurd (eL▸N.e2 _ (jN q).2) (lt_irrefl _)
  ·rw [N.sc] at hx;have hx':fd.scope.names.lookup x=some .cell:=hx.elim id fun hx=>absurd rfl (FA.nofree x _ (mem_of_lookup hx));refine X11 (hcf hx') fun c hc=>?_;rw [←eC] at hc;have hc':=hce hc;exact ⟨c,hc,nn (hcl hc).1,⟨_,hc'.2⟩,fun d hd=>X13 (look x d hd) fun v z h2 i=>⟨v,rwL (P:=fun o=>s₂.heap.IsCell c o) (h2 (by rw [hkd];exact fun q=>NameKind.noConfusion (sj (hx'.symm.trans q)))) hc'.2,hV i⟩⟩
  ·exact absurd (e▸N.e2 _ (jN m).2) (not_lt.mpr (le_of_lt (hce hc).1))
 refine ⟨hlims.keeps keep,codeAny_func (wpAny_mono (k env _ F eL (N.g.trans g) fun b m=>(hWn b m).1) (fun f s' h=>?_) fun z z h=>h)⟩;cases f<;>exact h
noncomputable def fnD(C:Cx)(n m:Nat)(own:List Str)(sc:Scope)(names:List Str)(body:List Stmt)(ds:List D):Option D:=
 if ds.length=names.length then exK (evK (n+1)) m ⟨C,own,sc,zL names ds (fun z=>none)⟩ body wh else none
theorem zbb{f:Flow}(hk:wh σ fl=some r)(fr:FlR X h fl f):Rep h X false (zfc f) r:=by
 cases fl with
 |ret d=>
  refine X12 fr fun v e rv=>?_;rw [e];exact sj hk▸rv
 |next=>
  have e:f= .next:=fr
  rw [e];exact sj hk▸ .none _
 |brk=>exact zq hk
structure qX(C:Cx)(own:List Str)(fa:Addr)(fd:FuncData)(names:List Str)(body:List Stmt):Prop where
 FA:xb fa fd names body
 lim:h₀.NoLimit
 CO:jH C
 G:kB
 SO:zyj C
 hown:∀ x∈names,own.contains x=false
 hsf:own.contains qb=false
 cod:own.contains zp8=true→fd.code= .ref cc
theorem wm{C:Cx}(p:qX C own fa fd names body)(hf:fnD C n m own fd.scope names body ds=some r)(hA:kQ A (C.lvl+1))(K:Ok X s)(rl:zu s.heap X vs ds):zj A X (call (.ref fa) vs) s r:=fun Q E hQ=>
 iE hf fun hlen hf=>(zxq m hf).elim fun σ' fl h1 h=>wpAny_call (zuu.go (T:=⟨C,own,fd.scope,zL names ds (fun z=>none)⟩) (E:=[]) ⟨p.FA,p.lim,rfl,rfl,p.CO,p.G,p.SO,hA,p.cod,K,Grow.refl ..,(fun z m=>nomatch m),(fun z m=>nomatch m),fun q=>Bool.noConfusion (p.hsf.symm.trans q),zvh.of hlen rl fun x m v d r=>.inl ⟨p.hown x m,r⟩⟩
  fun env S F z g hW=>h1 _ S F _ _ fun S' f w=>hQ _ S'.s (((g.toW S.W).trans w.g).toGrow hW) (zbb h w.fr))
end
end
section
section
theorem kQ.pred(h:kQ A (k+1)):kQ A k:=h.le (le_succ k)
noncomputable def Cx.addFn(C:Cx)(f:Str)(g:List D→Option D)(l:Nat):Cx:={ C with call:=fun x ds=>if x=f then g ds else C.call x ds,lvl:=l }
theorem qX.addFn{C:Cx}(p:qX C own fa fd names body)(hg:jV f=some (.ref fa)):jH (C.addFn f (fnD C n m own fd.scope names body) (C.lvl+1)) where
 glob:=p.CO.glob
 call:=fun {x ds r} h=>i2 h (fun hx h=>⟨_,hx▸hg,fun {A s X pos trees} hA K hp T Q E hQ=>X12 p.FA.obj fun fo ho hd=>
   callWith_function_kw (o:=fo) (fd:=fd) (zQ hp (T _ _ fun vs s₁ g rl=>⟨⟨(K.grow g).old _ _ p.FA.ne ho,hd⟩,wm p h hA (K.grow g) rl _ _ fun v s₂ g2 r2=>hQ _ _ (g.trans g2) r2⟩))⟩)
  fun z h=>X12 (p.CO.call h) fun fv h1 h2=>⟨fv,h1,fun hA=>h2 hA.pred⟩
 meth:=fun {name c fs ds r} h {A s X ov o apos pos env n trees} hA=>p.CO.meth h hA.pred
 fld:=p.CO.fld
 attr:=p.CO.attr
 spec:=fun {own sc e σ d} h {V env X s A} R K hA=>p.CO.spec h R K hA.pred
noncomputable def zgV(f:Str)(a:D):Option D:=
 if f="len" then gx a else if f="sum" then zd8 a else if f="min" then zd9 a else if f="abs" then zdN a else if f="str" then zyD a else if f="tuple" then xC a else none
noncomputable def zgU(f:Str)(a b:D):Option D:=if f="max" then zhD a b else if f="divmod" then xL a b else none
noncomputable def zug(f:Str)(ds:List D):Option D:=
 match ds with
 |[]=>none
 |a::l=>match l with
  |[]=>zgV f a
  |b::l=>match l with
   |[]=>zgU f a b
   |z::y=>none
inductive zup:Expr→Str × List Expr→Prop
 |mk (f:Str) (args:List Expr) (fp pos:Pos):zup (.Call (.Name f fp) args [] pos) (f,args)
noncomputable def zgG(e:Expr):Option { q:Str × List Expr // zup e q }:=match e with
 | .Call (.Name f fp) args [] pos=>some ⟨(f,args),.mk f args fp pos⟩
 |_=>none
noncomputable def znZ(d:D)(T:Str):Option D:=if T="tuple" then (zpa d "tuple").map .bool else if T="int" then (zpa d "int").map .bool else none
noncomputable def zmh(sc:Scope)(σ:Sg)(f:Str)(l:List Str):Option D:=match l with
 |[]=>none
 |x::l=>match l with
  |[]=>none
  |T::l=>match l with
   |[]=>if f="isinstance"∧zG sc f=true∧jq sc x=true∧zG sc T=true then (σ x).bind fun d=>znZ d T else none
   |z::y=>none
noncomputable def zfo(sc:Scope)(e:Expr)(σ:Sg):Option D:=(zgG e).bind fun q=>(qp nmE q.1.2).bind fun l=>zmh sc σ q.1.1 l
structure zbd:Prop where
 len:jV "len"=some (.builtin "len")
 sum:jV "sum"=some (.builtin "sum")
 min:jV "min"=some (.builtin "min")
 max:jV "max"=some (.builtin "max")
 abs:jV "abs"=some (.builtin "abs")
 divmod:jV "divmod"=some (.builtin "divmod")
 str:jV "str"=some (.type "str")
 tuple:jV "tuple"=some (.type "tuple")
 isi:jV "isinstance"=some (.builtin "isinstance")
 int:jV "int"=some (.type "int")
theorem yV{id:String}{trees:List (Bool × Sem Value)}(K:Ok X s)(hp:trees.any (fun z=>z.1)=false)(T:zqZ A X s trees ds)(h:∀ {s vs},Ok X s→zu s.heap X vs ds→zj A X (call (.builtin id) vs) s r):
  zj A X (callWith pos (.builtin id) [] trees []) s r:=fun Q E hQ=>
 callWith_builtin hp (zQ hp (T _ _ fun vs s₁ g rl=>h (K.grow g) rl _ _ fun v s₂ g2 r2=>hQ _ _ (g.trans g2) r2))
theorem zub{id:String}{trees:List (Bool × Sem Value)}(K:Ok X s)(hp:trees.any (fun z=>z.1)=false)(T:zqZ A X s trees ds)(h:∀ {s vs},Ok X s→zu s.heap X vs ds→zj A X (call (.type id) vs) s r):
  zj A X (callWith pos (.type id) [] trees []) s r:=fun Q E hQ=>
 PyProof.Rows.callWith_type hp (zQ hp (T _ _ fun vs s₁ g rl=>h (K.grow g) rl _ _ fun v s₂ g2 r2=>hQ _ _ (g.trans g2) r2))
theorem zu.one{a:D}(R:zu h X vs [a]):∃ v,vs=[v]∧Rep h X false v a:=by
 cases R with|cons a b=>cases b;exact ⟨_,rfl,a⟩
theorem zu.two{a b:D}(R:zu h X vs [a,b]):∃ v u,vs=[v,u]∧Rep h X false v a∧Rep h X false u b:=by
 cases R with|cons a b=>cases b with|cons b c=>cases c;exact ⟨_,_,rfl,a,b⟩
def BOk(f:Str)(ds:List D)(r:D):Prop:=∃ fv,jV f=some fv∧∀ {A s X pos} {trees:List (Bool × Sem Value)},A.handled=none→Ok X s→trees.any (fun z=>z.1)=false→zqZ A X s trees ds→zj A X (callWith pos fv [] trees []) s r
theorem kj{id:String}{a:D}(g:jV (ofString id)=some (.builtin id))(h:∀ {A s X v},A.handled=none→Ok X s→Rep s.heap X false v a→zj A X (call (.builtin id) [v]) s r):BOk (ofString id) [a] r:=
 ⟨_,g,fun hA K hp T=>yV K hp T fun K rl=>rl.oneE (M:=fun vs=>zj _ _ (call _ vs) _ _) fun z rv=>h hA K rv⟩
theorem vX{id:String}{a b:D}(g:jV (ofString id)=some (.builtin id))(h:∀ {A s X v u},A.handled=none→Ok X s→Rep s.heap X false v a→Rep s.heap X false u b→zj A X (call (.builtin id) [v,u]) s r):BOk (ofString id) [a,b] r:=
 ⟨_,g,fun hA K hp T=>yV K hp T fun K rl=>rl.consE (M:=fun vs=>zj _ _ (call _ vs) _ _) fun v z rv rl=>rl.oneE (M:=fun us=>zj _ _ (call _ (v::us)) _ _) fun z ru=>h hA K rv ru⟩
theorem zgP{id:String}{a:D}(g:jV (ofString id)=some (.type id))(h:∀ {A s X v},Ok X s→Rep s.heap X false v a→zj A X (call (.type id) [v]) s r):BOk (ofString id) [a] r:=
 ⟨_,g,fun z K hp T=>zub K hp T fun K rl=>rl.oneE (M:=fun vs=>zj _ _ (call _ vs) _ _) fun z rv=>h K rv⟩
theorem y7{c:Prop}[Decidable c]{a b:Option α}{r:α}(h:(if c then a else b)=some r)(k:c→a=some r→C)(k':b=some r→C):C:=
 if q:c then k q ((if_pos q).symm.trans h) else k' ((if_neg q).symm.trans h)
theorem zud(B:zbd)(h:zug f ds=some r):BOk f ds r:=by
 match ds,h with
 |[],h=>exact zq h
 |[a],h=>
  have h:zgV f a=some r:=h;refine y7 h (fun e h=>e▸kj B.len fun z K rv=>pQ rv h) fun h=>?_;refine y7 h (fun e h=>e▸kj B.sum fun hA K rv=>zkx hA rv h) fun h=>?_;refine y7 h (fun e h=>e▸kj B.min fun hA K rv=>zkw hA rv h) fun h=>?_;refine y7 h (fun e h=>e▸kj B.abs fun hA K rv=>zku rv h) fun h=>?_;refine y7 h (fun e h=>e▸zgP B.str fun K rv=>zkg rv h) fun h=>?_;exact y7 h (fun e h=>e▸zgP B.tuple fun K rv=>xA K.x rv h) fun h=>zq h
 |[a,b],h=>
  have h:zgU f a b=some r:=h;refine y7 h (fun e h=>e▸vX B.max fun hA K rv ru=>zkv hA rv ru h) fun h=>?_;exact y7 h (fun e h=>e▸vX B.divmod fun hA K rv ru=>pX K.x rv ru h) fun h=>zq h
 |_::_::_::_,h=>exact zq h
theorem zuf{l:List Str}(h:zmh sc σ f l=some r):∃ x T d,l=[x,T]∧(f="isinstance"∧zG sc f=true∧jq sc x=true∧zG sc T=true)∧σ x=some d∧znZ d T=some r:=match l,h with
 |[],h=>zq h
 |[_],h=>zq h
 |[x,T],h=>
  X02 (zk h) fun c h=>
  X12 (bind_some h) fun d h1 h2=>
  ⟨x,T,d,rfl,c,h1,h2⟩
 |_::_::_::_,h=>zq h
theorem zuh(G:kB)(B:zbd)(h:zfo sc e σ=some r)(R:zC V env sc own σ X s.heap)(K:Ok X s):zj A X (eval e env) s r:=by
 (refine X12 (bind_some h) fun z6 z h=>?_;obtain ⟨q,hq⟩:=z6)
 revert h;refine zup.casesOn (motive:=fun e q z=>(qp nmE q.2).bind (fun l=>zmh sc σ q.1 l)=some r→zj A X (eval e env) s r) hq fun f args fp pos h=>?_;refine X12 (bind_some h) fun l hl h=>?_;obtain ⟨x,T,d,e,⟨hf,hg,hx,hT⟩,hd,h9⟩:=zuf h;rw [e] at hl;refine X22 (qM hl) fun xp l1 e1 h1=>?_;refine X22 (qM h1) fun Tp l2 e2 h2=>?_
 replace e1:args=_:=e1
 replace hf:f=_:=hf
 replace hg:zG sc f=true:=hg
 rw [e1,e2,vZ h2,hf];rw [hf] at hg;intro Q E hQ
 have go:∀ {T:String} {b:Bool},jV (ofString T)=some (.type T)→zG sc (ofString T)=true→zpa d T=some b→D.bool b=r→
   wpAny (model prog w) A (eval (.Call (.Name "isinstance" fp) [.Name x xp,.Name (ofString T) Tp] [] pos) env) Q E s:=fun {T b} h1 h2 h3 h4=>by
  refine Call_Name (trees:=[(false,eval (.Name x xp) env),(false,eval (.Name (ofString T) Tp) env)]) rfl (R.global K G hg B.isi ?_);refine callWith_builtin rfl (evalArgs_plain (spliced_cons (R.name hx hd fun v rv=>spliced_cons (R.global K G h2 h1 (spliced_nil ?_)))));exact zkp rv h3 _ _ fun v' s' g r'=>hQ _ _ g (h4▸r')
 replace h:(if T=("tuple":Str) then (zpa d "tuple").map D.bool else if T=("int":Str) then (zpa d "int").map D.bool else none)=some r:=h9
 refine y7 h (fun e h=>?_) fun h=>?_
 ·subst e;refine X12 (map_some h) fun b q h=>?_;exact go B.tuple hT q h
 ·refine X02 (zk h) fun e h=>?_;subst e;refine X12 (map_some h) fun b q h=>?_;exact go B.int hT q h
end
end
section
section
variable {K:Frag}
theorem Ok.frag(k:Ok X s)(KX:K.In h₀)(hp:K.lookup P₀=none):K.In s.heap:=fun a o e=>k.old a o (fun q=>by subst q;rw [hp] at e;cases e) (KX a o e)
structure ClsAt(K:Frag)(c:Addr):Prop where
 ga:findIn K (.ref c) "__getattribute__"=some (some (.builtin "object.__getattribute__"))
 gm:findIn K (.ref c) "__getattr__"=some none
 sa:findIn K (.ref c) "__setattr__"=some (some (.builtin "object.__setattr__"))
 plain:plainOver K c=true
 dict:(clsIn K c).any (·.hasDict)=true
structure zxy(K:Frag)(c:Addr)(f:Str):Prop extends ClsAt K c where
 no:findIn K (.ref c) f=some none
theorem ky{es:Array DictEntry}(h:StrKeys es):es.any (·.refKey)=false:=by
 rw [Array.any_eq_false];intro i hi;refine X21 (h es[i] (getElem_mem hi)) fun n t e=>?_;simp [DictEntry.refKey,e]
theorem wn(p:h.DictOf (strKind prog w) a kvs)(name:Str):∃ o,h.get? a=some o∧lookIn name o=some (valueAt kvs name):=by
 refine X36 (yN p) fun o es ep ho hc hd hs hf z=>?_;refine ⟨o,ho,?_⟩;unfold lookIn;rw [hd];dsimp only;have:=hf name;unfold nsFind at this;unfold findBy at this;rw [←this, ←Array.find?_toList];cases q:es.toList.find? (·.key.isStr name) with
 |some e=>rfl
 |none=>
  dsimp only;rw [any_toList,ky hs];rfl
theorem zqF{dx:Addr}{od:Obj}(g:h.get? a=some (instObj c dx))(ho:h.get? dx=some od):InstAt h a (instObj c dx) c (some od):=
 ⟨g,rfl,rfl,ho⟩
theorem zxk(r:Rep h X t v d):handedIn v=true:=by cases r<;>rfl
theorem vW{h:Heap}:∀ {kvs:List (Str × Value)} {fs:List (Str × D)} {name:Str} {d:D},kvs.map (fun z=>z.1)=fs.map (fun z=>z.1)→zu h X (kvs.map (fun z=>z.2)) (fs.map (fun z=>z.2))→fs.lookup name=some d→∃ v,valueAt kvs name=some v∧Rep h X false v d
 |[],[],_,_,_,_,e=>by cases e
 |[],_::_,_,_,e,_,_=>by simp at e
 |_::_,[],_,_,e,_,_=>by simp at e
 |(k,v)::kvs,(k',d')::fs,name,d,e,R,q=>by
  simp only [map_cons,List.cons.injEq] at e;obtain ⟨rfl,e⟩:=e;simp only [map_cons] at R;cases R with|cons r1 r2=>
  simp only [lookup_cons] at q;by_cases hk:name=k
  ·subst hk;rw [beq_self_eq_true] at q;cases q;exact ⟨v,by simp [valueAt],r1⟩
  ·rw [show (name==k)=false from by simpa using hk] at q;refine X12 (vW e r2 q) fun u h1 h2=>?_;refine ⟨u,?_,h2⟩;unfold valueAt at h1 ⊢;rw [List.find?_cons_of_neg (by simpa using fun q=>hk q.symm)];exact h1
theorem zfa{name:Str}{ov:Value}(KX:K.In h₀)(hp:K.lookup P₀=none)(FA:zxy K c name)(hl:fs.lookup name=some d)(k:Ok X s)(R:Rep s.heap X t ov (.obj c fs)):zj A X (getAttr ov name true) s d:=by
 intro Q E hQ;cases R with|obj r r' g i e l=>
 refine X12 (vW e l hl) fun u hu ru=>?_;refine X12 (wn i name) fun o ho hlk=>?_;have KI:=k.frag KX hp;refine X12 (any_some FA.dict) fun cd hc hdict=>?_;refine get_value KI (zqF g ho) FA.ga (v:=u) ?_ (zxk ru) (hQ _ _ (Grow.toks ..) ru);unfold findObj;rw [hc,FA.no]
 show (ownOf cd (some o) name).bind _=_
 unfold W.ownOf;rw [if_pos hdict];dsimp only;rw [hlk,hu];rfl
theorem zyp{name:Str}{tk:Tok}(p:h.DictOf (strKind prog w) a kvs):
  ∃ o es ep,h.get? a=some o∧o.data= .dict es ep∧StrKeys es∧es.size=kvs.length∧(Obj.putName name (PyData.keyHash w.params name) (.str name tk) v o).data= .dict (if es.any (·.key.isStr name) then es.modify ((es.findIdx? (·.key.isStr name)).getD 0) fun e=>{ e with val:=v } else es.push ⟨PyData.keyHash w.params name,.str name tk,v⟩) (if es.any (·.key.isStr name) then ep else ep+1)∧
   (h.update a (Obj.putName name (PyData.keyHash w.params name) (.str name tk) v)).DictOf (strKind prog w) a (stored kvs name v):=by
 refine X36 (id p) fun o es ep ho hc hd hk hp hn=>?_;refine X37 (yN p) fun o' es' ep' ho' z hd' hs z hl z=>?_;rw [ho] at ho';cases ho';rw [hd] at hd';cases hd'
 have hkey:(strKind prog w).is name (.str name tk)=true:=by
  show Value.isStrOf name (.str name tk)=true
  rw [←isStr_of];simp [Value.isStr]
 have hash:PyData.keyHash w.params name=(strKind prog w).hash name:=rfl;have his:(fun e:DictEntry=>e.key.isStr name)=fun e=>(strKind prog w).is name e.key:=by funext e;exact isStr_of name e.key
 have hidx:(es.findIdx? fun e=>(strKind prog w).is name e.key)=kvs.findIdx? fun kv=>decide (kv.1=name):=by
  rw [←hp.findIdx name];obtain ⟨l⟩:=es;simp
 obtain ⟨oc,odi,oda,osl⟩:=o;dsimp only at hd;subst hd;refine ⟨_,es,ep,ho,rfl,hs,hl.symm,?_,?_⟩
 ·simp only [Obj.putName_eq,Obj.putNameByArray];cases hi:es.findIdx? (·.key.isStr name) with
  |some i=>
   have hany:es.any (·.key.isStr name)=true:=by
    refine X12 (Array.findIdx?_eq_some_iff_getElem.mp hi) fun hlt hp z=>?_;rw [Array.any_eq_true];exact ⟨i,hlt,hp⟩
   simp [hany]
  |none=>
   have hany:es.any (·.key.isStr name)=false:=by
    rw [Array.findIdx?_eq_none_iff] at hi;rw [Array.any_eq_false];intro i hlt;have:=hi es[i] (getElem_mem hlt)
    simpa using this
   simp [hany]
 ·cases hi:es.findIdx? fun e=>(strKind prog w).is name e.key with
  |some i=>
   have hi':es.findIdx? (·.key.isStr name)=some i:=by rw [his];exact hi
   refine ⟨_,_,ep,get?_update_self _ ho (by simp only [Obj.putName_eq,Obj.putNameByArray,hi'];rfl),?_,by simp only [Obj.putName_eq,Obj.putNameByArray,hi'];rfl,hk.modify _ _,?_,?_⟩
   ·simp only [Obj.putName_eq,Obj.putNameByArray,hi'];exact hc
   ·rw [stored,if_pos (any_of_findIdx_some (hidx▸hi))];have hl:(es.toList.findIdx? fun e=>(strKind prog w).is name e.key)=some i:=by rw [←hi];obtain ⟨l⟩:=es;simp
    have:=hp.modify hn hl v;obtain ⟨l⟩:=es
    simpa using this
   ·rw [stored,if_pos (any_of_findIdx_some (hidx▸hi)),keys_map_store];exact hn
  |none=>
   have hi':es.findIdx? (·.key.isStr name)=none:=by rw [his];exact hi
   have hnot:name∉kvs.map (fun z=>z.1):=not_mem_of_findIdx_none (hidx▸hi)
   have hany:¬ (kvs.any fun kv=>decide (kv.1=name))=true:=by
    rw [any_eq_true];rintro ⟨kv,hkv,he⟩;exact hnot (mem_map.mpr ⟨kv,hkv,of_decide_eq_true he⟩)
   refine ⟨_,_,ep+1,get?_update_self _ ho (by simp only [Obj.putName_eq,Obj.putNameByArray,hi'];rfl),?_,by simp only [Obj.putName_eq,Obj.putNameByArray,hi'];rfl,hash▸hk.push hkey _,?_,?_⟩
   ·simp only [Obj.putName_eq,Obj.putNameByArray,hi'];exact hc
   ·rw [stored,if_neg hany];have:=hp.append hkey ((strKind prog w).hash name) v;rw [hash];obtain ⟨l⟩:=es
    simpa using this
   ·rw [stored,if_neg hany,map_append,nodup_append];refine ⟨hn,by simp,?_⟩;intro a ha b hb;simp only [map_cons,map_nil,mem_singleton] at hb;subst hb;exact fun e=>hnot (e▸ha)
end
end
section
section
variable {K:Frag}
set_option tactic.hygienic true in
theorem zfe(KX:K.In h₀)(hp:K.lookup P₀=none)(FA:zxy K c f)(hl:fs.length≤50)(k:Ok X s)(R:Rep s.heap X true (.ref a) (.obj c fs))(hX:∀ b∈zw s.heap (.ref a),b∈X)(Rv:Rep s.heap X false v d)
  (Q:Unit→Shared→Prop)(E:Value→Shared→Prop)
  (hQ:∀ h' tk,(∀ b o,b∉zw s.heap (.ref a)→s.heap.get? b=some o→h'.get? b=some o)→s.heap.objs.size≤h'.objs.size→Rep h' X true (.ref a) (.obj c (qc fs f d))→zw h' (.ref a)=zw s.heap (.ref a)→Q () { s with heap:=h',toks:=tk }):
  wpAny (model prog w) A (setAttr (.ref a) f v) Q E s:=by
 cases R with|obj r r' g i e l=>
 rename_i dx kvs;have KI:=k.frag KX hp;refine X12 (wn i f) fun od hod hlk=>?_;refine X36 (zyp (name:=f) (tk:=s.toks+1) (v:=v) i) fun o' es ep ho' hd' hs hsz hput hdict=>?_;rw [hod] at ho';cases ho';have I:=zqF g hod;have hroots:zw s.heap (.ref a)=[a,dx]:=by simp only [zw,g];rfl
 have hdxr:dx∈[a,dx]:=by simp
 refine set_plain KI I FA.sa ?_;have htk:takerIn K c f=some none:=by unfold takerIn;rw [FA.no];rfl
 refine osa_open (s:={ s with toks:=s.toks+1 }) KI I FA.plain htk fun b=>?_;refine X12 (any_some FA.dict) fun cd hc hdict'=>?_;refine wpAny_bind (wpAny_pure (wpAny_bind (wpAny_bind (wpAny_loadPart g (wpAny_bind (Looks.here (s:={ s with toks:=s.toks+1 }) (looks_clsIn KI hc) ?_))))));rw [hdict'];refine wpAny_pure (a:=some dx) (wpAny_bind (wpAny_pure (wpAny_bind ?_)));unfold nsSet;refine wpAny_bind (wpAny_bind (wpAny_askSetting (wpAny_pure (wpAny_bind (wpAny_mkText (wpAny_bind (wpAny_loadPart hod ?_)))))));rw [hd'];dsimp only;rw [aRefKeyMayBeTheName_at,ky hs,Bool.and_false];have hdx:dx<s.heap.objs.size:=lt_size hod
 have had:a≠dx:=fun q=>by
  subst q;rw [g] at hod;cases hod;cases hd'
 refine wpAny_updatePart hod ?_;refine X34 (id hdict) fun oD esD epD hoD _ hdD _=>?_
 have hge:(s.heap.update dx (Obj.putName f (PyData.keyHash w.params f) (.str f (s.toks+1)) v)).get? dx=some (Obj.putName f (PyData.keyHash w.params f) (.str f (s.toks+1)) v od):=by
  refine get?_update_self _ hod ?_;exact Obj.isFreed_of_dict hput
 have hks:kvs.length=fs.length:=by have:=congrArg List.length e;simpa using this
 refine wpAny_bind (wpAny_lookBehind hge (by rw [hput];exact pastItsLine_dict (by rw [sizeLine_eq];split<;>simp<;>lia)) ?_);have keep:∀ b o,b≠dx→s.heap.get? b=some o→(s.heap.update dx (Obj.putName f (PyData.keyHash w.params f) (.str f (s.toks+1)) v)).get? b=some o:=fun b o n q=>by rw [get?_update_ne _ _ _ _ n];exact q
 refine X02 (yx (k:=f) e l Rv) fun st1 st2=>?_;have dxX:dx∈X:=hX dx (by rw [hroots];exact hdxr);have hup:∀ b o,b∉X→s.heap.get? b=some o→(s.heap.update dx (Obj.putName f (PyData.keyHash w.params f) (.str f (s.toks+1)) v)).get? b=some o:=fun b o n q=>keep b o (fun z=>n (z▸dxX)) q;have hga:=keep a _ had g;refine wpAny_pure (hQ _ _ (fun b o n q=>keep b o (fun z=>n (by rw [hroots,z];exact hdxr)) q) (by rw [Heap.size_after_update];exact le_refl _) (.obj r r' hga hdict st1 (st2.upd hup)) ?_);rw [hroots]
 show (a::match (s.heap.update dx (Obj.putName f (PyData.keyHash w.params f) (.str f (s.toks+1)) v)).get? a with
  |some o=>o.dict.toList
  |none=>[])=[a,dx]
 rw [hga];rfl
end
end
section
noncomputable def Cx.addMeth(C:Cx)(c:Nat)(name:Str)(g:List D→Option D):Cx:=
 { C with lvl:=C.lvl+1,meth:=fun nm d ds=>match d with
  | .obj c' fs=>if c'=c∧nm=name∧fs.lookup name=none then g (.obj c' fs::ds) else C.meth nm (.obj c' fs) ds
  |d=>C.meth nm d ds }
noncomputable def zbf(C:Cx)(n m:Nat)(own:List Str)(sc:Scope)(names:List Str)(body:List Stmt)(c:Nat)(ds:List D):Option D:=
 if ds.length+1=names.length then exK (evK (n+1)) m ⟨C,own,sc,zL names (.obj c []::ds) (fun z=>none)⟩ body zxz else none
noncomputable def asP:D→Option (Int × Int)
 | .tup [.int i,.int j]=>some (i,j)
 |_=>none
noncomputable def zdJ(x:Int):List Int→List Int
 |[]=>[x]
 |y::ys=>if x≤y then x::y::ys else y::zdJ x ys
noncomputable def vk:List Int→List Int
 |[]=>[]
 |x::xs=>zdJ x (vk xs)
noncomputable def leP(a b:Int × Int):Bool:=decide (a.1<b.1)||(decide (a.1=b.1)&&decide (a.2≤b.2))
noncomputable def zdY(x:Int × Int):List (Int × Int)→List (Int × Int)
 |[]=>[x]
 |y::ys=>if leP x y=true then x::y::ys else y::zdY x ys
noncomputable def wt:List (Int × Int)→List (Int × Int)
 |[]=>[]
 |x::xs=>zdY x (wt xs)
noncomputable def yU:D→Option D
 | .list ds=>if ds.length<64 then match qp asI ds with
   |some is=>some (.list ((vk is).map .int))
   |none=>if ds.length<2 then none else match qp asP ds with
    |some ps=>some (.list ((wt ps).map fun p=>.tup [.int p.1,.int p.2]))
    |none=>none
  else none
 |_=>none
inductive zmm:Expr→Str × Str × Scope × List Expr→Prop
 |mk (i j:Str) (gs:Scope) (args:List Expr) (tp ip jp bp ip' jp':Pos) (n:Nat) (tpp zp ap ep pos:Pos):
  zmm (.Call (.Name "tuple" tp) [.GeneratorExp (.BinOp (.Name i ip) .Add (.Name j jp) bp) [⟨.Tuple [.Name i ip',.Name j jp'] n tpp,.Call (.Name "zip" zp) args [] ap,[],0⟩] gs ep] [] pos) (i,j,gs,args)
noncomputable def znE(e:Expr):Option { q:Str × Str × Scope × List Expr // zmm e q }:=
 match e with
 | .Call (.Name t tp) [.GeneratorExp (.BinOp (.Name i ip) .Add (.Name j jp) bp) [⟨.Tuple [.Name i' ip',.Name j' jp'] n tpp,.Call (.Name z zp) args [] ap,[],0⟩] gs ep] [] pos=>
  if h:t="tuple"∧z="zip"∧i'=i∧j'=j then some ⟨(i,j,gs,args),by rw [h.1,h.2.1,h.2.2.1,h.2.2.2];exact .mk ..⟩ else none
 |_=>none
noncomputable def zhN(i j:Str)(gs:Scope):Bool:=(gs.kind== .function)&& !gs.isCoroutine&&gs.names.all (fun q=>q.2== .local)&&gs.names.lookup (".0":Str)==some .local&&gs.names.lookup i==some .local&&gs.names.lookup j==some .local&&
 !(i==("__debug__":Str))&& !(j==("__debug__":Str))&& !(i==j)
noncomputable def zgB(a b:D):Option D:=(zv7 a).bind fun xs=>(zv7 b).bind fun ys=>(qp asI xs).bind fun is=>(qp asI ys).bind fun js=>
 if is.length≤64∧js.length≤64 then some (.tup ((zipWith (· + ·) is js).map .int)) else none
noncomputable def zfi(l:List D):Option D:=match l with
 |[]=>none
 |a::l=>match l with
  |[]=>none
  |b::l=>match l with
   |[]=>zgB a b
   |z::y=>none
noncomputable def Cx0:Cx:=⟨0,fun z=>none,fun z z=>none,fun z z z=>none,fun z z=>false,fun z z=>none,fun z z z z=>none⟩
noncomputable def zf0(own:List Str)(sc:Scope)(e:Expr)(σ:Sg):Option D:=(znE e).bind fun q=>
 if own.contains zp8=true∧zhN q.1.1 q.1.2.1 q.1.2.2.1=true∧zG sc "tuple"=true∧zG sc "zip"=true∧zl q.1.2.2.2=true∧q.1.2.2.2.any (qY own)=false then
  (zjS (evK 4) ⟨Cx0,own,sc,σ⟩ q.1.2.2.2 some).bind zfi
 else none
noncomputable def znJ(f:Str)(d:D):Option D:=if f="len" then gx d else if f="tuple" then xC d else none
noncomputable def zmn(sc:Scope)(σ:Sg)(f:Str)(l:List Str):Option D:=match l with
 |[]=>none
 |x::l=>match l with
  |[]=>if zG sc f=true∧jq sc x=true then (σ x).bind fun d=>znJ f d else none
  |z::y=>none
noncomputable def zf1(sc:Scope)(e:Expr)(σ:Sg):Option D:=(zgG e).bind fun q=>(qp nmE q.1.2).bind fun l=>zmn sc σ q.1.1 l
noncomputable def znY:Value→Option D
 | .int i z=>some (.int i)
 |_=>none
noncomputable def znK:Value→Option Str
 | .str x z=>some x
 |_=>none
noncomputable def zhR(e:DictEntry):Option (Str × D):=(znK e.key).bind fun x=>(znY e.val).map fun d=>(x,d)
noncomputable def zf2(c:Nat)(f:Str):Bool:=(c==45&&f=="comp_select_list")||(c==139&&(f=="raw"||f=="n"||f=="nt"||f=="norm"||f=="is_simple"))
noncomputable def zbh(c name:Str):Option D:=if c="Whitespace" then (if name="S" then some (.str " ") else if name="T" then some (.str "\t") else none) else none
noncomputable def zbm(own:List Str)(sc:Scope)(e:Expr)(σ:Sg):Option D:=match zfo sc e σ with
 |some d=>some d
 |none=>match zf1 sc e σ with
  |some d=>some d
  |none=>zf0 own sc e σ
end
section
section
variable {K:Frag}
structure zxx(C:Cx)(own:List Str)(fa:Addr)(fd:FuncData)(names:List Str)(body:List Stmt):Prop where
 FA:xb fa fd (qb::names) body
 lim:h₀.NoLimit
 CO:jH C
 G:kB
 SO:zyj C
 hown:∀ x∈names,own.contains x=false
 hself:own.contains qb=true
 cod:own.contains zp8=true→fd.code= .ref cc
 loc:fd.scope.names.lookup qb=some .local
theorem zxw(h:zxz σ fl=some r)(k:∀ c fs,fl= .next→σ qb=some (.obj c fs)→r= .obj c fs→M):M:=by
 cases fl with
 |next=>
  have h:(match σ "self" with|some (.obj c fs)=>some (D.obj c fs)|_=>none)=some r:=h;cases e:σ "self" with
  |none=>rw [e] at h;exact zq h
  |some d=>
   rw [e] at h;cases d with
   |obj c fs=>exact k c fs rfl e (sj h).symm
   |_=>exact zq h
 |_=>exact zq h
theorem zbn{c:Nat}(R:Rep h X true v (.obj c fs))(hr:∀ b∈zw h v,b=n+1∨b=n):v= .ref (n+1):=
 Rep.objE (M:=fun v=>(∀ b∈zw h v,b=n+1∨b=n)→v= .ref (n+1)) R (fun a dx kvs z r2 g z z z hr=>by
  have hro:zw h (.ref a)=[a,dx]:=by simp only [zw];rw [g];rfl
  rw [hro] at hr;refine (hr a (.head _)).elim (fun e=>congrArg Value.ref e) fun e=>absurd r2.lt (not_lt.mpr ?_);exact (hr dx (.tail _ (.head _))).elim (fun q=>(e:@Eq Nat _ _)▸(q:@Eq Nat _ _)▸le_succ n) fun q=>le_of_eq ((e:@Eq Nat _ _).trans (q:@Eq Nat _ _).symm)) hr
theorem zxv{C:Cx}{R:Result→Shared→Prop}(p:zxx C own fa fd names body)(hf:zbf C n m own fd.scope (qb::names) body c ds=some r)(hA:kQ A (C.lvl+1))(K:Ok X s)(rl:zu s.heap X vs ds)
  (hs1:s₁={ s with heap:=(s.heap.push emptyDict).push (instObj c s.heap.objs.size) })(hR:∀ s',Grow s s'→Rep s'.heap X false (.ref (s.heap.objs.size+1)) r→R (.ok (.ret (.ref (s.heap.objs.size+1)))) s'):
  codeAny (model prog w) A (.call (.ref fa) ⟨.ref (s.heap.objs.size+1)::vs,[]⟩) (InitBack (s.heap.objs.size+1) R) s₁:=iE hf fun hlen hf=>(zxq m hf).elim fun σ' fl h1 h=>zxw h fun c' fs hfl hσ er=>by
 have hsz1:s₁.heap.objs.size=s.heap.objs.size+2:=by rw [hs1];exact (size_push ..).trans (congrArg Nat.succ (size_push ..))
 have g1:Grow s s₁:=by rw [hs1];exact (Grow.push s emptyDict s.toks).trans (Grow.push _ (instObj c s.heap.objs.size) s.toks)
 have hobj:s₁.heap.get? (s.heap.objs.size+1)=some (instObj c s.heap.objs.size):=by rw [hs1];heap_get
 have hdic:s₁.heap.DictOf (PySem.strKind prog w) s.heap.objs.size []:=by
  rw [hs1];exact (DictOf.new (knd:=PySem.strKind prog w) s.heap).at fun o e=>get?_push_of_some _ e
 have hroots:zw s₁.heap (.ref (s.heap.objs.size+1))=[s.heap.objs.size+1,s.heap.objs.size]:=by simp only [zw];rw [hobj];rfl
 have hE:∀ {M:Addr→Prop},M (s.heap.objs.size+1)→M s.heap.objs.size→∀ a∈[s.heap.objs.size+1,s.heap.objs.size],M a:=fun h1 h2=>zB h1 (zB h2 fun z m=>nomatch m)
 have hse:Rep s₁.heap ([s.heap.objs.size+1,s.heap.objs.size]++X) true (.ref (s.heap.objs.size+1)) (.obj c []):=
  .obj (kvs:=[]) ⟨(K.x.root (le_succ _) true).ne,fun q=>Bool.noConfusion q⟩ ⟨⟨(K.x.root (le_refl _) true).ne,fun q=>Bool.noConfusion q⟩,lt_succ_self _⟩ hobj hdic rfl .nil
 refine zuu.go (T:=⟨C,own,fd.scope,zL (qb::names) (.obj c []::ds) (fun z=>none)⟩) (E:=[s.heap.objs.size+1,s.heap.objs.size]) ⟨p.FA,p.lim,rfl,rfl,p.CO,p.G,p.SO,hA,p.cod,K,g1,hE (le_succ _) (le_refl _),hE (by rw [hsz1];exact lt_succ_self _) (by rw [hsz1];exact lt_succ_of_lt (lt_succ_self _)),fun z=>by rw [hsz1];rfl,
  ⟨_,vs,_,ds,rfl,rfl,.inr ⟨p.hself,rfl,hse,hroots▸fun z m=>m⟩,zvh.of (Nat.succ.inj hlen) rl fun x m v d r=>.inl ⟨p.hown x m,r⟩⟩⟩ fun env S F eL g hW=>h1 _ S F _ _ fun S' f w=>?_
 have fr:=w.fr;rw [hfl] at fr;have fr:f= .next:=fr
 rw [fr];refine ⟨rfl,hR S'.s (((g.toW S.W).trans w.g).toGrow hW) ?_⟩;refine X12 w.F.r.loc fun mm hmn hmm=>X13 (hmm qb _ p.loc hσ) fun vv z hv2 hv3=>?_;have hv2:=rwL (P:=fun b=>Rep S'.s.heap S'.X b vv (.obj c' fs)) p.hself hv2
 have hr:∀ b∈zw S'.s.heap vv,b=s.heap.objs.size+1∨b=s.heap.objs.size:=fun b mb=>by
  have q:=Decidable.not_not.mp (hv3 p.hself b mb);rw [w.F.pin p.hself,eL,hsz1] at q;exact (mem_cons.mp q).imp id fun q=>mem_singleton.mp q
 rw [←zbn hv2 hr,er];exact Rep.unown hv2 (fun b mb q=>(hr b mb).elim (fun e=>absurd (K.x.lt b q) (not_lt.mpr (e▸le_succ _))) fun e=>absurd (K.x.lt b q) (not_lt.mpr (le_of_eq e.symm))) w.F.X0.1
end
end
section
section
variable {K:Frag}
theorem zqH:∀ {fs:List (Str × D)} {name:Str},kvs.map (fun z=>z.1)=fs.map (fun z=>z.1)→fs.lookup name=none→valueAt kvs name=none:=by
 intro fs name e h
 have h1:name∉fs.map (fun z=>z.1):=by
  rw [List.lookup_eq_none_iff] at h;intro hm;refine X12 (mem_map.mp hm) fun q hq e=>?_;have:=h q hq;simp [e] at this
 rw [←e] at h1;unfold valueAt;rw [find?_eq_none.mpr]
 ·rfl
 ·intro q hq he;exact h1 (mem_map.mpr ⟨q,hq,by simpa using he⟩)
structure pO(K:Frag)(c:Addr)(name:Str)(f:Addr):Prop extends ClsAt K c where
 fn:findIn K (.ref c) name=some (some (.ref f))
 ty:typeIn K (.ref f)=some (.type "function")
theorem zxu{trees:List (Bool × Sem Value)}(hp:trees.any (fun z=>z.1)=false)(hn:n<29):methodCallForm n trees []=true:=by
 unfold methodCallForm;have h1:(trees.all fun q=> !q.1)=true:=all_eq_true.mpr fun q hq=>(not_eq_true' _).mpr (eq_false_of_ne_true fun h=>List.any_eq_false.mp hp q hq h);rw [h1];exact decide_eq_true (p:=n<30) (lt_succ_of_lt hn)
theorem qX.addMeth{C:Cx}{c:Nat}(KX:K.In h₀)(hp₀:K.lookup P₀=none)(M:pO K c f fa)(p:qX C own fa fd names body):jH (C.addMeth c f (fnD C n m own fd.scope names body)) where
 glob:=p.CO.glob
 call:=fun h=>X12 (p.CO.call h) fun fv h1 h2=>⟨fv,h1,fun hA=>h2 hA.pred⟩
 meth:=fun {name c' fs ds r} h {A s X ov o apos pos env n} {trees} hA Kk R hp hn hl T=>i2 h (fun hc h Q E hQ=>X12 p.FA.obj fun fo ho hd=>by
   have R0:=R;rw [hc.1,hc.2.1];refine Rep.objE (M:=fun ov=>Rep s.heap X false ov (.obj c' fs)→wpAny (model prog w) A (methodCall o f apos pos env ov n trees []) Q E s) R (fun a dx kvs q1 q2 q3 q4 q5 q6 R=>X12 (wn q4 f) fun od hod hlkk=>?_) R;have KI:=Kk.frag KX hp₀;unfold methodCall calleeOf methodCallPos;rw [zxu hp hn,hl];refine wpAny_bind (wpAny_holding (method_fn KI (zqF (hc.1▸q3) hod) M.ga M.gm M.fn M.ty ?_ (wpAny_bind (wpAny_pure (callWith_function_kw (o:=fo) (fd:=fd) (zQ hp (T _ _ fun vs s₁ g rl=>⟨⟨(Kk.grow g).old _ _ p.FA.ne ho,hd⟩,wm p h hA (Kk.grow g) (.cons (Rep.grow g R) rl) _ _ fun v s₂ g2 r2=>hQ _ _ (g.trans g2) r2⟩)))))))
   show (lookIn f od).map (·.isSome)=_
   rw [hlkk,zqH q5 (hc.2.1▸hc.2.2)];rfl)
  fun z h=>p.CO.meth h hA.pred Kk R hp hn hl T
 fld:=p.CO.fld
 attr:=p.CO.attr
 spec:=fun {own sc e σ d} h {V env X s A} R K hA=>p.CO.spec h R K hA.pred
end
end
section
section
variable {K:Frag}
theorem kQ.type_call{a:Args}(h:kQ A (k+1)):kQ (A.under (.builtin "type.__call__" a)) k:=by
 have h1:=h.depth;have h2:=h.units
 have f0:(Code.builtin "type.__call__" a).frames=0:=by
  unfold Code.frames
  first|rfl|simp [Code.isFrame]
 have w0:(Code.builtin "type.__call__" a).weight≤1:=by
  unfold Code.weight;rw [f0]
  have:(Code.builtin "type.__call__" a).isGuard=false:=by
   show guardIds.contains "type.__call__"=false
   decide+kernel
  have:(Code.builtin "type.__call__" a).isCaller=false:=by unfold Code.isCaller;rfl
  simp [*]
  split<;>lia
 have u0:(Code.builtin "type.__call__" a).cUnits≤10:=by
  show 1+3 *(Code.builtin "type.__call__" a).frames≤10
  rw [f0];decide
 refine ⟨h.hand,?_,?_⟩
 ·show A.depth+_+_<_
  lia
 ·show A.units+_+_<_
  lia
theorem zxx.addCls{C:Cx}(KX:K.In h₀)(hp₀:K.lookup P₀=none)(hk:keepIn K (.ref c)=true)(hmk:makesIn K c=true)(hi:findIn K (.ref c) "__init__"=some (some (.ref fa)))(hty:typeIn K (.ref fa)=some (.type "function"))(p:zxx C own fa fd names body)(hg:jV f=some (.ref c)):
  jH (C.addFn f (zbf C n m own fd.scope (qb::names) body c) (C.lvl+2)) where
 glob:=p.CO.glob
 call:=fun {x ds r} h=>i2 h (fun hx h=>⟨_,hx▸hg,fun {A s X pos trees} hA Kk hp T Q E hQ=>by
   refine callWith_of (P:=fun h=>K.In h) (by rw [hp];rfl) (fun h X=>keeps_K hk h X) (zQ hp (T _ _ fun vs s₁ g rl=>⟨(Kk.grow g).frag KX hp₀,?_⟩));have K1:=Kk.grow g;have KI:=K1.frag KX hp₀;obtain ⟨hh,gg,dd,tt,oo⟩:=s₁;exact wpAny_call (make_core (makes_of KI hmk) (looks_findIn KI hi) (fun self=>bind_fn KI self hty) (.inl rfl) (zxv p h hA.type_call K1 rl rfl fun s' g' r'=>hQ _ _ (g.trans g') r'))⟩)
  fun z h=>X12 (p.CO.call h) fun fv h1 h2=>⟨fv,h1,fun hA=>h2 hA.pred.pred⟩
 meth:=fun {name c fs ds r} h {A s X ov o apos pos env n trees} hA=>p.CO.meth h hA.pred.pred
 fld:=p.CO.fld
 attr:=p.CO.attr
 spec:=fun {own sc e σ d} h {V env X s A} R K hA=>p.CO.spec h R K hA.pred.pred
end
end
section
structure Pre(α:Type) where
 lt:α→α→Bool
 refl:∀ a,lt a a=false
 trans:∀ a b c,lt b a=false→lt c b=false→lt c a=false
 asym:∀ a b,lt a b=true→lt b a=false
section
variable (O:Pre α) (f:Nat→α)
noncomputable def gk(p:Array Nat)(i:Nat):α:=f (p.getD i 0)
def Up(p:Array Nat)(k:Nat):Prop:=∀ i j,i≤j→j<k→O.lt (gk f p j) (gk f p i)=false
def Dn(p:Array Nat)(k:Nat):Prop:=∀ i j,i≤j→j<k→O.lt (gk f p i) (gk f p j)=false
variable {O f}
theorem zxg{p q:Array Nat}{i j:Nat}(h:p[i]? =q[j]?):gk f p i=gk f q j:=by
 unfold gk;simp only [Array.getD_eq_getD_getElem?,h]
theorem pA{p:Array Nat}{src d:Nat}(hs:src<p.size)(hd:d≤src)(k:Nat):
  gk f (bubble p src d) k=if k=src - d then gk f p src else if src - d<k∧k≤src then gk f p (k - 1) else gk f p k:=by
 have e:=getElem?_bubble hs d hd k;by_cases h1:k=src - d
 ·rw [if_pos h1] at e ⊢; exact zxg e
 ·rw [if_neg h1] at e ⊢;by_cases h2:src - d<k∧k≤src
  ·rw [if_pos h2] at e ⊢; exact zxg e
  ·rw [if_neg h2] at e ⊢; exact zxg e
theorem y8{p:Array Nat}{i j:Nat}(hj:j≤p.size)(k:Nat):gk f (kas_rev p i j) k=if i≤k∧k<j then gk f p (i+j - 1 - k) else gk f p k:=by
 have e:=getElem?_mirror_all (xs:=p) (i:=i) hj k;by_cases h1:i≤k∧k<j
 ·rw [if_pos h1] at e ⊢; exact zxg e
 ·rw [if_neg h1] at e ⊢; exact zxg e
theorem kw{p:Array Nat}{i j:Nat}:(kas_rev p i j).Perm p:=mirror_perm _ _ _ _
theorem Up.snoc{p:Array Nat}(h:Up O f p n)(h1:1≤n)(e:O.lt (gk f p n) (gk f p (n - 1))=false):Up O f p (n+1):=fun i j hij hj=>by
 by_cases hj':j<n
 ·exact h i j hij hj'
 ·have:j=n:=by lia
  subst this;by_cases hi:i=j
  ·subst hi;exact O.refl _
  ·exact O.trans _ _ _ (h i (j - 1) (by lia) (by omega)) e
theorem Dn.snoc{p:Array Nat}(h:Dn O f p n)(h1:1≤n)(e:O.lt (gk f p (n - 1)) (gk f p n)=false):Dn O f p (n+1):=fun i j hij hj=>by
 by_cases hj':j<n
 ·exact h i j hij hj'
 ·have:j=n:=by lia
  subst this;by_cases hi:i=j
  ·subst hi;exact O.refl _
  ·exact O.trans _ _ _ e (h i (j - 1) (by lia) (by omega))
theorem Up.one{p:Array Nat}:Up O f p 1:=fun i j hij hj=>by
 have:i=j:=by lia
 subst this;exact O.refl _
theorem Dn.one{p:Array Nat}:Dn O f p 1:=fun i j hij hj=>by
 have:i=j:=by lia
 subst this;exact O.refl _
theorem Dn.rev{p:Array Nat}(hn:n≤p.size)(h:Dn O f p n):Up O f (kas_rev p 0 n) n:=fun i j hij hj=>by
 rw [y8 hn,y8 hn,if_pos (by lia),if_pos (by lia)];exact h _ _ (by omega) (by omega)
def Eqs(O:Pre α)(f:Nat→α)(p:Array Nat)(n q:Nat):Prop:=q+1≤n∧∀ k,n - (q+1)≤k→k<n→O.lt (gk f p k) (gk f p (n - 1))=false∧O.lt (gk f p (n - 1)) (gk f p k)=false
theorem Eqs.zero{p:Array Nat}(h:1≤n):Eqs O f p n 0:=⟨h,fun k h1 h2=>by
 have:k=n - 1:=by lia
 subst this;exact ⟨O.refl _,O.refl _⟩⟩
theorem Eqs.any{p:Array Nat}(h:Eqs O f p n q){i j:Nat}(hi:n - (q+1)≤i)(hi':i<n)(hj:n - (q+1)≤j)(hj':j<n):O.lt (gk f p i) (gk f p j)=false:=
 O.trans _ _ _ (h.2 j hj hj').2 (h.2 i hi hi').1
theorem Dn.turn{p:Array Nat}(hn:n≤p.size)(h:Dn O f p n)(E:Eqs O f p n q):Dn O f (kas_rev p (n - (q+1)) n) n:=fun i j hij hj=>by
 have hq:=E.1;rw [y8 hn,y8 hn];by_cases h1:n - (q+1)≤i
 ·rw [if_pos ⟨h1,by exact lt_of_le_of_lt ‹_› ‹_›⟩,if_pos ⟨by exact le_trans ‹_› ‹_›,hj⟩];exact E.any (by omega) (by omega) (by omega) (by omega)
 ·rw [if_neg (by lia)];by_cases h2:n - (q+1)≤j
  ·rw [if_pos ⟨h2,hj⟩];exact h _ _ (by omega) (by omega)
  ·rw [if_neg (by lia)];exact h _ _ hij hj
variable {cmp:Nat→Nat→(Bool→Shared→Prop)→Shared→Prop} {N:Nat}
def jR(O:Pre α)(f:Nat→α)(cmp:Nat→Nat→(Bool→Shared→Prop)→Shared→Prop)(s:Shared)(N:Nat):Prop:=
 ∀ i j C,i<N→j<N→C (O.lt (f i) (f j)) s→cmp i j C s
theorem jb{p:Array Nat}(hp:p.Perm (List.range N).toArray){i:Nat}(hi:i<N):p.getD i 0<N:=by
 have hs:p.size=N:=by rw [hp.size_eq];simp
 have:p.getD i 0=p[i]'(by lia):=by simp [Array.getD,hs,hi]
 rw [this]
 have hm:p[i]'(by lia)∈(List.range N):=by
  have:=(Array.perm_iff_toList_perm.mp hp).mem_iff (a:=p[i]'(by lia))
  simpa using this.mp (by simp)
 exact mem_range.mp hm
theorem zxp(hA:jR O f cmp s N){p:Array Nat}(hp:p.Perm (List.range N).toArray){Q:Nat→Shared→Prop}(hQ:∀ m,Up O f p m→m≤N→1≤m→(m=N∨O.lt (gk f p m) (gk f p (m - 1))=true)→Q m s):∀ (k n:Nat),1≤n→n+k=N→Up O f p n→(kas_asc p k n).kasWp cmp Q s
 |0,n,h1,hn,U=>hQ n U (by exact le_of_eq ‹_›) h1 (.inl hn)
 |k+1,n,h1,hn,U=>by
  refine hA _ _ _ (jb hp (by lia)) (jb hp (by lia)) ?_;cases e:O.lt (f (p.getD n 0)) (f (p.getD (n - 1) 0)) with
  |true=>exact hQ n U (by lia) h1 (.inr e)
  |false=>exact zxp hA hp hQ k (n+1) (by exact succ_pos _) (by lia) (U.snoc h1 e)
theorem gW(hA:jR O f cmp s N){Q:Array Nat × Nat × Nat→Shared→Prop}(hQ:∀ p m q,p.Perm (List.range N).toArray→Dn O f p m→Eqs O f p m q→m≤N→Q (p,m,q) s):
  ∀ (k:Nat) (p:Array Nat) (n q:Nat),p.Perm (List.range N).toArray→1≤n→n+k≤N→Dn O f p n→Eqs O f p n q→(kas_desc k p n q).kasWp cmp Q s
 |0,p,n,q,hp,h1,hn,U,E=>hQ p n q hp U E (by omega)
 |k+1,p,n,q,hp,h1,hn,U,E=>by
  have hs:p.size=N:=by rw [hp.size_eq];simp
  refine hA _ _ _ (jb hp (by lia)) (jb hp (by lia)) ?_;cases e:O.lt (f (p.getD n 0)) (f (p.getD (n - 1) 0)) with
  |true=>
   dsimp only;rw [if_pos rfl]
   split
   ·refine gW hA hQ k _ (n+1) 0 (kw.trans hp) (by exact succ_pos _) (by lia) ((U.turn (by lia) E).snoc h1 ?_) (Eqs.zero (by exact succ_pos _));have hq:=E.1;rw [y8 (by lia),y8 (by lia),if_pos (by omega),if_neg (by simp)];have e':O.lt (gk f p (n - 1)) (gk f p n)=false:=O.asym _ _ e;have hb:=E.any (i:=n - (q+1)+n - 1 - (n - 1)) (j:=n - 1) (by omega) (by omega) (by omega) (by omega);exact O.trans _ _ _ e' hb
   ·exact gW hA hQ k _ (n+1) 0 hp (by exact succ_pos _) (by lia) (U.snoc h1 (O.asym _ _ e)) (Eqs.zero (by exact succ_pos _))
  |false=>
   dsimp only;rw [if_neg (by decide)];refine hA _ _ _ (jb hp (by lia)) (jb hp (by lia)) ?_;cases e2:O.lt (f (p.getD (n - 1) 0)) (f (p.getD n 0)) with
   |true=>exact hQ p n q hp U E (by lia)
   |false=>
    dsimp only;rw [if_neg (by decide)];refine gW hA hQ k p (n+1) (q+1) hp (by exact succ_pos _) (by lia) (U.snoc h1 e2) ⟨by have:=E.1;exact Nat.lt_succ_of_le ‹_›,fun j hj1 hj2=>?_⟩;by_cases hj:j=n
    ·subst hj;exact ⟨O.refl _,O.refl _⟩
    ·have:=E.2 j (by lia) (by lia);exact ⟨O.trans _ _ _ e2 this.1,O.trans _ _ _ this.2 e⟩
theorem zzF(hA:jR O f cmp s N){p:Array Nat}(hp:p.Perm (List.range N).toArray)(h1:1≤n)(hn:n≤N)(U:Dn O f p n){Q:Nat × Array Nat→Shared→Prop}
  (hQ:∀ m q,q.Perm (List.range N).toArray→Up O f q m→m≤N→1≤m→Q (m,q) s):(kas_tail3 n N p).kasWp cmp Q s:=by
 have hs:p.size=N:=by rw [hp.size_eq];simp
 unfold kas_tail3;rw [KasT.kasWp_bind];exact zxp hA (kw.trans hp) (fun m hm hmN hm1 z=>hQ m _ (kw.trans hp) hm hmN hm1) _ _ h1 (by lia) (U.rev (by lia))
theorem wl(hA:jR O f cmp s N){p:Array Nat}(hp:p.Perm (List.range N).toArray)(h1:1≤n)(hn:n+1≤N)(U:Dn O f p (n+1)){Q:Nat × Array Nat→Shared→Prop}
  (hQ:∀ m q,q.Perm (List.range N).toArray→Up O f q m→m≤N→1≤m→Q (m,q) s):(kas_descPart n N p).kasWp cmp Q s:=by
 unfold kas_descPart;rw [KasT.kasWp_bind];refine gW hA (fun p' m q hp' hD hE hm=>?_) _ _ _ _ hp (by exact succ_pos _) (by omega) U (Eqs.zero (by exact succ_pos _));have hs:p'.size=N:=by rw [hp'.size_eq];simp
 have hq:=hE.1;dsimp only
 split
 ·exact zzF hA (kw.trans hp') (by lia) (by omega) (hD.turn (by lia) hE) hQ
 ·exact zzF hA hp' (by lia) hm hD hQ
theorem zum(hA:jR O f cmp s N){p:Array Nat}(hp:p.Perm (List.range N).toArray)(h1:1≤N){Q:Nat × Array Nat→Shared→Prop}
  (hQ:∀ m q,q.Perm (List.range N).toArray→Up O f q m→m≤N→1≤m→Q (m,q) s):(kas_count N p).kasWp cmp Q s:=by
 have hs:p.size=N:=by rw [hp.size_eq];simp
 unfold kas_count;rw [KasT.kasWp_bind];refine zxp hA hp (fun m hm hmN hm1 hor=>?_) _ _ (le_refl _) (by lia) Up.one;by_cases hmn:m=N
 ·subst hmn;rw [if_pos (by simp)];exact hQ m p hp hm hmN hm1
 ·have hlt:=hor.resolve_left hmn;rw [if_neg (by simpa using hmn)]
  split
  ·refine hA _ _ _ (jb hp (by assumption)) (jb hp (by lia)) ?_;cases e:O.lt (f (p.getD 0 0)) (f (p.getD (m - 1) 0)) with
   |true=>
    dsimp only;rw [if_pos rfl];exact hQ m p hp hm hmN hm1
   |false=>
    dsimp only;rw [if_neg (by decide)]
    have hall:∀ i j,i<m→j<m→O.lt (gk f p i) (gk f p j)=false:=fun i j hi hj=>
     O.trans _ _ _ (O.trans _ _ _ (hm j (m - 1) (by lia) (by lia)) e) (hm 0 i (by exact zero_le _) (by omega)) |> fun z=>by
      have a1:O.lt (gk f p (m - 1)) (gk f p j)=false:=hm j (m - 1) (by lia) (by lia);have a2:O.lt (gk f p 0) (gk f p (m - 1))=false:=e;have a3:O.lt (gk f p i) (gk f p 0)=false:=hm 0 i (by exact zero_le _) (by omega);exact O.trans _ _ _ (O.trans _ _ _ a1 a2) a3
    refine wl hA (kw.trans hp) hm1 (by lia) (Dn.snoc (fun i j hij hj=>?_) hm1 ?_) hQ
    ·rw [y8 (by lia),y8 (by lia),if_pos (by lia),if_pos (by lia)];exact hall _ _ (by omega) (by omega)
    ·rw [y8 (by lia),y8 (by lia),if_pos (by lia),if_neg (by simp)];exact O.trans _ _ _ (O.asym _ _ hlt) (hall _ _ (by lia) (by lia))
  ·have:m=1:=by lia
   subst this;exact wl hA hp (le_refl _) (by lia) (Dn.one.snoc (le_refl _) (O.asym _ _ hlt)) hQ
theorem gV(hA:jR O f cmp s N){p:Array Nat}(hp:p.Perm (List.range N).toArray){k:Nat}(hk:k<N)(U:Up O f p k){Q:Nat→Shared→Prop}
  (hQ:∀ l,l≤k→(∀ i,i<l→O.lt (gk f p k) (gk f p i)=false)→(∀ i,l≤i→i<k→O.lt (gk f p i) (gk f p k)=false)→Q l s):∀ (n l r:Nat),l≤r→r≤k→r - l≤n→
   (∀ i,i<l→O.lt (gk f p k) (gk f p i)=false)→(∀ i,r≤i→i<k→O.lt (gk f p i) (gk f p k)=false)→(kas_place p k n l r).kasWp cmp Q s
 |0,l,r,hl,hr,hn,h1,h2=>by
  have:l=r:=by lia
  subst this;exact hQ l (by omega) h1 h2
 |n+1,l,r,hl,hr,hn,h1,h2=>by
  unfold kas_place
  split
  ·have:l=r:=by lia
   subst this;exact hQ l (by omega) h1 h2
  ·refine hA _ _ _ (jb hp (by omega)) (jb hp (by lia)) ?_;cases e:O.lt (f (p.getD k 0)) (f (p.getD ((l+r) / 2) 0)) with
   |true=>
    dsimp only;rw [if_pos rfl];refine gV hA hp hk U hQ n l _ (by lia) (by lia) (by omega) h1 fun i hi hik=>?_;exact O.trans _ _ _ (O.asym _ _ e) (U _ _ hi hik)
   |false=>
    dsimp only;rw [if_neg (by decide)];refine gV hA hp hk U hQ n _ r (by lia) (by omega) (by omega) (fun i hi=>?_) h2;exact O.trans _ _ _ (U i ((l+r) / 2) (by exact Nat.le_of_lt_succ ‹_›) (by lia)) e
theorem zgD(hA:jR O f cmp s N){Q:Array Nat→Shared→Prop}(hQ:∀ p,p.Perm (List.range N).toArray→Up O f p N→Q p s):∀ (n:Nat) (p:Array Nat) (k:Nat),p.Perm (List.range N).toArray→k+n=N→Up O f p k→(kas_bin n p k).kasWp cmp Q s
 |0,p,k,hp,hk,U=>hQ p hp ((show k=N by omega)▸U)
 |n+1,p,k,hp,hk,U=>by
  have hs:p.size=N:=by rw [hp.size_eq];simp
  unfold kas_bin;rw [KasT.kasWp_bind];refine gV hA hp (by lia) U (fun l hl h1 h2=>?_) _ _ _ (by exact zero_le _) (le_refl _) (by exact sub_le ..) (fun i hi=>by contradiction) fun i hi hik=>by lia
  refine zgD hA hQ n _ (k+1) ((bubble_perm _ _ _).trans hp) (by lia) fun i j hij hj=>?_;rw [pA (by lia) (by exact sub_le ..),pA (by lia) (by exact sub_le ..)];by_cases e1:i=j
  ·subst e1;exact O.refl _
  by_cases e2:i=k - (k - l)
  ·rw [if_pos e2,if_neg (by lia),if_pos (by lia)];exact h2 _ (by lia) (by lia)
  ·rw [if_neg e2];by_cases e3:j=k - (k - l)
   ·rw [if_pos e3,if_neg (by lia)];exact h1 _ (by lia)
   ·rw [if_neg e3]
    split<;>split<;>exact U _ _ (by lia) (by lia)
theorem zbr(hA:jR O f cmp s N)(h1:1≤N){Q:Array Nat→Shared→Prop}(hQ:∀ p,p.Perm (List.range N).toArray→Up O f p N→Q p s):(kas_sort N).kasWp cmp Q s:=by
 unfold kas_sort;rw [KasT.kasWp_bind];refine zum hA (.refl _) h1 fun m q hq hU hm hm1=>?_;dsimp only
 split
 ·refine zgD hA hQ _ _ _ hq (by lia) ?_
  rwa [Nat.max_eq_left hm1]
 ·have:m=N:=by lia
  subst this;exact hQ q hq hU
end
end
section
section
variable {κ:SortKind} {G:Array Nat→Prop}
theorem wo{P:PySem.Fin→Shared→Prop}(ho:s.heap.get? a=some (seqObj "list" vs.toArray n))(h2:2≤vs.length)(h64:vs.length<64)
  (hk:∀ h',(∀ b o,b≠a→s.heap.get? b=some o→h'.get? b=some o)→∀ R:SortKind→Shared→Prop,R κ { s with heap:=h' }→wpAny (model prog w) A (keyKind' vs.toArray) R (fun z z=>False) { s with heap:=h' })
  (ha:∀ h',(∀ b o,b≠a→s.heap.get? b=some o→h'.get? b=some o)→∀ R:Array Nat→Shared→Prop,(∀ p,G p→R p { s with heap:=h' })→(kas_sort vs.length).kasWp (kas_ask prog w A κ vs) R { s with heap:=h' })
  (hG:∀ p,G p→p.size=vs.length)
  (h:∀ p h' c,G p→(∀ b o,b≠a→s.heap.get? b=some o→h'.get? b=some o)→h'.get? a=some (seqObj "list" (p.toList.map fun i=>vs.getD i Value.none).toArray c)→P (.done (.ret .none)) { s with heap:=h' }):
  wpAny (model prog w) A (Builtin.«list.sort» ⟨[.ref a],[]⟩) P E s:=by
 have hal:a<s.heap.objs.size:=lt_size ho;obtain ⟨e1,ho1⟩:∃ e1,(s.heap.update a (Obj.mapSeq fun z=>(#[]:Array Value))).get? a=some (seqObj "list" #[] e1):=⟨_,get?_update_seq ho fun z=> #[]⟩
 generalize hh2:(((s.heap.update a (Obj.mapSeq fun z=>(#[]:Array Value))).push (seqObj "tuple" vs.toArray 0)).push (seqObj "list" #[] 0))=h2' at *
 have keep2:∀ b o,b≠a→s.heap.get? b=some o→h2'.get? b=some o:=fun b o n e=>by
  rw [←hh2];exact get?_push_of_some _ (get?_push_of_some _ (by rw [get?_update_ne _ _ _ _ n];exact e))
 have hoa2:h2'.get? a=some (seqObj "list" #[] e1):=by rw [←hh2];exact get?_push_of_some _ (get?_push_of_some _ ho1)
 rw [list_sort_plain];refine wpAny_bind (listItems_at ho rfl ?_);refine wpAny_bind (listUpdate_at ho rfl ?_ (by rw [size_toArray,sizeLine_eq];lia) (zero_le _));refine wpAny_bind (seqEpoch_at ho1 rfl ?_);refine wpAny_bind (wpAny_newTuple ?_ (by show vs.length≤_;rw [sizeLine_eq];lia));refine wpAny_bind (wpAny_newList ?_ (zero_le _));refine wpAny_holding ?_;rw [hh2];dsimp only;have hn2:¬ vs.toArray.size<2:=by rw [size_toArray];lia
 rw [if_neg hn2,if_neg hn2];refine wpAny_bind (wpAny_mono (hk h2' keep2 (fun k' s'=>k'=κ∧s'={ s with heap:=h2' }) ⟨rfl,rfl⟩) ?_ fun z z x=>x.elim)
 rintro _ _ ⟨rfl,rfl⟩
 refine wpAny_bind (wpAny_mono (kat_run (Q:=fun st' s'=>∃ p:Array Nat,arrOf st'=p.map (kas_item (vs.toArray.zip vs.toArray))∧failedOf st'=none∧G p∧s'={ s with heap:=h2' }) (G:=fun p s'=>G p∧s'={ s with heap:=h2' })
  rfl h2 h64 (fun p' st' s' a1 a2 a3 a4=>⟨p',a2,a3,a4.1,a4.2⟩) (ha h2' keep2 _ fun p gp=>⟨gp,rfl⟩)) ?_ fun z z e=>e)
 rintro ⟨⟨⟩,st'⟩ s' ⟨p,har,hf,gp,rfl⟩
 dsimp only;have hout:=kat_snds rfl har;have hsz:(toArray (p.toList.map fun i=>vs.getD i Value.none)).size=vs.length:=by rw [size_toArray,length_map,Array.length_toList,hG p gp]
 rw [hout];obtain ⟨c2,hc2⟩:∃ c2,(h2'.update a (Obj.mapSeq fun z=>toArray (p.toList.map fun i=>vs.getD i Value.none))).get? a=some (seqObj "list" (toArray (p.toList.map fun i=>vs.getD i Value.none)) c2):=⟨_,get?_update_seq hoa2 fun z=>toArray (p.toList.map fun i=>vs.getD i Value.none)⟩
 refine wpAny_bind (seqEpoch_at hoa2 rfl ?_);refine wpAny_bind (listUpdate_at hoa2 rfl ?_ (zero_le _) (le_trans (le_of_eq hsz) (by rw [sizeLine_eq];lia)));rw [hf];simp only [bne_self_eq_false,false_eq_true,if_false];exact wpAny_pure (h p _ c2 gp (fun b o n e=>by rw [get?_update_ne _ _ _ _ n];exact keep2 b o n e) hc2)
theorem zyb(hl:s.heap.IsList l vs.toArray)(h2:2≤vs.length)(h64:vs.length<64)
  (hk:∀ h',(∀ b o,s.heap.get? b=some o→h'.get? b=some o)→∀ R:SortKind→Shared→Prop,R κ { s with heap:=h' }→wpAny (model prog w) A.in1.in1 (keyKind' vs.toArray) R (fun z z=>False) { s with heap:=h' })
  (ha:∀ h',(∀ b o,s.heap.get? b=some o→h'.get? b=some o)→∀ R:Array Nat→Shared→Prop,(∀ p,G p→R p { s with heap:=h' })→(kas_sort vs.length).kasWp (kas_ask prog w A.in1.in1 κ vs) R { s with heap:=h' })
  (hG:∀ p,G p→p.size=vs.length)
  (h:∀ p h' c D,G p→(∀ b o,s.heap.get? b=some o→h'.get? b=some o)→s.heap.objs.size≤D→h'.get? D=some (seqObj "list" (p.toList.map fun i=>vs.getD i Value.none).toArray c)→Q (.ref D) { s with heap:=h' }):
  wpAny (model prog w) A (call (.builtin "sorted") [.ref l]) Q E s:=by
 refine Calls.call_function_entry kind_sorted plain_sorted entry_sorted (args_sorted1 _) ?_;unfold Builtin.«sorted»;refine wpAny_bind (m:=checkCount "sorted" 1 1 _) (wpAny_pure ?_);refine wpAny_bind (collect_list hl ?_ (by rw [sizeLine_eq];lia));refine wpAny_bind (wpAny_newList ?_ (by rw [sizeLine_eq];lia))
 have hsz:((s.heap.push (seqObj "list" #[] 0)).update s.heap.objs.size (Obj.mapSeq (· ++vs.toArray))).objs.size=s.heap.objs.size+1:=by
  rw [Heap.size_update,size_push']
 have hoL:(((s.heap.push (seqObj "list" #[] 0)).update s.heap.objs.size (Obj.mapSeq (· ++vs.toArray))).push (seqObj "list" vs.toArray 0)).get? (s.heap.objs.size+1)=some (seqObj "list" vs.toArray 0):=by
  rw [←hsz];exact get?_push_size _ rfl
 have keep:∀ b o,s.heap.get? b=some o→(((s.heap.push (seqObj "list" #[] 0)).update s.heap.objs.size (Obj.mapSeq (· ++vs.toArray))).push (seqObj "list" vs.toArray 0)).get? b=some o:=fun b o q=>by
  have hlt:b<s.heap.objs.size:=lt_size q;rw [Heap.get?_push_ne _ _ _ (by rw [hsz];exact ne_of_lt (lt_succ_of_lt hlt)),get?_update_ne _ _ _ _ (ne_of_lt hlt),Heap.get?_push_ne _ _ _ (ne_of_lt hlt)];exact q
 have hne:∀ b o,s.heap.get? b=some o→b≠s.heap.objs.size+1:=fun b o q=>ne_of_lt (lt_succ_of_lt (lt_size q))
 show wpAny _ _ _ _ _ { s with heap:=((s.heap.push (seqObj "list" #[] 0)).update s.heap.objs.size (Obj.mapSeq (· ++vs.toArray))).push (seqObj "list" vs.toArray 0) }
 rw [hsz];refine wpAny_bind (wpAny_holding (wpAny_call_entry slot_list_sort ⟨_,hoL,rfl⟩ entry_list_sort ?body (args_list_sort _)))
 case body=>
  refine wo (κ:=κ) (G:=G) (s:={ s with heap:=((s.heap.push (seqObj "list" #[] 0)).update s.heap.objs.size (Obj.mapSeq (· ++vs.toArray))).push (seqObj "list" vs.toArray 0) }) hoL h2 h64
   (fun h' k=>hk h' fun b o q=>k b o (hne b o q) (keep b o q)) (fun h' k=>ha h' fun b o q=>k b o (hne b o q) (keep b o q)) hG fun p h' c gp k hc=>?_
  exact ⟨_,rfl,wpAny_pure ⟨_,rfl,h p h' c _ gp (fun b o q=>k b o (hne b o q) (keep b o q)) (le_succ _) hc⟩⟩
end
end
section
theorem wa(x:Int):∀ l:List Int,(zdJ x l).Perm (x::l)
 |[]=>.refl _
 |y::ys=>by
  show (if x≤y then x::y::ys else y::zdJ x ys).Perm _
  split
  ·exact .refl _
  ·exact ((wa x ys).cons y).trans (.swap x y ys)
set_option tactic.hygienic true in
theorem we(x:Int):∀ l:List Int,l.Pairwise (· ≤ ·)→(zdJ x l).Pairwise (· ≤ ·)
 |[],_=>List.pairwise_singleton _ _
 |y::ys,h=>by
  show (if x≤y then x::y::ys else y::zdJ x ys).Pairwise (· ≤ ·)
  have h':=pairwise_cons.mp h
  split
  ·rename_i hx
   exact pairwise_cons.mpr ⟨fun z hz=>by
    rcases mem_cons.mp hz with rfl|hz
    ·exact hx
    ·exact Int.le_trans hx (h'.1 z hz),h⟩
  ·rename_i hx;refine pairwise_cons.mpr ⟨fun z hz=>?_,we x ys h'.2⟩;rcases mem_cons.mp ((wa x ys).mem_iff.mp hz) with rfl|hz
   ·lia
   ·exact h'.1 z hz
theorem kM:∀ l:List Int,(vk l).Perm l
 |[]=>.refl _
 |x::xs=>(wa x _).trans ((kM xs).cons x)
theorem jS:∀ l:List Int,(vk l).Pairwise (· ≤ ·)
 |[]=>.nil
 |x::xs=>we x _ (jS xs)
theorem zzH{l l':List Int}(h:l'.Perm l)(s:l'.Pairwise (· ≤ ·)):l'=vk l:=
 List.Perm.eq_of_pairwise (le:=(· ≤ ·)) (fun a b z z h1 h2=>Int.le_antisymm h1 h2) s (jS l) (h.trans (kM l).symm)
noncomputable def ltP(a b:Int × Int):Bool:=decide (a.1<b.1)||(decide (a.1=b.1)&&decide (a.2<b.2))
def leQ(a b:Int × Int):Prop:=a.1<b.1∨(a.1=b.1∧a.2≤b.2)
theorem zxb{a b:Int × Int}:leP a b=true↔leQ a b:=by simp [leP,leQ]
theorem yb{a b:Int × Int}(h:ltP b a=false):leQ a b:=by
 simp [ltP] at h;unfold leQ;lia
theorem kN{a b:Int × Int}(h:leQ a b):ltP b a=false:=by
 unfold leQ at h;cases e:ltP b a with
 |false=>rfl
 |true=>simp [ltP] at e;lia
theorem bq{a b c:Int × Int}(h:leQ a b)(h':leQ b c):leQ a c:=by unfold leQ at *; lia
theorem zzM{a b:Int × Int}(h:leQ a b)(h':leQ b a):a=b:=by
 unfold leQ at *;exact Prod.ext (by lia) (by lia)
noncomputable def zmr:Pre (Int × Int) where
 lt:=ltP
 refl:=fun a=>by simp [ltP]
 trans:=fun a b c h1 h2=>kN (bq (yb h1) (yb h2))
 asym:=fun a b h=>kN (by simp [ltP] at h;unfold leQ;lia)
theorem wi(x:Int × Int):∀ l:List (Int × Int),(zdY x l).Perm (x::l)
 |[]=>.refl _
 |y::ys=>by
  show (if leP x y=true then x::y::ys else y::zdY x ys).Perm _
  split
  ·exact .refl _
  ·exact ((wi x ys).cons y).trans (.swap x y ys)
set_option tactic.hygienic true in
theorem w3(x:Int × Int):∀ l:List (Int × Int),l.Pairwise leQ→(zdY x l).Pairwise leQ
 |[],_=>List.pairwise_singleton _ _
 |y::ys,h=>by
  show (if leP x y=true then x::y::ys else y::zdY x ys).Pairwise leQ
  have h':=pairwise_cons.mp h
  split
  ·rename_i hx;have hx:=zxb.mp hx
   exact pairwise_cons.mpr ⟨fun z hz=>by
    rcases mem_cons.mp hz with rfl|hz
    ·exact hx
    ·exact bq hx (h'.1 z hz),h⟩
  ·rename_i hx;have hx:¬ leQ x y:=fun q=>hx (zxb.mpr q);refine pairwise_cons.mpr ⟨fun z hz=>?_,w3 x ys h'.2⟩;rcases mem_cons.mp ((wi x ys).mem_iff.mp hz) with rfl|hz
   ·unfold leQ at *; lia
   ·exact h'.1 z hz
theorem yd:∀ l:List (Int × Int),(wt l).Perm l
 |[]=>.refl _
 |x::xs=>(wi x _).trans ((yd xs).cons x)
theorem jT:∀ l:List (Int × Int),(wt l).Pairwise leQ
 |[]=>.nil
 |x::xs=>w3 x _ (jT xs)
theorem zun{l l':List (Int × Int)}(h:l'.Perm l)(s:l'.Pairwise leQ):l'=wt l:=
 List.Perm.eq_of_pairwise (le:=leQ) (fun a b z z h1 h2=>zzM h1 h2) s (jT l) (h.trans (yd l).symm)
theorem zqM{α β:Type}{g:α→Option β}:∀ {as:List α} {bs:List β},qp g as=some bs→as.length=bs.length∧∀ (i:Nat) (a:α),as[i]? =some a→∃ b,bs[i]? =some b∧g a=some b
 |[],bs,h=>sj h▸⟨rfl,fun i a e=>zq e⟩
 |a::as,bs,h=>X23 (q7 h) fun b bs' h1 h2 h5=>X02 (zqM h2) fun h3 h4=>h5▸⟨congrArg Nat.succ h3,fun i x e=>match i,e with
  |0,e=>⟨b,rfl,sj e▸h1⟩
  |i+1,e=>h4 i x e⟩
section
theorem zur{p:Int × Int}(h:asP d=some p):d= .tup [.int p.1,.int p.2]:=by
 cases d with
 |tup l=>cases l with
  |nil=>exact zq h
  |cons a l=>cases a with
   |int i=>cases l with
    |nil=>exact zq h
    |cons b l=>cases b with
     |int j=>cases l with
      |nil=>exact sj h▸rfl
      |cons z y=>exact zq h
     |_=>exact zq h
   |_=>exact zq h
 |_=>exact zq h
theorem yf{h:Heap}:∀ {vs:List Value} {ds:List D} {is:List Int},zu h X vs ds→qp asI ds=some is→IntsAre vs is
 |vs,[],is,R,e=>R.nilE (M:=fun vs=>IntsAre vs is) (sj e▸ .nil)
 |vs,d::ds,is,R,e=>X23 (q7 e) fun b bs h1 h2 h3=>R.consE (M:=fun vs=>IntsAre vs is) fun v us r rl=>Rep.intE (M:=fun v=>IntsAre (v::us) is) (zW h1▸r) fun j=>h3▸ .cons _ _ (yf rl h2)
theorem gU{h:Heap}:∀ {vs:List Value} {is:List Int},IntsAre vs is→zu h X vs (is.map .int)
 |_,_,.nil=>.nil
 |_,_,.cons _ _ r=>.cons (.int _ _ _) (gU r)
theorem zxd{p:Int × Int}(R:Rep h X t v (.tup [.int p.1,.int p.2])):∃ a t₁ t₂ n,v= .ref a∧h.get? a=some { cls:=.type "tuple",data:=.seq #[.int p.1 t₁,.int p.2 t₂] n }:=by
 refine R.tupE (M:=fun v=>∃ a t₁ t₂ n,v= .ref a∧h.get? a=some { cls:=.type "tuple",data:=.seq #[.int p.1 t₁,.int p.2 t₂] n }) fun a vs n r g L=>?_;refine L.consE (M:=fun l=>vs.toList=l→_) (fun v us r1 L=>L.consE (M:=fun us=>vs.toList=v::us→_) fun v2 us r2 L=>L.nilE (M:=fun us=>vs.toList=v::v2::us→_) ?_) rfl;refine r1.intE (M:=fun v=>vs.toList=[v,v2]→_) fun j1=>r2.intE (M:=fun v2=>vs.toList=[_,v2]→_) fun j2 e=>?_;exact ⟨a,j1,j2,n,rfl,(congrArg toArray e:vs.toList.toArray=_)▸g⟩
theorem zbs{x y:Addr}{p q:Int × Int}{t₁ t₂ t₃ t₄:Tok}{C:Bool→Shared→Prop}(hx:s.heap.get? x=some { cls:=.type "tuple",data:=.seq #[.int p.1 t₁,.int p.2 t₂] n })(hy:s.heap.get? y=some { cls:=.type "tuple",data:=.seq #[.int q.1 t₃,.int q.2 t₄] m })
  (h:C (ltP p q) s):wpAny (model prog w) A (keyLt' (tuples' true) (.ref x) (.ref y)) C E s:=by
 refine kat_lt hx rfl hy rfl ?_
 show KatLex prog w A true false C [(.int p.1 t₁,.int q.1 t₃),(.int p.2 t₂,.int q.2 t₄)] 0 s
 refine kat_cons (wpAny_eqBool_int ?_);cases e:p.1==q.1 with
 |false=>
  refine kat_no (oneLt_int ?_);have e':p.1≠q.1:=by simpa using e
  simpa [ltP,e'] using h
 |true=>
  have e':p.1=q.1:=by simpa using e
  refine kat_yes (kat_cons (wpAny_eqBool_int ?_));cases e2:p.2==q.2 with
  |false=>
   refine kat_no ?_;have hb:((true:Bool)&&(0+1==0))=false:=rfl;rw [hb];refine kat_one _ _ (lt_int ?_);have e2':p.2≠q.2:=by simpa using e2
   show C _ s
   simpa [ltP,e',e2'] using h
  |true=>
   have e2':p.2=q.2:=by simpa using e2
   refine kat_yes (kat_nil ?_)
   simpa [ltP,e',e2'] using h
theorem vV:∀ {vs:List Value} {ps:List (Int × Int)},zu s.heap X vs (ps.map fun p=>.tup [.int p.1,.int p.2])→∃ fs:List Value,fs.length=vs.length∧KatTups s.heap vs fs∧∀ f∈fs,∃ i u,f= .int i u
 |[],[],_=>⟨[],rfl,.nil,fun f h=>by cases h⟩
 |v::vs,p::ps,.cons r rl=>by
  (refine X42 (zxd r) fun a t₁ t₂ n z4 h=>?_;subst z4)
  refine X13 (vV rl) fun fs h1 h2 h3=>?_;refine ⟨.int p.1 t₁::fs,by simp [h1],.cons h rfl rfl rfl h2,fun f hf=>?_⟩;rcases mem_cons.mp hf with rfl|hf
  ·exact ⟨_,_,rfl⟩
  ·exact h3 f hf
theorem zzN:∀ {ds:List D} {ps:List (Int × Int)},qp asP ds=some ps→ds=ps.map fun p=>.tup [.int p.1,.int p.2]
 |[],ps,e=>sj e▸rfl
 |d::ds,ps,e=>X23 (q7 e) fun b bs h1 h2 h3=>by rw [zur h1,zzN h2,h3];rfl
theorem zu.grow'(R:zu h X vs ds)(k:∀ b o,h.get? b=some o→h'.get? b=some o):zu h' X vs ds:=
 zu.move ⟨fun a o z z e=>k a o e,fun z z n z=>n⟩ R
set_option tactic.hygienic true in
theorem bz(K:Ok X s)(R:Rep s.heap X t v d)(h:yU d=some r):zj A X (call (.builtin "sorted") [v]) s r:=by
 intro Q E hQ;unfold yU at h
 split at h
 ·rename_i ds;cases R with|list ro i L=>
  rename_i a vs;refine X11 (id i) fun n hn=>?_;have hl:s.heap.IsList a vs.toList.toArray:=⟨_,hn,rfl,n,by simp⟩
  have hlen:=L.length
  split at h
  ·rename_i h64
   split at h
   ·rename_i is his;cases h;have hI:=yf L his;refine sorted_ints hl hI (by rw [hlen];exact h64) fun out ns' h1 h2 h3=>?_;refine X11 (sortedAll_at s.heap vs.toList out) fun e he=>?_;have hsz:s.heap.objs.size≤(sortedAll s.heap vs.toList out).objs.size:=le_of_lt (Nat.lt_of_succ_lt (lt_size he));refine hQ _ _ (Grow.of_keep (fun _ _=>sortedAll_old) hsz) (.list (K.x.root (le_succ _) false) ⟨e,he⟩ ?_);rw [←zzH h2 h3];exact gU h1
   ·split at h
    ·cases h
    ·rename_i h2
     split at h
     ·rename_i ps hps;cases h;have hds:=zzN hps;subst hds;have h2':2≤vs.toList.length:=by rw [hlen];exact not_lt.mp ‹_›
      have hn:vs.toList.length=ps.length:=by rw [hlen];simp
      refine zyb (κ:=tuples' true) (G:=fun p=>p.Perm (List.range vs.toList.length).toArray∧Up zmr (fun i=>ps.getD i (0,0)) p vs.toList.length) hl h2' (by rw [hlen];exact h64) (fun h' k R hR=>?_) (fun h' k R hR=>?_) (fun p gp=>by rw [gp.1.size_eq];simp) fun p h' c D gp k hD hc=>?_
      ·refine X13 (vV (s:={ s with heap:=h' }) (L.grow' k)) fun fs f1 f2 f3=>?_;refine kat_kind (T:=.type "int") f2 (by lia) (fun f hf=>?_) (by decide+kernel) ?_
       ·(refine X21 (f3 f hf) fun i u z3=>?_;subst z3)
        exact Looks.of_pure rfl
       ·show R (tuples' true) _
        exact hR
      ·refine zbr (O:=zmr) (f:=fun i=>ps.getD i (0,0)) (fun i j C hi hj hC=>?_) (by exact le_of_lt ‹_›) fun p hp hU=>hR p ⟨hp,hU⟩;have L':=L.grow' k
       have get:∀ i,i<vs.toList.length→∃ a t₁ t₂ n,vs.toList.getD i .none= .ref a∧h'.get? a=some { cls:=.type "tuple",data:=.seq #[.int (ps.getD i (0,0)).1 t₁,.int (ps.getD i (0,0)).2 t₂] n }:=fun i hi=>by
        have hi':i<ps.length:=by lia
        refine X12 (L'.get i (d:=.tup [.int (ps.getD i (0,0)).1,.int (ps.getD i (0,0)).2]) (by simp [hi'])) fun v hv rv=>?_
        (refine X42 (zxd rv) fun a t₁ t₂ n z2 hh=>?_;subst z2)
        exact ⟨a,t₁,t₂,n,by rw [getD_eq_getElem?_getD,hv];rfl,hh⟩
       refine X42 (get i hi) fun a t₁ t₂ n e1 e2=>?_;refine X42 (get j hj) fun b t₃ t₄ m e3 e4=>?_;unfold kas_ask;rw [e1,e3];exact zbs e2 e4 hC
      ·have hsz:s.heap.objs.size≤h'.objs.size:=le_of_lt (lt_of_le_of_lt hD (lt_size hc));refine hQ _ _ (Grow.of_keep k hsz) (.list (K.x.root hD false) ⟨c,hc⟩ ?_);have hpl:p.toList.Perm (List.range vs.toList.length):=by simpa using Array.perm_iff_toList_perm.mp gp.1
       have hout:p.toList.map (fun i=>ps.getD i (0,0))=wt ps:=by
        refine zun ?_ ?_
        ·have:=hpl.map (fun i=>ps.getD i (0,0))
         have e:(List.range vs.toList.length).map (fun i=>ps.getD i (0,0))=ps:=by
          rw [hn];refine List.ext_getElem? fun i=>?_;by_cases hi:i<ps.length
          ·simp [hi]
          ·simp [Nat.le_of_not_lt hi]
         rwa [e] at this
        ·rw [List.pairwise_iff_getElem];intro i j hi hj hij;simp only [length_map] at hi hj;have hsz:p.size=vs.toList.length:=by rw [gp.1.size_eq];simp
         have:=gp.2 i j (by exact le_of_lt ‹_›) (by simpa [hsz] using hj);have q:=yb this;unfold gk at q;simp only [List.getElem_map];have e1:p.getD i 0=p.toList[i]:=by simp at hi;simp [Array.getD,hi]
         have e2:p.getD j 0=p.toList[j]:=by simp at hj;simp [Array.getD,hj]
         rw [e1,e2] at q;exact q
       rw [←hout];have L':=L.grow' k;refine zu.of_get (by simp) fun i v d e1 e2=>?_;simp only [getElem?_map,map_eq_some_iff] at e1 e2
       (refine X12 e1 fun j hj z1=>?_;subst z1;try clear e1)
       obtain ⟨x,⟨j',hj',rfl⟩,rfl⟩:=e2;rw [hj] at hj';cases hj'
       have hjl:j<ps.length:=by
        have:=mem_range.mp (hpl.mem_iff.mp (mem_of_getElem? hj));lia
       refine X12 (L'.get j (d:=.tup [.int (ps.getD j (0,0)).1,.int (ps.getD j (0,0)).2]) (by simp [hjl])) fun v hv rv=>?_;rw [getD_eq_getElem?_getD,hv];exact rv
     ·cases h
  ·cases h
 ·cases h
end
end
section
section
variable {K:Frag}
theorem zus{l:List Str}(h:zmn sc σ f l=some r):∃ x d,l=[x]∧(zG sc f=true∧jq sc x=true)∧σ x=some d∧znJ f d=some r:=match l,h with
 |[],h=>zq h
 |[x],h=>
  X02 (zk h) fun c h=>
  X12 (bind_some h) fun d h1 h2=>
  ⟨x,d,rfl,c,h1,h2⟩
 |_::_::_,h=>zq h
theorem zut(G:kB)(B:zbd)(h:zf1 sc e σ=some r)(R:zC V env sc own σ X s.heap)(K:Ok X s):zj A X (eval e env) s r:=by
 (refine X12 (bind_some h) fun z7 z h=>?_;obtain ⟨q,hq⟩:=z7)
 revert h;refine zup.casesOn (motive:=fun e q z=>(qp nmE q.2).bind (fun l=>zmn sc σ q.1 l)=some r→zj A X (eval e env) s r) hq fun f args fp pos h=>?_;refine X12 (bind_some h) fun l hl h=>?_;obtain ⟨x,d,e,⟨hg,hx⟩,hd,h9⟩:=zus h;rw [e] at hl;refine X22 (qM hl) fun xp l1 e1 h1=>?_
 replace e1:args=_:=e1
 replace hg:zG sc f=true:=hg
 rw [e1,vZ h1];intro Q E hQ
 replace h:(if f=("len":Str) then gx d else if f=("tuple":Str) then xC d else none)=some r:=h9
 refine y7 h (fun e h=>?_) fun h=>?_
 ·subst e;refine Call_Name (trees:=[(false,eval (.Name x xp) env)]) rfl (R.global K G hg B.len ?_);refine callWith_builtin rfl (evalArgs_plain (spliced_cons (R.name hx hd fun v rv=>spliced_nil ?_)));exact pQ rv h _ _ hQ
 ·refine X02 (zk h) fun e h=>?_;subst e;refine Call_Name (trees:=[(false,eval (.Name x xp) env)]) rfl (R.global K G hg B.tuple ?_);refine PyProof.Rows.callWith_type rfl (evalArgs_plain (spliced_cons (R.name hx hd fun v rv=>spliced_nil ?_)));exact xA K.x rv h _ _ hQ
theorem zxf(hs:jV "sorted"=some (.builtin "sorted")){a:D}(h:yU a=some r):∃ fv,jV "sorted"=some fv∧∀ {A s X pos} {trees:List (Bool × Sem Value)},Ok X s→trees.any (fun z=>z.1)=false→zqZ A X s trees [a]→zj A X (callWith pos fv [] trees []) s r:=
 ⟨_,hs,fun K hp T=>yV K hp T fun K rl=>by (refine X12 rl.one fun v z6 rv=>?_;subst z6);exact bz K rv h⟩
theorem zxh{mc:Value}{name:Str}{tk:Tok}(KX:K.In h₀)(hp:K.lookup P₀=none)(hr:readsIn K c mc=true)(e:findCls K (.ref c) mc name=some (.val (.str x tk)))(k:Ok X s):zj A X (getAttr (.ref c) name true) s (.str x):=fun Q E hQ=>
 cls_value (k.frag KX hp) hr e rfl (hQ _ _ (Grow.toks ..) (.str _ _ _))
theorem zul(h:znK v=some x):∃ t,v= .str x t:=by
 cases v with
 |str y t=>exact ⟨t,sj h▸rfl⟩
 |_=>exact zq h
theorem zuc(h:znY v=some d):∃ i u,v= .int i u∧d= .int i:=by
 cases v with
 |int y t=>exact ⟨y,t,rfl,(sj h).symm⟩
 |_=>exact zq h
theorem zxm{e:DictEntry}(h:zhR e=some (x,d)):∃ t i u,e.key= .str x t∧e.val= .int i u∧d= .int i:=by
 refine X12 (bind_some h) fun y h1 h=>?_;refine X12 (map_some h) fun d' h2 h=>?_;refine X11 (zul h1) fun t k=>?_;refine X22 (zuc h2) fun i u k1 k2=>?_;cases h;exact ⟨t,i,u,k,k1,k2⟩
theorem zxn{h:Heap}:∀ {es:List DictEntry} {kvs:List (Str × D)},qp zhR es=some kvs→(∀ e∈es,∀ x t,e.key= .str x t→e.hash=PyData.keyHash w.params x)→
  ∃ vs:List (Str × Value),vs.map (fun z=>z.1)=kvs.map (fun z=>z.1)∧zu h X (vs.map (fun z=>z.2)) (kvs.map (fun z=>z.2))∧Pairs (PySem.strKind prog w) es vs∧∀ e∈es,∃ k,(PySem.strKind prog w).is k e.key=true∧e.hash=(PySem.strKind prog w).hash k
 |[],kvs,e,_=>by cases e;exact ⟨[],rfl,.nil,by constructor,fun e h=>by cases h⟩
 |e::es,kvs,q,hh=>by
  refine X23 (q7 q) fun b bs h1 h2 q=>?_
  ·cases q;obtain ⟨x,d⟩:=b
   (refine X33 (zxm h1) fun t i u k1 k2 z5=>?_;subst z5)
   obtain ⟨vs,a1,a2,a3,a4⟩:=zxn h2 fun e m=>hh e (mem_cons_of_mem _ m)
   have hx:(PySem.strKind prog w).is x e.key=true:=by
    rw [k1]
    show Value.isStrOf x (.str x t)=true
    rw [←isStr_of];simp [Value.isStr]
   refine ⟨(x,e.val)::vs,by simp [a1],by simpa using zu.cons (by rw [k2];exact .int _ _ _) a2,?_,fun e' m=>?_⟩
   ·exact .cons hx rfl a3
   ·rcases mem_cons.mp m with rfl|m
    ·exact ⟨x,hx,hh _ (mem_cons_self ..) x t k1⟩
    ·exact a4 e' m
theorem zuo{o:Obj}{es:Array DictEntry}{ep:Nat}{kvs:List (Str × D)}(KX:K.In h₀)(hl:K.lookup a=some o)(hex:o.ExactDict)(hda:o.data= .dict es ep)(hd:qp zhR es.toList=some kvs)(hn:a≠P₀)(hc:a≠cStatics)(hm:(a==sysModules)=false)
  (hh:∀ e∈es.toList,∀ x t,e.key= .str x t→e.hash=PyData.keyHash w.params x)(hnd:(kvs.map (fun z=>z.1)).Nodup):Rep h₀ [P₀,cStatics] false (.ref a) (.dS kvs):=by
 refine X14 (zxn (X:=[P₀,cStatics]) (h:=h₀) hd hh) fun vs a1 a2 a3 a4=>?_;refine .dS ⟨⟨hn,hc⟩,fun z q=>?_⟩ hm ⟨o,es,ep,KX _ _ hl,hex,hda,?_,a3,by rw [a1];exact hnd⟩ a1 a2
 ·simp at q;exact q.elim hn hc
 ·intro e he;exact a4 e (by simpa using he)
end
end
section
section
theorem qa{it:Addr}{i:Nat}{x:Value}(hit:s.heap.IsTupleIter it l i)(hl:s.heap.IsTuple l items)(hx:items[i]? =some x)
  (hQ:∀ h',h'.IsTupleIter it l (i+1)→SameBut it s.heap h'→Q x { s with heap:=h' }):wpAny (model prog w) A (Builtin.SmallTypes.nextOf (.ref it)) Q E s:=by
 refine X13 (id hit) fun o ho hc hd=>?_;obtain ⟨ol,hol,_,nl,hdl⟩:=hl;unfold Builtin.SmallTypes.nextOf
 refine wpAny_bind (wpAny_callSpecial?_slot (name:=ofString "__next__") hit.typeIs F.slot_tuple_iterator_next
  (wpAny_call_entry F.slot_tuple_iterator_next hit.typeIs F.entry_tuple_iterator_next ?_ (F.args_tuple_iterator_next_1 _)))
 show wpAny _ _ (field (.ref it) 0 >>= _) _ _ s
 refine wpAny_bind (wpAny_field ho hd (x:=.ref l) rfl ?_)
 show wpAny _ _ (if (Value.ref l==Value.none)=true then _ else _) _ _ s
 rw [if_neg (show ¬ ((Value.ref l==Value.none)=true) from Bool.false_ne_true)]
 show wpAny _ _ (field (.ref it) 1 >>= _) _ _ s
 refine wpAny_bind (wpAny_field ho hd (x:=.int i 0) rfl ?_)
 show wpAny _ _ (seqItems? (.ref l) >>= _) _ _ s
 refine wpAny_bind (wpAny_seqItems hol hdl ?_);simp only [toNat_natCast,hx];refine wpAny_bind (wpAny_setField ho hd (by simp) (wpAny_pure ⟨x,rfl,wpAny_pure (hQ _ ?_ (SameBut.update ..))⟩))
 exact ⟨_,get?_update_self _ ho (Obj.isFreed_of_fields (Obj.data_mapFields hd _)),(Obj.cls_mapFields ..).trans hc,by
  rw [Obj.data_mapFields hd];simp [rawInt]⟩
theorem jJ{it:Addr}{i:Nat}(hh:A.handled=none)(hit:s.heap.IsTupleIter it l i)(hl:s.heap.IsTuple l items)(hx:items[i]? =none)
  (hE:∀ h' e,ExtBut it s.heap h'→(∃ o,h'.get? e=some o∧o.cls= .type "StopIteration")→E (.ref e) { s with heap:=h' }):wpAny (model prog w) A (Builtin.SmallTypes.nextOf (.ref it)) Q E s:=by
 refine X13 (id hit) fun o ho hc hd=>?_;obtain ⟨ol,hol,_,nl,hdl⟩:=hl;unfold Builtin.SmallTypes.nextOf
 refine wpAny_bind (wpAny_callSpecial?_slot (name:=ofString "__next__") hit.typeIs F.slot_tuple_iterator_next
  (wpAny_call_entry F.slot_tuple_iterator_next hit.typeIs F.entry_tuple_iterator_next ?_ (F.args_tuple_iterator_next_1 _)))
 show wpAny _ _ (field (.ref it) 0 >>= _) _ _ s
 refine wpAny_bind (wpAny_field ho hd (x:=.ref l) rfl ?_)
 show wpAny _ _ (if (Value.ref l==Value.none)=true then _ else _) _ _ s
 rw [if_neg (show ¬ ((Value.ref l==Value.none)=true) from Bool.false_ne_true)]
 show wpAny _ _ (field (.ref it) 1 >>= _) _ _ s
 refine wpAny_bind (wpAny_field ho hd (x:=.int i 0) rfl ?_)
 show wpAny _ _ (seqItems? (.ref l) >>= _) _ _ s
 refine wpAny_bind (wpAny_seqItems hol hdl ?_);simp only [toNat_natCast,hx];refine wpAny_bind (wpAny_rule (wpAny_bind (wpAny_setField ho hd (by simp) ?_)))
 show wpAny _ _ (newExc (.type "StopIteration") [] >>= _) _ _ _
 refine wpAny_bind ?_;simp only [newExc,newTuple];refine wpAny_bind (wpAny_newObj_type ?_ (by size_fits));refine wpAny_bind (m:=firstArgMember _ _) (wpAny_of_eq (a:=Value.none) (by first|rfl|(simp only [firstArgMember];rfl)) ?_);refine wpAny_newObj_type ?_ (by size_fits)
 delta raiseNew;dsimp only
 refine wpAny_bind (wpAny_handled ?_)
 first|rw [show A.in1.handled=none from hh]|rw [hh]
 refine wpAny_bind (wpAny_pure (wpAny_throw ?_));exact hE _ _ (((SameBut.update ..).extBut.push _).push _) ⟨_,get?_push_size _ rfl,rfl⟩
theorem zxr{z TI TO i1 i2 l1 l2:Addr}{k1 k2:Nat}{xs ys:Array Value}{x y a b:Value}(D:ZipApart z TI TO i1 i2 l1 l2)
  (hz:IsZip s.heap z TI TO .none)(hTI:IsPair s.heap TI (.ref i1) (.ref i2))(hTO:IsPair s.heap TO a b)
  (h1:s.heap.IsTupleIter i1 l1 k1)(h2:s.heap.IsTupleIter i2 l2 k2)(hl1:s.heap.IsTuple l1 xs)(hl2:s.heap.IsTuple l2 ys)(hx:xs[k1]? =some x)(hy:ys[k2]? =some y)
  (hQ:∀ h',IsZip h' z TI TO (rawInt s.heap.objs.size)→IsPair h' TO x y→h'.IsTupleIter i1 l1 (k1+1)→h'.IsTupleIter i2 l2 (k2+1)→IsPair h' s.heap.objs.size x y→h'.objs.size=s.heap.objs.size+1→
   (∀ c o,c≠z→c≠TO→c≠i1→c≠i2→s.heap.get? c=some o→h'.get? c=some o)→Q (.ref s.heap.objs.size) { s with heap:=h' }):
  wpAny (model prog w) A (Builtin.«zip.__next__» ⟨[.ref z],[]⟩) (fun fin s'=>∃ v,fin= .done (.ret v)∧Q v s') E s:=by
 show wpAny _ _ (field (.ref z) 2 >>= _) _ _ _
 refine wpAny_bind (wpAny_field hz rfl (x:=.bool false) rfl ?_)
 show wpAny _ _ (field (.ref z) 3 >>= _) _ _ _
 refine wpAny_bind (wpAny_field hz rfl (x:=.ref TI) rfl (wpAny_bind (wpAny_seqItems hTI rfl ?_)))
 show wpAny _ _ (Builtin.SmallTypes.ownedTupleIsFree (.ref z) >>= _) _ _ _
 refine wpAny_bind ?_;unfold Builtin.SmallTypes.ownedTupleIsFree;refine wpAny_bind (wpAny_field hz rfl (x:=.none) rfl (wpAny_pure ?_));simp only [if_true];refine wpAny_bind (wpAny_rule (wpAny_bind (wpAny_field hz rfl (x:=.ref TO) rfl ?_)));refine wpAny_bind (wpAny_setField_rec hz (by simp) fun g₁ z₁ e₁=>?_)
 replace z₁:IsZip g₁ z TI TO .ellipsis:=z₁
 refine wpAny_bind ?_;simp only [List.zipIdx_cons,List.zipIdx_nil,forIn_cons,forIn_nil];refine wpAny_bind (wpAny_bind (wpAny_onRaise ?_))
 show wpAny _ _ (Builtin.SmallTypes.nextOf (.ref i1) >>= _) _ _ _
 refine wpAny_bind (qa (h1.extBut e₁.extBut D.i1z) (hl1.extBut e₁.extBut D.l1z) hx fun g₂ a₂ e₂=>wpAny_pure ?_);have t₂:IsPair g₂ TO a b:=e₂.extBut _ _ D.TOi1 (e₁.extBut _ _ D.TOz hTO);refine wpAny_bind (wpAny_seqItems t₂ rfl (wpAny_bind (wpAny_updateSeq_pair t₂ fun g₃ t₃ e₃=>?_)))
 replace t₃:IsPair g₃ TO x b:=t₃
 refine wpAny_bind (wpAny_letGo (wpAny_pure ?_));refine wpAny_bind (wpAny_bind (wpAny_onRaise ?_))
 show wpAny _ _ (Builtin.SmallTypes.nextOf (.ref i2) >>= _) _ _ _
 refine wpAny_bind (qa (((h2.extBut e₁.extBut D.i2z).extBut e₂.extBut D.i12.symm).extBut e₃.extBut D.TOi2.symm)
  (((hl2.extBut e₁.extBut D.l2z).extBut e₂.extBut D.l2i1).extBut e₃.extBut D.l2TO) hy fun g₄ a₄ e₄=>wpAny_pure ?_)
 have t₄:IsPair g₄ TO x b:=e₄.extBut _ _ D.TOi2 t₃;refine wpAny_bind (wpAny_seqItems t₄ rfl (wpAny_bind (wpAny_updateSeq_pair t₄ fun g₅ t₅ e₅=>?_)))
 replace t₅:IsPair g₅ TO x y:=t₅
 refine wpAny_bind (wpAny_letGo (wpAny_pure (wpAny_pure ?_)));refine wpAny_bind (wpAny_seqItems t₅ rfl (wpAny_bind (wpAny_newTuple ?_)));have hsz:g₅.objs.size=s.heap.objs.size:=by rw [e₅.1,e₄.1,e₃.1,e₂.1,e₁.1]
 have z₅:IsZip g₅ z TI TO .ellipsis:=e₅.extBut _ _ D.TOz.symm (e₄.extBut _ _ D.i2z.symm (e₃.extBut _ _ D.TOz.symm (e₂.extBut _ _ D.i1z.symm z₁)))
 have up₅:∀ c o,c≠z→c≠TO→c≠i1→c≠i2→s.heap.get? c=some o→g₅.get? c=some o:=fun c o c1 c2 c3 c4 e=>
  e₅.extBut _ _ c2 (e₄.extBut _ _ c4 (e₃.extBut _ _ c2 (e₂.extBut _ _ c3 (e₁.extBut _ _ c1 e))))
 have p₁:g₅.IsTupleIter i1 l1 (k1+1):=((a₂.extBut e₃.extBut D.TOi1.symm).extBut e₄.extBut D.i12).extBut e₅.extBut D.TOi1.symm;have p₂:g₅.IsTupleIter i2 l2 (k2+1):=a₄.extBut e₅.extBut D.TOi2.symm;have hzlt:z<g₅.objs.size:=lt_size z₅
 show wpAny _ _ (Builtin.SmallTypes.ownedTupleHandOut (.ref z) (.ref g₅.objs.size) >>= _) _ _ _
 refine wpAny_bind ?_;unfold Builtin.SmallTypes.ownedTupleHandOut;have z₆:IsZip (g₅.push { cls:=.type "tuple",data:=.seq #[x,y] }) z TI TO .ellipsis:=get?_push_of_some _ z₅;refine wpAny_bind (wpAny_setField_rec z₆ (by simp) fun g₇ z₇ e₇=>?_)
 replace z₇:IsZip g₇ z TI TO (rawInt g₅.objs.size):=z₇
 refine wpAny_setField_rec z₇ (by simp) fun g₈ z₈ e₈=>?_
 replace z₈:IsZip g₈ z TI TO (rawInt g₅.objs.size):=z₈
 have up:∀ c o,c≠z→g₅.get? c=some o→g₈.get? c=some o:=fun c o c1 e=>e₈.extBut _ _ c1 (e₇.extBut _ _ c1 (get?_push_of_some _ e));have t₈:IsPair g₈ g₅.objs.size x y:=e₈.extBut _ _ (ne_of_gt hzlt) (e₇.extBut _ _ (ne_of_gt hzlt) (get?_push_size _ rfl));have s₈:g₈.objs.size=g₅.objs.size+1:=by rw [e₈.1,e₇.1,size_push]
 rw [hsz] at z₈ t₈ s₈;refine wpAny_pure ⟨_,rfl,?_⟩
 show Q (.ref g₅.objs.size) _
 rw [hsz];exact hQ g₈ z₈ (up _ _ D.TOz t₅) (p₁.at fun o e=>up _ o D.i1z e) (p₂.at fun o e=>up _ o D.i2z e) t₈ s₈ fun c o c1 c2 c3 c4 e=>up c o c1 (up₅ c o c1 c2 c3 c4 e)
theorem zua{z TI TO i1 i2 l1 l2:Addr}{k1 k2:Nat}{xs ys:Array Value}{a b:Value}{Q:PySem.Fin→Shared→Prop}(hh:A.handled=none)(D:ZipApart z TI TO i1 i2 l1 l2)
  (hz:IsZip s.heap z TI TO .none)(hTI:IsPair s.heap TI (.ref i1) (.ref i2))(hTO:IsPair s.heap TO a b)
  (h1:s.heap.IsTupleIter i1 l1 k1)(h2:s.heap.IsTupleIter i2 l2 k2)(hl1:s.heap.IsTuple l1 xs)(hl2:s.heap.IsTuple l2 ys)(hend:xs[k1]? =none∨ys[k2]? =none)
  (hE:∀ h' e,(∀ c o,c≠z→c≠TO→c≠i1→c≠i2→s.heap.get? c=some o→h'.get? c=some o)→(∃ o,h'.get? e=some o∧o.cls= .type "StopIteration")→E (.ref e) { s with heap:=h' }):
  wpAny (model prog w) A (Builtin.«zip.__next__» ⟨[.ref z],[]⟩) Q E s:=by
 show wpAny _ _ (field (.ref z) 2 >>= _) _ _ _
 refine wpAny_bind (wpAny_field hz rfl (x:=.bool false) rfl ?_)
 show wpAny _ _ (field (.ref z) 3 >>= _) _ _ _
 refine wpAny_bind (wpAny_field hz rfl (x:=.ref TI) rfl (wpAny_bind (wpAny_seqItems hTI rfl ?_)))
 show wpAny _ _ (Builtin.SmallTypes.ownedTupleIsFree (.ref z) >>= _) _ _ _
 refine wpAny_bind ?_;unfold Builtin.SmallTypes.ownedTupleIsFree;refine wpAny_bind (wpAny_field hz rfl (x:=.none) rfl (wpAny_pure ?_));simp only [if_true];refine wpAny_bind (wpAny_rule (wpAny_bind (wpAny_field hz rfl (x:=.ref TO) rfl ?_)));refine wpAny_bind (wpAny_setField_rec hz (by simp) fun g₁ z₁ e₁=>?_)
 replace z₁:IsZip g₁ z TI TO .ellipsis:=z₁
 refine wpAny_bind ?_;simp only [List.zipIdx_cons,List.zipIdx_nil,forIn_cons,forIn_nil];refine wpAny_bind (wpAny_bind (wpAny_onRaise ?_))
 show wpAny _ _ (Builtin.SmallTypes.nextOf (.ref i1) >>= _) _ _ _
 cases hx:xs[k1]? with
 |none=>
  refine wpAny_bind (jJ hh (h1.extBut e₁.extBut D.i1z) (hl1.extBut e₁.extBut D.l1z) hx fun g₂ e e₂ he=>?_)
  (refine X12 he fun oe hoe hce=>?_;try clear he)
  have z₂:IsZip g₂ z TI TO .ellipsis:=e₂ _ _ D.i1z.symm z₁;have hez:e≠z:=fun x=>by subst x;rw [z₂] at hoe;cases hoe;simp at hce
  refine wpAny_setField_rec z₂ (by simp) fun g₃ y e₃=>hE g₃ e (fun c o c1 y c3 y x=>e₃.extBut _ _ c1 (e₂ _ _ c3 (e₁.extBut _ _ c1 x))) ⟨oe,e₃.extBut _ _ hez hoe,hce⟩
 |some x=>
  have hy:ys[k2]? =none:=by rcases hend with h|h;rw [hx] at h;cases h;exact h
  refine wpAny_bind (qa (h1.extBut e₁.extBut D.i1z) (hl1.extBut e₁.extBut D.l1z) hx fun g₂ a₂ e₂=>wpAny_pure ?_);have t₂:IsPair g₂ TO a b:=e₂.extBut _ _ D.TOi1 (e₁.extBut _ _ D.TOz hTO);refine wpAny_bind (wpAny_seqItems t₂ rfl (wpAny_bind (wpAny_updateSeq_pair t₂ fun g₃ t₃ e₃=>?_)));refine wpAny_bind (wpAny_letGo (wpAny_pure ?_));refine wpAny_bind (wpAny_bind (wpAny_onRaise ?_))
  show wpAny _ _ (Builtin.SmallTypes.nextOf (.ref i2) >>= _) _ _ _
  refine wpAny_bind (jJ hh (((h2.extBut e₁.extBut D.i2z).extBut e₂.extBut D.i12.symm).extBut e₃.extBut D.TOi2.symm)
   (((hl2.extBut e₁.extBut D.l2z).extBut e₂.extBut D.l2i1).extBut e₃.extBut D.l2TO) hy fun g₄ e e₄ he=>?_)
  (refine X12 he fun oe hoe hce=>?_;try clear he)
  have z₄:IsZip g₄ z TI TO .ellipsis:=e₄ _ _ D.i2z.symm (e₃.extBut _ _ D.TOz.symm (e₂.extBut _ _ D.i1z.symm z₁));have hez:e≠z:=fun x=>by subst x;rw [z₄] at hoe;cases hoe;simp at hce
  refine wpAny_setField_rec z₄ (by simp) fun g₅ y e₅=>hE g₅ e (fun c o c1 c2 c3 c4 x=>e₅.extBut _ _ c1 (e₄ _ _ c4 (e₃.extBut _ _ c2 (e₂.extBut _ _ c3 (e₁.extBut _ _ c1 x))))) ⟨oe,e₅.extBut _ _ hez hoe,hce⟩
theorem w4(hh:A.handled=none)(z TI TO i1 i2 l1 l2:Addr)(D:ZipApart z TI TO i1 i2 l1 l2)(xs ys:Array Value):
  WalksU prog w A z [z,TI,TO,i1,i2,l1,l2] [z,TO,i1,i2] (min xs.size ys.size)
   (fun i vals=>∃ x y,xs[i]? =some x∧ys[i]? =some y∧vals= #[x,y])
   (fun i h=>IsZip h z TI TO .none∧IsPair h TI (.ref i1) (.ref i2)∧(∃ a b,IsPair h TO a b)∧h.IsTupleIter i1 l1 i∧h.IsTupleIter i2 l2 i∧h.IsTuple l1 xs∧h.IsTuple l2 ys)
   (fun i T h=>IsZip h z TI TO (rawInt T)∧IsPair h TI (.ref i1) (.ref i2)∧(∃ a b,IsPair h TO a b)∧h.IsTupleIter i1 l1 (i+1)∧h.IsTupleIter i2 l2 (i+1)∧h.IsTuple l1 xs∧h.IsTuple l2 ys∧
    T≠z∧T≠TO∧T≠i1∧T≠i2) where
 sub:=fun c hc=>by simp at hc ⊢; rcases hc with rfl|rfl|rfl|rfl<;>simp
 frame:=fun i h h' hst hk=>by
  obtain ⟨hz,hTI,⟨a,b,hTO⟩,h1,h2,hl1,hl2⟩:=hst
  exact ⟨hk z (by simp) _ hz,hk TI (by simp) _ hTI,⟨a,b,hk TO (by simp) _ hTO⟩,h1.at fun o e=>hk i1 (by simp) o e,h2.at fun o e=>hk i2 (by simp) o e,
   X12 hl1 fun o e r=>⟨o,hk l1 (by simp) o e,r⟩,X12 hl2 fun o e r=>⟨o,hk l2 (by simp) o e,r⟩⟩
 item:=fun i s Q E hi hst hQ=>by
  obtain ⟨hz,hTI,⟨a,b,hTO⟩,h1,h2,hl1,hl2⟩:=hst;have hix:i<xs.size:=lt_of_lt_of_le hi (min_le_left ..);have hiy:i<ys.size:=lt_of_lt_of_le hi (Nat.min_le_right ..);have hT:s.TypeIs (.ref z) "zip":=⟨_,hz,rfl⟩
  unfold pyNext
  refine wpAny_bind (wpAny_attempt (wpAny_callSpecial?_slot (name:=ofString "__next__") hT F.slot_zip_next
   (wpAny_call_entry F.slot_zip_next hT F.entry_zip_next
    (zxr D hz hTI hTO h1 h2 hl1 hl2 (Array.getElem?_eq_getElem hix) (Array.getElem?_eq_getElem hiy) fun h' a1 a2 a3 a4 a5 a6 hk=>wpAny_pure ?_) (F.args_zip_next_1 _))))
  have lt:∀ {c o},s.heap.get? c=some o→s.heap.objs.size≠c:=fun e=>ne_of_gt (lt_size e)
  exact hQ s.heap.objs.size #[xs[i],ys[i]] h' s.toks ⟨_,_,Array.getElem?_eq_getElem hix,Array.getElem?_eq_getElem hiy,rfl⟩ ⟨_,a5,rfl,_,rfl⟩
   ⟨a1,hk _ _ D.TIz D.TITO D.TIi1 D.TIi2 hTI,⟨_,_,a2⟩,a3,a4,(X12 hl1 fun o e r=>⟨o,hk _ o D.l1z D.l1TO D.l1i1 D.l1i2 e,r⟩),(X12 hl2 fun o e r=>⟨o,hk _ o D.l2z D.l2TO D.l2i1 D.l2i2 e,r⟩),
    lt hz,lt hTO,(by (refine X12 h1 fun v e v=>?_;try clear h1);exact lt e),(by (refine X12 h2 fun v e v=>?_;try clear h2);exact lt e)⟩
   fun c o hc e=>hk c o (fun x=>hc (by simp [x])) (fun x=>hc (by simp [x])) (fun x=>hc (by simp [x])) (fun x=>hc (by simp [x])) e
 go:=fun elts k pos i T s Q E hm hQ=>by
  obtain ⟨hz,hTI,⟨a,b,hTO⟩,h1,h2,hl1,hl2,_⟩:=hm
  refine wpAny_letOwnedTupleGo_zip hz fun h' hz' hs'=>hQ h' ⟨hz',hs'.extBut _ _ D.TIz hTI,⟨a,b,hs'.extBut _ _ D.TOz hTO⟩,h1.extBut hs'.extBut D.i1z,h2.extBut hs'.extBut D.i2z,
   hl1.extBut hs'.extBut D.l1z,hl2.extBut hs'.extBut D.l2z⟩ fun c o hc e=>hs'.extBut _ _ (fun x=>hc (by simp [x])) e
 apart:=fun i T h hm hT=>by
  (refine znM hm fun v v v v v v v t1 t2 t3 t4=>?_;try clear hm)
  simp at hT;rcases hT with rfl|rfl|rfl|rfl
  ·exact t1 rfl
  ·exact t2 rfl
  ·exact t3 rfl
  ·exact t4 rfl
 done:=fun s Q E hst hQ=>by
  obtain ⟨hz,hTI,⟨a,b,hTO⟩,h1,h2,hl1,hl2⟩:=hst
  have hend:xs[min xs.size ys.size]? =none∨ys[min xs.size ys.size]? =none:=by
   rcases le_total xs.size ys.size with h|h
   ·exact .inl (by rw [min_eq_left h];exact getElem?_eq_none (le_refl _))
   ·exact .inr (by rw [Nat.min_eq_right h];exact getElem?_eq_none (le_refl _))
  have hT:s.TypeIs (.ref z) "zip":=⟨_,hz,rfl⟩
  unfold pyNext
  refine wpAny_bind (wpAny_attempt (wpAny_callSpecial?_slot (name:=ofString "__next__") hT F.slot_zip_next
   (wpAny_call_entry F.slot_zip_next hT F.entry_zip_next (zua hh D hz hTI hTO h1 h2 hl1 hl2 hend fun h' e hk he=>?_) (F.args_zip_next_1 _))))
  (refine X12 he fun o ho hc=>?_;try clear he)
  refine wpAny_bind (wpAny_isInstance (T:="StopIteration") (b:=true) ⟨o,ho,hc⟩ isSubtype_stop ?_);exact wpAny_pure (hQ h' s.toks fun c o hc e=>hk c o (fun x=>hc (by simp [x])) (fun x=>hc (by simp [x])) (fun x=>hc (by simp [x])) (fun x=>hc (by simp [x])) e)
 self:=fun i s Q E hst hQ=>wpAny_pyIter_zip hst.1 hQ
noncomputable abbrev ti1(h:Heap)(l:Addr):Heap:=h.push { cls:=.type "tuple_iterator",data:=.fields #[.ref l,.int 0 0] }
noncomputable abbrev ti3(h:Heap)(l1 l2:Addr):Heap:=(ti1 (ti1 h l1) l2).push { cls:=.type "tuple",data:=.seq #[.ref h.objs.size,.ref (ti1 h l1).objs.size] }
noncomputable abbrev ti4(h:Heap)(l1 l2:Addr):Heap:=(ti3 h l1 l2).push { cls:=.type "tuple",data:=.seq #[.none,.none] }
noncomputable abbrev ti5(h:Heap)(l1 l2:Addr):Heap:=(ti4 h l1 l2).push { cls:=.type "zip",data:=.fields #[.none,.bool false,.bool false,.ref (ti1 (ti1 h l1) l2).objs.size,.ref (ti3 h l1 l2).objs.size] }
theorem vw(l1 l2:Addr)(xs ys:Array Value):
  Meets (Builtin.«zip.__new__» ⟨[.type "zip",.ref l1,.ref l2],[]⟩) (fun z R s=>s.heap.IsTuple l1 xs∧s.heap.IsTuple l2 ys∧
   R (.ok (.ret (.ref (ti4 s.heap l1 l2).objs.size))) { s with heap:=ti5 s.heap l1 l2 }):=
 .of_wp fun prog w A R s h=>by
  obtain ⟨hp,g,d,tk,os⟩:=s;refine X03 h fun hl1 hl2 h=>?_;have hsub:=sub_zip;have hL1:IsTuple (Shared.heap ⟨hp,g,d,tk,os⟩) l1 xs:=hl1;have hL2:IsTuple (Shared.heap ⟨hp.push { cls:=.type "tuple_iterator",data:=.fields #[.ref l1,.int 0 0] },g,d,tk,os⟩) l2 ys:=IsTuple.push hl2 _
  wp_walk using wpAny_pyIter_tuple hL1,wpAny_pyIter_tuple hL2
  exact ⟨_,rfl,h⟩
end
section
theorem zxs{l1 l2:Addr}{xs ys:Array Value}(hl1:s.heap.IsTuple l1 xs)(hl2:s.heap.IsTuple l2 ys)
  (h:∀ h',IsZip h' (s.heap.objs.size+4) (s.heap.objs.size+2) (s.heap.objs.size+3) .none→IsPair h' (s.heap.objs.size+2) (.ref s.heap.objs.size) (.ref (s.heap.objs.size+1))→
   IsPair h' (s.heap.objs.size+3) .none .none→h'.IsTupleIter s.heap.objs.size l1 0→h'.IsTupleIter (s.heap.objs.size+1) l2 0→h'.objs.size=s.heap.objs.size+5→
   (∀ c o,s.heap.get? c=some o→h'.get? c=some o)→Q (.ref (s.heap.objs.size+4)) { s with heap:=h' }):
  wpAny (model prog w) A (call (.type "zip") [.ref l1,.ref l2]) Q E s:=by
 refine callType_new F.called_zip (by decide) (F.typeCall_zip_2 _ _) (F.newCall_zip_2 _ _) (fun obj=>F.args_object_init_3 obj _ _) F.entry_zip_new
  (vw l1 l2 xs ys) ⟨hl1,hl2,?_⟩
 have z1:(ti1 s.heap l1).objs.size=s.heap.objs.size+1:=size_push ..;have z2:(ti1 (ti1 s.heap l1) l2).objs.size=s.heap.objs.size+2:=by rw [size_push,z1]
 have z3:(ti3 s.heap l1 l2).objs.size=s.heap.objs.size+3:=by rw [size_push,z2]
 have z4:(ti4 s.heap l1 l2).objs.size=s.heap.objs.size+4:=by rw [size_push,z3]
 have z5:(ti5 s.heap l1 l2).objs.size=s.heap.objs.size+5:=by rw [size_push,z4]
 have g5:(ti5 s.heap l1 l2).get? (ti4 s.heap l1 l2).objs.size=some _:=get?_push_size _ rfl;have g4:(ti5 s.heap l1 l2).get? (ti3 s.heap l1 l2).objs.size=some _:=get?_push_of_some _ (get?_push_size _ rfl);have g3:(ti5 s.heap l1 l2).get? (ti1 (ti1 s.heap l1) l2).objs.size=some _:=get?_push_of_some _ (get?_push_of_some _ (get?_push_size _ rfl));have g2:(ti5 s.heap l1 l2).get? (ti1 s.heap l1).objs.size=some _:=get?_push_of_some _ (get?_push_of_some _ (get?_push_of_some _ (get?_push_size _ rfl)));have g1:(ti5 s.heap l1 l2).get? s.heap.objs.size=some _:=get?_push_of_some _ (get?_push_of_some _ (get?_push_of_some _ (get?_push_of_some _ (get?_push_size _ rfl))))
 show _∧_
 rw [z2,z3,z4] at g5;rw [z1,z2] at g3;rw [z3] at g4;rw [z1] at g2;rw [z4]
 exact ⟨⟨_,g5,rfl⟩,h _ g5 g3 g4 ⟨_,g1,rfl,rfl⟩ ⟨_,g2,rfl,rfl⟩ z5 fun c o x=>
  get?_push_of_some _ (get?_push_of_some _ (get?_push_of_some _ (get?_push_of_some _ (get?_push_of_some _ x))))⟩
end
end
section
section
variable {K:Frag}
theorem zf3:jH Cx0 where
 glob:=fun h=>nomatch h
 call:=fun h=>nomatch h
 meth:=fun h=>nomatch h
 fld:=fun h=>nomatch h
 attr:=fun h=>nomatch h
 spec:=fun h=>nomatch h
theorem zue{l:List D}(h:zfi l=some r):∃ a b,l=[a,b]∧zgB a b=some r:=match l,h with
 |[],h=>zq h
 |[_],h=>zq h
 |[a,b],h=>⟨a,b,rfl,h⟩
 |_::_::_::_,h=>zq h
theorem zui{a b:D}(h:zgB a b=some r):∃ xs ys is js,a= .tup xs∧b= .tup ys∧qp asI xs=some is∧qp asI ys=some js∧(is.length≤64∧js.length≤64)∧r= .tup ((zipWith (· + ·) is js).map .int):=
 X12 (bind_some h) fun xs h1 h=>
 X12 (bind_some h) fun ys h2 h=>
 X12 (bind_some h) fun is h3 h=>
 X12 (bind_some h) fun js h4 h=>
 X02 (zk h) fun hl h=>
 ⟨xs,ys,is,js,wz h1,wz h2,h3,h4,hl,(sj h).symm⟩
theorem zqN:∀ {vs:List Value} {is:List Int} {q:Nat} {v:Value},IntsAre vs is→vs[q]? =some v→∃ t,v= .int (is.getD q 0) t
 |_,_,q,v,.nil,h=>by simp at h
 |_,_,0,v,.cons i t r,h=>by simp at h;exact ⟨t,by simp [h]⟩
 |_,_,q+1,v,.cons i t r,h=>by
  refine X11 (zqN r (by simpa using h)) fun t' e=>?_;exact ⟨t',by simpa using e⟩
theorem zxt{i j:Str}{ip jp bp:Pos}{fp wr:List Addr}{href:Heap}{xs ys:Array Value}{is js:List Int}(hk:cenv.scope.kind= .function)(hi:cenv.kindOf i=some .local)(hj:cenv.kindOf j=some .local)
  (di:(i==("__debug__":Str))=false)(dj:(j==("__debug__":Str))=false)(hx:IntsAre xs.toList is)(hy:IntsAre ys.toList js):
  QuietGenT prog w cenv i j [] (.BinOp (.Name i ip) .Add (.Name j jp) bp) fp wr (fun q vals=>∃ x y,xs[q]? =some x∧ys[q]? =some y∧vals= #[x,y]) (fun z=>true) (fun q y=>∃ t,y= .int (is.getD q 0+js.getD q 0) t) href where
 tests:=fun A' E' q va vb s₂ m₂ z z z z z z=>by
  rw [forIn_nil];exact wpAny_pure ⟨rfl,s₂.heap,s₂.toks,rfl,fun z z e=>e⟩
 elt:=fun A' E' q va vb s₂ m₂ z hP z hn ha hb z=>by
  (refine X23 hP fun x y h1 h2 e=>?_;try clear hP)
  obtain ⟨rfl,rfl⟩:va=x∧vb=y:=by simpa using congrArg Array.toList e
  obtain ⟨t₁,r1⟩:∃ t,va= .int (is.getD q 0) t:=zqN hx (by simpa using h1);obtain ⟨t₂,r2⟩:∃ t,vb= .int (js.getD q 0) t:=zqN hy (by simpa using h2);subst r1 r2;refine wpAny_BinOp (wpAny_Name (wpAny_loadName_local hk hi hn ha (wpAny_Name (wpAny_loadName_local hk hj hn hb ?_) dj)) di);exact PyProof.Rows.add_int ⟨⟨_,rfl⟩,_,_,rfl,fun z z e=>e⟩
theorem yG(n:Nat):passing (fun z=>true) n 0=List.range n:=by simp [passing]
theorem mc{M:Nat→Prop}{x:Nat}{l:List Nat}(h:M x)(t:∀ b∈l,M b):∀ b∈x::l,M b:=List.forall_mem_cons.mpr ⟨h,t⟩
theorem mn{M:Nat→Prop}:∀ b∈([]:List Nat),M b:=fun z m=>nomatch m
set_option tactic.hygienic true in
theorem zyd{bm:Addr}{ob:Obj}{i j:Str}{gs:Scope}{tp ip jp bp ip' jp':Pos}{tn:Nat}{tpp zp ep:Pos}{xs ys:List D}{is js:List Int}(hlim:h₀.NoLimit)(BM:BMod h₀ mainGlobals mg bm ob)(hbm:bm≠P₀)(G:kB)(B:zbd)(R:zC V env sc own σ X s.heap)(K:Ok X s)(hA:kQ A k)
  (hown:own.contains zp8=true)(hgs:zhN i j gs=true)(htu:zG sc "tuple"=true)(hzi:zG sc "zip"=true)(hst:zl args=true)(hao:args.any (qY own)=false)(hab:SL ⟨Cx0,own,sc,σ⟩ args [.tup xs,.tup ys])
  (his:qp asI xs=some is)(hjs:qp asI ys=some js)(hl1:is.length≤64)(hl2:js.length≤64):
  zj A X (eval (.Call (.Name "tuple" tp) [.GeneratorExp (.BinOp (.Name i ip) .Add (.Name j jp) bp) [⟨.Tuple [.Name i ip',.Name j jp'] tn tpp,.Call (.Name "zip" zp) args [] ap,[],0⟩] gs ep] [] pos) env) s (.tup ((zipWith (· + ·) is js).map .int)):=by
 intro Q E hQ;simp only [zhN,and_eq_true,not_eq_true',beq_iff_eq] at hgs;obtain ⟨⟨⟨⟨⟨⟨⟨⟨g1,g2⟩,g3⟩,g4⟩,g5⟩,g6⟩,g7⟩,g8⟩,g9⟩:=hgs;have hh:A.handled=none:=hA.hand;have hroom:A.depth<recursionLimit:=by have:=hA.depth;unfold recursionLimit;lia
 have hcode:=R.cod hown
 have gl:∀ y∈gs.names,y.2= .local:=fun y hy=>by
  have:=all_eq_true.mp g3 y hy
  simpa using this
 refine Call_Name (trees:=[(false,eval (.GeneratorExp (.BinOp (.Name i ip) .Add (.Name j jp) bp) [⟨.Tuple [.Name i ip',.Name j jp'] tn tpp,.Call (.Name "zip" zp) args [] ap,[],0⟩] gs ep) env)]) rfl (R.global K G htu B.tuple ?_);refine PyProof.Rows.callWith_type rfl (evalArgs_plain (spliced_cons ?_));refine wpAny_GeneratorExp_walksQT hh g2 (PySem.closureFor_none fun y hy=>by rw [gl y hy];decide) (fun y hy=>by rw [gl y hy];decide) g4 g5 g6 (by simpa using g9) g1 hroom ?_ (fun _=>rfl);refine Call_Name (trees:=backTo ap (starEach args env)) rfl (R.global K G hzi G.zip ?_);have T:=j7 hab ap (P:=⟨V,env,X,s,A⟩) hst hao ⟨R,K,hA.le (zero_le _),zf3,G⟩;refine PyProof.Rows.callWith_type (zV ap hst) (zQ (zV ap hst) (T _ _ fun vs s₁ gr1 rl=>?_))
 (refine X23 rl.two fun v1 v2 z9 r1 r2=>?_;subst z9)
 have K1:=K.grow gr1;cases r1 with|tup ro1 i1 L1=>
 cases r2 with|tup ro2 i2 L2=>
 rename_i l1 xv l2 yv;have hx:=yf L1 his;have hy:=yf L2 hjs;refine X11 (id i1) fun n1 ho1=>?_;refine X11 (id i2) fun n2 ho2=>?_;have hlt1:l1<s₁.heap.objs.size:=lt_size ho1;have hlt2:l2<s₁.heap.objs.size:=lt_size ho2;refine zxs i1.isTuple i2.isTuple fun h₂ hz hTI hTO hi1 hi2 hsz2 hk2=>?_;refine wpAny_pyIter_zip hz ?_;refine X12 K1.tab fun ps cd tb=>?_
 have hlim1:s₁.heap.NoLimit:=by
  (refine X12 hlim fun mc hn hm=>?_;try clear hlim)
  exact ⟨mc,hn.at' fun o e=>K1.old _ o (Ne.symm K1.ccs.2.2.2.2.2) e,hm⟩
 have hlim2:h₂.NoLimit:=hlim1.keeps hk2;refine ⟨hlim2,?_⟩;have lts:=K1.lts
 have fin:∀ (code:Value) (h₃:Heap) (tk:Nat) (more:Array Value),ExtBut P₀ h₂ h₃→h₂.objs.size≤h₃.objs.size→h₃.IsCode cc P₀ (ps++more)→h₃.TableAt cc P₀ (ps++more)→
   wpAny (model prog w) A (builtinsFor env.globals env.builtins) (fun bi s₄=>
    ∃ I fp wr n₀ Pt St₀ Mid pz F,(Value.ref (s₁.heap.objs.size+4))= .ref I∧(∀ A':Around,A'.handled=none→WalksU prog w A' I fp wr n₀ Pt St₀ Mid)∧(∀ i vals,Pt i vals→∃ va vb,vals= #[va,vb])∧St₀ 0 s₄.heap∧(∀ b∈fp,b<s₄.heap.objs.size)∧s₄.heap.NoLimit∧cStatics∉wr∧
     (∀ href:Heap,(∀ b o,s₄.heap.get? b=some o→href.get? b=some o)→
      QuietGenT prog w (genEnv gs [] s₄.heap.objs.size code bi env) i j [] (.BinOp (.Name i ip) .Add (.Name j jp) bp) (List.range s₄.heap.objs.size) wr Pt pz F href)∧
     (∀ a h₅ tk gs,gs.bare=true→s₄.heap.objs.size<a→h₅.objs.size=a+1→(∀ b o,s₄.heap.get? b=some o→h₅.get? b=some o)→
      WalksS prog w A.in4 a (a::s₄.heap.objs.size::List.range s₄.heap.objs.size) (s₄.heap.objs.size::wr) (GenOnlyQ s₄.gens.size) (passing pz n₀ 0).length
       (fun j y=>∃ i,(passing pz n₀ 0)[j]? =some i∧F i y) (GenAt prog w A.in4 a s₄.gens.size s₄.heap.objs.size (List.range s₄.heap.objs.size) wr pz n₀ F)→
      GenAt prog w A.in4 a s₄.gens.size s₄.heap.objs.size (List.range s₄.heap.objs.size) wr pz n₀ F 0 { s₄ with gens:=s₄.gens.push gs,toks:=tk,heap:=h₅ }→
      wpAny (model prog w) A (spliced []) (fun vs s'=>wpAny (model prog w) A (call (.type "tuple") (.ref a::vs)) Q E s') E { s₄ with gens:=s₄.gens.push gs,toks:=tk,heap:=h₅ })) E { s₁ with heap:=h₃,toks:=tk }:=by
  intro code h₃ tk more hx3 hsz3 hcd3 htb3;have nz:∀ n,s₁.heap.objs.size+n≠P₀:=fun n=>by have:@LT.lt Nat _ P₀ s₁.heap.objs.size:=lts.2.1;exact (by lia:@Ne Nat (s₁.heap.objs.size+n) P₀)
  have nc:∀ n,cStatics≠s₁.heap.objs.size+n:=fun n=>by have:@LT.lt Nat _ cStatics s₁.heap.objs.size:=lts.2.2;exact (by lia:@Ne Nat cStatics (s₁.heap.objs.size+n))
  have M2:BMod h₂ mainGlobals mg bm ob:=(⟨BM.ns.at' fun o e=>K1.old _ o G.ne.1 e,BM.name,BM.ne,K1.old _ _ hbm BM.obj,BM.cls,BM.dict,BM.data⟩:BMod s₁.heap mainGlobals mg bm ob).keeps hk2;have M3:BMod h₃ mainGlobals mg bm ob:=M2.extBut (tb.keeps hk2) hx3;rw [R.glob];refine wpAny_builtinsFor M3.ns M3.name M3.ne M3.obj M3.cls M3.dict M3.data ?_;have D:=zipApart_new hlt1 hlt2;have hsz3':@LE.le Nat _ (s₁.heap.objs.size+5) h₃.objs.size:=by rw [←hsz2];exact hsz3
  have l1':@LT.lt Nat _ l1 s₁.heap.objs.size:=hlt1;have l2':@LT.lt Nat _ l2 s₁.heap.objs.size:=hlt2
  have hmin:min xv.size yv.size=min is.length js.length:=by
   have a1:=L1.length;have a2:=L2.length;rw [(zqM his).1] at a1;rw [(zqM hjs).1] at a2;simp at a1 a2;rw [a1,a2]
  refine ⟨_,_,_,_,_,_,_,fun _=>true,_,rfl,fun A' hA'=>w4 hA' _ _ _ _ _ _ _ D xv yv,(fun i vals hv=>by (refine X23 hv fun x y _ _ e=>?_;try clear hv);exact ⟨x,y,e⟩),?_,?_,hlim2.extBut hx3 K1.ccs.2.2.2.2.2.symm,?_,fun href _=>zxt g1 g5 g6 g7 g8 hx hy,fun a h₅ tk₅ gst hgb hag hsz5 hk5 Wk GA=>?_⟩
  ·refine (w4 hh _ _ _ _ _ _ _ D xv yv).frame 0 h₂ h₃ ⟨hz,hTI,⟨_,_,hTO⟩,hi1,hi2,?_,?_⟩ fun b hb o e=>hx3 b o (fun q=>?_) e
   ·refine X12 i1.isTuple fun o e q=>?_;exact ⟨o,hk2 _ _ e,q⟩
   ·refine X12 i2.isTuple fun o e q=>?_;exact ⟨o,hk2 _ _ e,q⟩
   ·exact mc (M:=fun b=>b≠P₀) (nz 4) (mc (nz 2) (mc (nz 3) (mc (nz 0) (mc (nz 1) (mc ro1.ne.1 (mc ro2.ne.1 mn)))))) b hb q
  ·have up:∀ n,n<5→@LT.lt Nat _ (s₁.heap.objs.size+n) h₃.objs.size:=fun n hn=>lt_of_lt_of_le (Nat.add_lt_add_left hn _) hsz3';have up0:@LE.le Nat _ s₁.heap.objs.size h₃.objs.size:=le_trans (le_add_right _ 5) hsz3';exact mc (M:=fun b=>@LT.lt Nat _ b h₃.objs.size) (up 4 (by decide)) (mc (up 2 (by decide)) (mc (up 3 (by decide)) (mc (up 0 (by decide)) (mc (up 1 (by decide)) (mc (lt_of_lt_of_le l1' up0) (mc (lt_of_lt_of_le l2' up0) mn))))))
  ·exact fun hb=>mc (M:=fun b=>b≠cStatics) (fun q=>nc 4 q.symm) (mc (fun q=>nc 3 q.symm) (mc (fun q=>nc 0 q.symm) (mc (fun q=>nc 1 q.symm) mn))) _ hb rfl
  ·refine spliced_nil ?_;have hag':@LT.lt Nat _ h₃.objs.size a:=hag;have up0:@LE.le Nat _ s₁.heap.objs.size h₃.objs.size:=le_trans (le_add_right _ 5) hsz3';have up:∀ n,n<5→@LE.le Nat _ s₁.heap.objs.size (s₁.heap.objs.size+n)∧@LT.lt Nat _ (s₁.heap.objs.size+n) a:=fun n hn=>⟨le_add_right ..,Nat.lt_trans (lt_of_lt_of_le (Nat.add_lt_add_left hn _) hsz3') hag'⟩
   have wrlt:∀ b,b∈(h₃.objs.size::[s₁.heap.objs.size+4,s₁.heap.objs.size+3,s₁.heap.objs.size,s₁.heap.objs.size+1]:List Addr)→@LE.le Nat _ s₁.heap.objs.size b∧@LT.lt Nat _ b a:=
    mc (M:=fun b=>@LE.le Nat _ s₁.heap.objs.size b∧@LT.lt Nat _ b a) ⟨up0,hag'⟩ (mc (up 4 (by decide)) (mc (up 3 (by decide)) (mc (up 0 (by decide)) (mc (up 1 (by decide)) mn))))
   refine call_tuple_gen (Wk.in4_3) (fun i s' st=>st.1.typeIs) GA ?_ (mem_cons_self ..) (fun s' acc hm hit=>?_) ?_
   ·intro b hb
    show @LT.lt Nat _ b h₅.objs.size
    have hl5:@LT.lt Nat _ a h₅.objs.size:=lt_of_lt_of_le (lt_succ_self a) (le_of_eq (Eq.symm hsz5));exact (mem_cons.mp hb).elim (fun q=>q▸hl5) fun hb=>Nat.lt_trans ((mem_cons.mp hb).elim (fun q=>q▸hag') fun hb=>Nat.lt_trans (mem_range.mp hb) hag') hl5
   ·have up:∀ b o,@LT.lt Nat _ b s₁.heap.objs.size→h₃.get? b=some o→(s'.heap.push { cls:=.type "tuple",data:=.seq acc }).get? b=some o:=fun b o hl e=>
     get?_push_of_some _ (hm.heap b o (fun q=>absurd hl (not_lt.mpr (wrlt b q).1)) (hk5 b o e))
    have old:∀ b o,b≠P₀→s₁.heap.get? b=some o→(s'.heap.push { cls:=.type "tuple",data:=.seq acc }).get? b=some o:=fun b o hb e=>up b o (lt_size e) (hx3 b o hb (hk2 b o e))
    have hgen:∃ o,s'.heap.get? a=some o:=by
     refine X32 GA.1 fun o nm qn ho _=>?_;exact ⟨o,hm.heap a o (fun q=>absurd (wrlt a q).2 (lt_irrefl _)) ho⟩
    have hs'a:@LT.lt Nat _ a s'.heap.objs.size:=X11 hgen fun _ e=>lt_size e;have hs1:@LE.le Nat _ s₁.heap.objs.size s'.heap.objs.size:=le_of_lt (lt_of_le_of_lt up0 (Nat.lt_trans hag' hs'a));have ccl:@LT.lt Nat _ cc s₁.heap.objs.size:=lts.1;have Pl:@LT.lt Nat _ P₀ s₁.heap.objs.size:=lts.2.1;refine hQ _ _ (gr1.trans ⟨fun b o n e=>old b o n.1 e,?_,fun o e=>old _ o (Ne.symm K1.ccs.2.2.2.2.2) e,fun m x=>x.at' fun o e=>old _ o (Ne.symm K1.ccs.2.2.2.2.2) e,hm.os,fun ab=>?_,fun ps' cd' tb'=>?_⟩) ?_
    ·show s₁.heap.objs.size≤(s'.heap.push _).objs.size
     rw [size_push];exact le_succ_of_le hs1
    ·exact AllBare.movedS (s:={ s₁ with heap:=h₅,gens:=s₁.gens.push gst,toks:=tk₅ }) (s':=s') (ab.push hgb) hm
    ·have:ps'=ps:=by
      have e:=tb'.2.symm.trans tb.2
      simpa using e
     subst this;exact ⟨more,yX hcd3 (fun o e=>up _ o ccl e) (fun o e=>up _ o Pl e),jM htb3 (fun o e=>up _ o ccl e) (fun o e=>up _ o Pl e)⟩
    ·refine .tup (K1.x.root hs1 false) ⟨_,get?_push_size _ rfl⟩ ?_
     (refine X02 hit fun hit1 hit2=>?_;try clear hit)
     rw [yG,length_range,hmin] at hit1;refine zu.of_get (by simp [hit1]) fun q v d e1 e2=>?_;obtain ⟨q',hq',t,rfl⟩:=hit2 q v (by simpa using e1);rw [yG,hmin] at hq'
     obtain ⟨hq1,hq2⟩:q<min is.length js.length∧q=q':=by
      have:=List.getElem?_eq_some_iff.mp hq'
      (refine X11 this fun h1 h2=>?_;try clear this)
      simp at h1 h2;exact ⟨by omega,h2⟩
     subst hq2;have i1:q<is.length:=by lia
     have i2:q<js.length:=by lia
     have:d= .int (is.getD q 0+js.getD q 0):=by
      simp [getElem?_map,List.getElem?_zipWith,i1,i2] at e2;simp [i1,i2,e2.symm]
     subst this;exact .int _ _ _
   ·rw [yG,length_range,hmin];have:min is.length js.length≤64:=by lia
    exact le_trans this (by rw [sizeLine_eq];decide)
 have cd2:=cd.keeps hk2;have tb2:=tb.keeps hk2;cases hf:codeAmong ep ps.toList with
 |some c'=>exact wpAny_genexprCode_hit hcode cd2 hf (fin c' h₂ s₁.toks #[] (fun _ _ _ e=>e) (le_refl _) (by simpa using cd2) (by simpa using tb2))
 |none=>exact wpAny_genexprCodeX hcode cd2 tb2 hf fun c' h₃ tk₃ hx₃ hge hlt hcode₃ _ htab₃ _=>fin (.ref c') h₃ tk₃ _ hx₃ (le_trans hge (le_of_lt hlt)) hcode₃ htab₃
theorem zu0{bm:Addr}{ob:Obj}(hlim:h₀.NoLimit)(BM:BMod h₀ mainGlobals mg bm ob)(hbm:bm≠P₀)(G:kB)(B:zbd)(h:zf0 own sc e σ=some r)(R:zC V env sc own σ X s.heap)(K:Ok X s)(hA:kQ A k):zj A X (eval e env) s r:=
 bE h fun q z h=>zmm.casesOn (motive:=fun e q z=>(if own.contains zp8=true∧zhN q.1 q.2.1 q.2.2.1=true∧zG sc "tuple"=true∧zG sc "zip"=true∧zl q.2.2.2=true∧q.2.2.2.any (qY own)=false then
  (zjS (evK 4) ⟨Cx0,own,sc,σ⟩ q.2.2.2 some).bind zfi else none)=some r→zj A X (eval e env) s r) q.2 (fun i j gs args z z z z z z z z z z z z h=>
  iE h fun hc h=>bE h fun l hab h=>(qF (zyz 4) hab).elim fun l' sl el=>X22 (zue h) fun a b hl h=>X46 (zui h) fun xs ys is js ha hb his hjs hl' hr=>
  hr▸zyd hlim BM hbm G B R K hA hc.1 hc.2.1 hc.2.2.1 hc.2.2.2.1 hc.2.2.2.2.1 hc.2.2.2.2.2 (by rw [sj el,hl,ha,hb] at sl;exact sl) his hjs hl'.1 hl'.2) h
end
end
section
noncomputable def zbt(x:Str)(ds:List D):Option D:=match ds with
  |[a]=>if x="sorted" then yU a else zug x ds
  |_=>zug x ds
noncomputable def Cb(gl:Str→Option D):Cx:=⟨0,gl,zbt,fun z z z=>none,zf2,zbh,zbm⟩
section
variable {K:Frag} {gl:Str→Option D}
set_option tactic.hygienic true in
theorem zms{bm:Addr}{ob:Obj}(KX:K.In h₀)(hp:K.lookup P₀=none)(hlim:h₀.NoLimit)(BM:BMod h₀ mainGlobals mg bm ob)(hbm:bm≠P₀)(G:kB)(B:zbd)(hs:jV "sorted"=some (.builtin "sorted"))
  (hgl:∀ {x d},gl x=some d→∃ v,jV x=some v∧Rep h₀ [P₀,cStatics] false v d)
  (hf:∀ c f,zf2 c f=true→zxy K c f){wc:Addr}{mc:Value}(hw:jV "Whitespace"=some (.ref wc))(hr:readsIn K wc mc=true){t1 t2:Tok}(eS:findCls K (.ref wc) mc "S"=some (.val (.str " " t1)))(eT:findCls K (.ref wc) mc "T"=some (.val (.str "\t" t2))):
  jH (Cb gl) where
 glob:=hgl
 call:=fun {x ds r} h=>by
  have hB:∀ {x ds r},zug x ds=some r→_:=fun {x ds r} h=>zud (r:=r) (ds:=ds) B (f:=x) h;have h:zbt x ds=some r:=h;unfold zbt at h
  split at h
  ·rename_i a
   split at h
   ·rename_i hx;subst hx;refine X12 (zxf hs h) fun fv h1 h2=>?_;exact ⟨fv,h1,fun hA K hp T=>h2 K hp T⟩
   ·refine X12 (hB h) fun fv h1 h2=>?_;exact ⟨fv,h1,fun hA K hp T=>h2 hA.hand K hp T⟩
  ·refine X12 (hB h) fun fv h1 h2=>?_;exact ⟨fv,h1,fun hA K hp T=>h2 hA.hand K hp T⟩
 meth:=fun h=>nomatch h
 fld:=fun {c name fs d} h hl {A s X t ov} Kk R=>zfa KX hp (hf _ _ h) hl Kk R
 attr:=fun {c name d} h0=>by
  have h:zbh c name=some d:=h0;clear h0;unfold zbh at h
  split at h
  ·rename_i hc;subst hc;refine ⟨_,hw,fun {A s X} Kk=>?_⟩
   split at h
   ·rename_i hn;subst hn;cases h;exact zxh KX hp hr eS Kk
   ·split at h
    ·rename_i hn;subst hn;cases h;exact zxh KX hp hr eT Kk
    ·cases h
  ·cases h
 spec:=fun {own sc e σ d} h {V env X s A} R Kk hA=>by
  have h:zbm own sc e σ=some d:=h;unfold zbm at h
  split at h
  ·rename_i q;cases h;exact zuh G B q R Kk
  ·split at h
   ·rename_i q;cases h;exact zut G B q R Kk
   ·exact zu0 hlim BM hbm G B h R Kk hA
theorem zS(KX:K.In h₀)(hp:K.lookup P₀=none)(hf:∀ c f,zf2 c f=true→zxy K c f):zyj (Cb gl):=fun {c fs f d} h hl {A X s a v} Kk R hX Rv Q E hQ=>zfe KX hp (hf _ _ h) hl Kk R hX Rv Q E hQ
end
end
variable {n0:Str}
section
noncomputable def zgF:FuncData:={ name:=ofString "",qualname:=ofString "",params:=⟨[],[],none,[],[],none,[]⟩,body:=.stmts [],scope:={ kind:=.function,names:=[],isGenerator:=false,isCoroutine:=false },globals:=0,closure:=[],defaults:=.none,kwdefaults:=.none,pyModule:=.none }
noncomputable def qK(K:Frag)(a:Addr):FuncData:=match K.lookup a with
 |some o=>match o.data with
  | .func fd=>fd
  |_=>zgF
 |none=>zgF
noncomputable def zP(K:Frag)(a:Addr):List Stmt:=match (qK K a).body with
 | .stmts b=>b
 |_=>[]
theorem bj(h:∀ a:Value,bindArgs fd ⟨[a],[]⟩=pure [(n0,a)]):∀ vs:List Value,vs.length=[n0].length→bindArgs fd ⟨vs,[]⟩=pure ([n0].zip vs)
 |[a],_=>h a
 |[],h=>by simp at h
 |_::_::_,h=>by simp at h
theorem gG{n1:Str}(h:∀ a b:Value,bindArgs fd ⟨[a,b],[]⟩=pure [(n0,a),(n1,b)]):∀ vs:List Value,vs.length=[n0,n1].length→bindArgs fd ⟨vs,[]⟩=pure ([n0,n1].zip vs)
 |[a,b],_=>h a b
 |[],h=>by simp at h
 |[_],h=>by simp at h
 |_::_::_::_,h=>by simp at h
theorem zbl{n1 n2:Str}(h:∀ a b c:Value,bindArgs fd ⟨[a,b,c],[]⟩=pure [(n0,a),(n1,b),(n2,c)]):∀ vs:List Value,vs.length=[n0,n1,n2].length→bindArgs fd ⟨vs,[]⟩=pure ([n0,n1,n2].zip vs)
 |[a,b,c],_=>h a b c
 |[],h=>by simp at h
 |[_],h=>by simp at h
 |[_,_],h=>by simp at h
 |_::_::_::_::_,h=>by simp at h
theorem zf4{n1 n2 n3:Str}(h:∀ a b c d:Value,bindArgs fd ⟨[a,b,c,d],[]⟩=pure [(n0,a),(n1,b),(n2,c),(n3,d)]):∀ vs:List Value,vs.length=[n0,n1,n2,n3].length→bindArgs fd ⟨vs,[]⟩=pure ([n0,n1,n2,n3].zip vs)
 |[a,b,c,d],_=>h a b c d
 |[],h=>by simp at h
 |[_],h=>by simp at h
 |[_,_],h=>by simp at h
 |[_,_,_],h=>by simp at h
 |_::_::_::_::_::_,h=>by simp at h
theorem zmt{n1 n2 n3 n4:Str}(h:∀ a b c d e:Value,bindArgs fd ⟨[a,b,c,d,e],[]⟩=pure [(n0,a),(n1,b),(n2,c),(n3,d),(n4,e)]):∀ vs:List Value,vs.length=[n0,n1,n2,n3,n4].length→bindArgs fd ⟨vs,[]⟩=pure ([n0,n1,n2,n3,n4].zip vs)
 |[a,b,c,d,e],_=>h a b c d e
 |[],h=>by simp at h
 |[_],h=>by simp at h
 |[_,_],h=>by simp at h
 |[_,_,_],h=>by simp at h
 |[_,_,_,_],h=>by simp at h
 |_::_::_::_::_::_::_,h=>by simp at h
theorem zc(h:names.all (fun x=>zg sc x)=true):∀ x∈names,zg sc x=true:=fun x hx=>all_eq_true.mp h x hx
theorem zh(h:(sc.names.all fun q=>q.2 != .free)=true):∀ n k,(n,k)∈sc.names→k≠ .free:=by
 intro n k m q;subst q;have:=all_eq_true.mp h _ m;simp at this
set_option maxHeartbeats 4000000
theorem bk(KX:(KK P).In h₀):xb 42 (qK (KK P) 42) ["self","left","right"] (zP (KK P) 42) where
 obj:=⟨_,KX 42 { cls:=.type "function",data:=.func (qK (KK P) 42) } (by kernel_rfl),rfl⟩
 ne:=by decide
 body:=by kernel_rfl
 clo:=by kernel_rfl
 glob:=by kernel_rfl
 bi:=by kernel_rfl
 code:=⟨41,_,_,_,by kernel_rfl,by decide,KX 41 _ (by rfl),by rfl,by rfl⟩
 kind:=by kernel_rfl
 co:=by kernel_rfl
 gen:=by kernel_rfl
 bind:=zbl fun a b c=>by kernel_rfl
 store:=zc (by kernel_rfl)
 nofree:=zh (by kernel_rfl)
theorem bx(KX:(KK P).In h₀):xb 35 (qK (KK P) 35) ["self","comp_select_list"] (zP (KK P) 35) where
 obj:=⟨_,KX 35 { cls:=.type "function",data:=.func (qK (KK P) 35) } (by kernel_rfl),rfl⟩
 ne:=by decide
 body:=by kernel_rfl
 clo:=by kernel_rfl
 glob:=by kernel_rfl
 bi:=by kernel_rfl
 code:=⟨34,_,_,_,by kernel_rfl,by decide,KX 34 _ (by rfl),by rfl,by rfl⟩
 kind:=by kernel_rfl
 co:=by kernel_rfl
 gen:=by kernel_rfl
 bind:=gG fun a b=>by kernel_rfl
 store:=zc (by kernel_rfl)
 nofree:=zh (by kernel_rfl)
theorem yo(KX:(KK P).In h₀):xb 56 (qK (KK P) 56) ["func_name"] (zP (KK P) 56) where
 obj:=⟨_,KX 56 { cls:=.type "function",data:=.func (qK (KK P) 56) } (by kernel_rfl),rfl⟩
 ne:=by decide
 body:=by kernel_rfl
 clo:=by kernel_rfl
 glob:=by kernel_rfl
 bi:=by kernel_rfl
 code:=⟨55,_,_,_,by kernel_rfl,by decide,KX 55 _ (by rfl),by rfl,by rfl⟩
 kind:=by kernel_rfl
 co:=by kernel_rfl
 gen:=by kernel_rfl
 bind:=bj fun a=>by kernel_rfl
 store:=zc (by kernel_rfl)
 nofree:=zh (by kernel_rfl)
theorem yP(KX:(KK P).In h₀):xb 63 (qK (KK P) 63) ["target","source"] (zP (KK P) 63) where
 obj:=⟨_,KX 63 { cls:=.type "function",data:=.func (qK (KK P) 63) } (by kernel_rfl),rfl⟩
 ne:=by decide
 body:=by kernel_rfl
 clo:=by kernel_rfl
 glob:=by kernel_rfl
 bi:=by kernel_rfl
 code:=⟨62,_,_,_,by kernel_rfl,by decide,KX 62 _ (by rfl),by rfl,by rfl⟩
 kind:=by kernel_rfl
 co:=by kernel_rfl
 gen:=by kernel_rfl
 bind:=gG fun a b=>by kernel_rfl
 store:=zc (by kernel_rfl)
 nofree:=zh (by kernel_rfl)
theorem jY(KX:(KK P).In h₀):xb 70 (qK (KK P) 70) ["target","source"] (zP (KK P) 70) where
 obj:=⟨_,KX 70 { cls:=.type "function",data:=.func (qK (KK P) 70) } (by kernel_rfl),rfl⟩
 ne:=by decide
 body:=by kernel_rfl
 clo:=by kernel_rfl
 glob:=by kernel_rfl
 bi:=by kernel_rfl
 code:=⟨69,_,_,_,by kernel_rfl,by decide,KX 69 _ (by rfl),by rfl,by rfl⟩
 kind:=by kernel_rfl
 co:=by kernel_rfl
 gen:=by kernel_rfl
 bind:=gG fun a b=>by kernel_rfl
 store:=zc (by kernel_rfl)
 nofree:=zh (by kernel_rfl)
theorem xa(KX:(KK P).In h₀):xb 77 (qK (KK P) 77) ["callers"] (zP (KK P) 77) where
 obj:=⟨_,KX 77 { cls:=.type "function",data:=.func (qK (KK P) 77) } (by kernel_rfl),rfl⟩
 ne:=by decide
 body:=by kernel_rfl
 clo:=by kernel_rfl
 glob:=by kernel_rfl
 bi:=by kernel_rfl
 code:=⟨76,_,_,_,by kernel_rfl,by decide,KX 76 _ (by rfl),by rfl,by rfl⟩
 kind:=by kernel_rfl
 co:=by kernel_rfl
 gen:=by kernel_rfl
 bind:=bj fun a=>by kernel_rfl
 store:=zc (by kernel_rfl)
 nofree:=zh (by kernel_rfl)
theorem bw(KX:(KK P).In h₀):xb 94 (qK (KK P) 94) ["self","ws"] (zP (KK P) 94) where
 obj:=⟨_,KX 94 { cls:=.type "function",data:=.func (qK (KK P) 94) } (by kernel_rfl),rfl⟩
 ne:=by decide
 body:=by kernel_rfl
 clo:=by kernel_rfl
 glob:=by kernel_rfl
 bi:=by kernel_rfl
 code:=⟨93,_,_,_,by kernel_rfl,by decide,KX 93 _ (by rfl),by rfl,by rfl⟩
 kind:=by kernel_rfl
 co:=by kernel_rfl
 gen:=by kernel_rfl
 bind:=gG fun a b=>by kernel_rfl
 store:=zc (by kernel_rfl)
 nofree:=zh (by kernel_rfl)
theorem bu(KX:(KK P).In h₀):xb 101 (qK (KK P) 101) ["self"] (zP (KK P) 101) where
 obj:=⟨_,KX 101 { cls:=.type "function",data:=.func (qK (KK P) 101) } (by kernel_rfl),rfl⟩
 ne:=by decide
 body:=by kernel_rfl
 clo:=by kernel_rfl
 glob:=by kernel_rfl
 bi:=by kernel_rfl
 code:=⟨100,_,_,_,by kernel_rfl,by decide,KX 100 _ (by rfl),by rfl,by rfl⟩
 kind:=by kernel_rfl
 co:=by kernel_rfl
 gen:=by kernel_rfl
 bind:=bj fun a=>by kernel_rfl
 store:=zc (by kernel_rfl)
 nofree:=zh (by kernel_rfl)
theorem zqR(KX:(KK P).In h₀):xb 108 (qK (KK P) 108) ["self","tabsize"] (zP (KK P) 108) where
 obj:=⟨_,KX 108 { cls:=.type "function",data:=.func (qK (KK P) 108) } (by kernel_rfl),rfl⟩
 ne:=by decide
 body:=by kernel_rfl
 clo:=by kernel_rfl
 glob:=by kernel_rfl
 bi:=by kernel_rfl
 code:=⟨107,_,_,_,by kernel_rfl,by decide,KX 107 _ (by rfl),by rfl,by rfl⟩
 kind:=by kernel_rfl
 co:=by kernel_rfl
 gen:=by kernel_rfl
 bind:=gG fun a b=>by kernel_rfl
 store:=zc (by kernel_rfl)
 nofree:=zh (by kernel_rfl)
theorem zxl(KX:(KK P).In h₀):xb 129 (qK (KK P) 129) ["self","other"] (zP (KK P) 129) where
 obj:=⟨_,KX 129 { cls:=.type "function",data:=.func (qK (KK P) 129) } (by kernel_rfl),rfl⟩
 ne:=by decide
 body:=by kernel_rfl
 clo:=by kernel_rfl
 glob:=by kernel_rfl
 bi:=by kernel_rfl
 code:=⟨128,_,_,_,by kernel_rfl,by decide,KX 128 _ (by rfl),by rfl,by rfl⟩
 kind:=by kernel_rfl
 co:=by kernel_rfl
 gen:=by kernel_rfl
 bind:=gG fun a b=>by kernel_rfl
 store:=zc (by kernel_rfl)
 nofree:=zh (by kernel_rfl)
theorem w5(KX:(KK P).In h₀):xb 153 (qK (KK P) 153) ["x"] (zP (KK P) 153) where
 obj:=⟨_,KX 153 { cls:=.type "function",data:=.func (qK (KK P) 153) } (by kernel_rfl),rfl⟩
 ne:=by decide
 body:=by kernel_rfl
 clo:=by kernel_rfl
 glob:=by kernel_rfl
 bi:=by kernel_rfl
 code:=⟨152,_,_,_,by kernel_rfl,by decide,KX 152 _ (by rfl),by rfl,by rfl⟩
 kind:=by kernel_rfl
 co:=by kernel_rfl
 gen:=by kernel_rfl
 bind:=bj fun a=>by kernel_rfl
 store:=zc (by kernel_rfl)
 nofree:=zh (by kernel_rfl)
theorem ku(KX:(KK P).In h₀):xb 160 (qK (KK P) 160) ["x"] (zP (KK P) 160) where
 obj:=⟨_,KX 160 { cls:=.type "function",data:=.func (qK (KK P) 160) } (by kernel_rfl),rfl⟩
 ne:=by decide
 body:=by kernel_rfl
 clo:=by kernel_rfl
 glob:=by kernel_rfl
 bi:=by kernel_rfl
 code:=⟨159,_,_,_,by kernel_rfl,by decide,KX 159 _ (by rfl),by rfl,by rfl⟩
 kind:=by kernel_rfl
 co:=by kernel_rfl
 gen:=by kernel_rfl
 bind:=bj fun a=>by kernel_rfl
 store:=zc (by kernel_rfl)
 nofree:=zh (by kernel_rfl)
theorem zyf(KX:(KK P).In h₀):xb 167 (qK (KK P) 167) ["x"] (zP (KK P) 167) where
 obj:=⟨_,KX 167 { cls:=.type "function",data:=.func (qK (KK P) 167) } (by kernel_rfl),rfl⟩
 ne:=by decide
 body:=by kernel_rfl
 clo:=by kernel_rfl
 glob:=by kernel_rfl
 bi:=by kernel_rfl
 code:=⟨166,_,_,_,by kernel_rfl,by decide,KX 166 _ (by rfl),by rfl,by rfl⟩
 kind:=by kernel_rfl
 co:=by kernel_rfl
 gen:=by kernel_rfl
 bind:=bj fun a=>by kernel_rfl
 store:=zc (by kernel_rfl)
 nofree:=zh (by kernel_rfl)
theorem zxc(KX:(KK P).In h₀):xb 172 (qK (KK P) 172) ["script"] (zP (KK P) 172) where
 obj:=⟨_,KX 172 { cls:=.type "function",data:=.func (qK (KK P) 172) } (by kernel_rfl),rfl⟩
 ne:=by decide
 body:=by kernel_rfl
 clo:=by kernel_rfl
 glob:=by kernel_rfl
 bi:=by kernel_rfl
 code:=⟨171,_,_,_,by kernel_rfl,by decide,KX 171 _ (by rfl),by rfl,by rfl⟩
 kind:=by kernel_rfl
 co:=by kernel_rfl
 gen:=by kernel_rfl
 bind:=bj fun a=>by kernel_rfl
 store:=zc (by kernel_rfl)
 nofree:=zh (by kernel_rfl)
theorem zxo(KX:(KK P).In h₀):xb 177 (qK (KK P) 177) ["leads","spaces"] (zP (KK P) 177) where
 obj:=⟨_,KX 177 { cls:=.type "function",data:=.func (qK (KK P) 177) } (by kernel_rfl),rfl⟩
 ne:=by decide
 body:=by kernel_rfl
 clo:=by kernel_rfl
 glob:=by kernel_rfl
 bi:=by kernel_rfl
 code:=⟨176,_,_,_,by kernel_rfl,by decide,KX 176 _ (by rfl),by rfl,by rfl⟩
 kind:=by kernel_rfl
 co:=by kernel_rfl
 gen:=by kernel_rfl
 bind:=gG fun a b=>by kernel_rfl
 store:=zc (by kernel_rfl)
 nofree:=zh (by kernel_rfl)
theorem zyh(KX:(KK P).In h₀):xb 182 (qK (KK P) 182) ["ends","numbers"] (zP (KK P) 182) where
 obj:=⟨_,KX 182 { cls:=.type "function",data:=.func (qK (KK P) 182) } (by kernel_rfl),rfl⟩
 ne:=by decide
 body:=by kernel_rfl
 clo:=by kernel_rfl
 glob:=by kernel_rfl
 bi:=by kernel_rfl
 code:=⟨181,_,_,_,by kernel_rfl,by decide,KX 181 _ (by rfl),by rfl,by rfl⟩
 kind:=by kernel_rfl
 co:=by kernel_rfl
 gen:=by kernel_rfl
 bind:=gG fun a b=>by kernel_rfl
 store:=zc (by kernel_rfl)
 nofree:=zh (by kernel_rfl)
theorem zym(KX:(KK P).In h₀):xb 187 (qK (KK P) 187) ["steps","start","sides"] (zP (KK P) 187) where
 obj:=⟨_,KX 187 { cls:=.type "function",data:=.func (qK (KK P) 187) } (by kernel_rfl),rfl⟩
 ne:=by decide
 body:=by kernel_rfl
 clo:=by kernel_rfl
 glob:=by kernel_rfl
 bi:=by kernel_rfl
 code:=⟨186,_,_,_,by kernel_rfl,by decide,KX 186 _ (by rfl),by rfl,by rfl⟩
 kind:=by kernel_rfl
 co:=by kernel_rfl
 gen:=by kernel_rfl
 bind:=zbl fun a b c=>by kernel_rfl
 store:=zc (by kernel_rfl)
 nofree:=zh (by kernel_rfl)
theorem zu1(KX:(KK P).In h₀):xb 192 (qK (KK P) 192) ["rules","turnings"] (zP (KK P) 192) where
 obj:=⟨_,KX 192 { cls:=.type "function",data:=.func (qK (KK P) 192) } (by kernel_rfl),rfl⟩
 ne:=by decide
 body:=by kernel_rfl
 clo:=by kernel_rfl
 glob:=by kernel_rfl
 bi:=by kernel_rfl
 code:=⟨191,_,_,_,by kernel_rfl,by decide,KX 191 _ (by rfl),by rfl,by rfl⟩
 kind:=by kernel_rfl
 co:=by kernel_rfl
 gen:=by kernel_rfl
 bind:=gG fun a b=>by kernel_rfl
 store:=zc (by kernel_rfl)
 nofree:=zh (by kernel_rfl)
theorem zxa(KX:(KK P).In h₀):xb 197 (qK (KK P) 197) ["names","times","made"] (zP (KK P) 197) where
 obj:=⟨_,KX 197 { cls:=.type "function",data:=.func (qK (KK P) 197) } (by kernel_rfl),rfl⟩
 ne:=by decide
 body:=by kernel_rfl
 clo:=by kernel_rfl
 glob:=by kernel_rfl
 bi:=by kernel_rfl
 code:=⟨196,_,_,_,by kernel_rfl,by decide,KX 196 _ (by rfl),by rfl,by rfl⟩
 kind:=by kernel_rfl
 co:=by kernel_rfl
 gen:=by kernel_rfl
 bind:=zbl fun a b c=>by kernel_rfl
 store:=zc (by kernel_rfl)
 nofree:=zh (by kernel_rfl)
theorem zu2(KX:(KK P).In h₀):xb 202 (qK (KK P) 202) ["names","times","steps","made","ring"] (zP (KK P) 202) where
 obj:=⟨_,KX 202 { cls:=.type "function",data:=.func (qK (KK P) 202) } (by kernel_rfl),rfl⟩
 ne:=by decide
 body:=by kernel_rfl
 clo:=by kernel_rfl
 glob:=by kernel_rfl
 bi:=by kernel_rfl
 code:=⟨201,_,_,_,by kernel_rfl,by decide,KX 201 _ (by rfl),by rfl,by rfl⟩
 kind:=by kernel_rfl
 co:=by kernel_rfl
 gen:=by kernel_rfl
 bind:=zmt fun a b c d e=>by kernel_rfl
 store:=zc (by kernel_rfl)
 nofree:=zh (by kernel_rfl)
theorem zxe(KX:(KK P).In h₀):xb 207 (qK (KK P) 207) ["names","book","counters","inside"] (zP (KK P) 207) where
 obj:=⟨_,KX 207 { cls:=.type "function",data:=.func (qK (KK P) 207) } (by kernel_rfl),rfl⟩
 ne:=by decide
 body:=by kernel_rfl
 clo:=by kernel_rfl
 glob:=by kernel_rfl
 bi:=by kernel_rfl
 code:=⟨206,_,_,_,by kernel_rfl,by decide,KX 206 _ (by rfl),by rfl,by rfl⟩
 kind:=by kernel_rfl
 co:=by kernel_rfl
 gen:=by kernel_rfl
 bind:=zf4 fun a b c d=>by kernel_rfl
 store:=zc (by kernel_rfl)
 nofree:=zh (by kernel_rfl)
theorem zyn(KX:(KK P).In h₀):xb 212 (qK (KK P) 212) ["names","times","steps","ring"] (zP (KK P) 212) where
 obj:=⟨_,KX 212 { cls:=.type "function",data:=.func (qK (KK P) 212) } (by kernel_rfl),rfl⟩
 ne:=by decide
 body:=by kernel_rfl
 clo:=by kernel_rfl
 glob:=by kernel_rfl
 bi:=by kernel_rfl
 code:=⟨211,_,_,_,by kernel_rfl,by decide,KX 211 _ (by rfl),by rfl,by rfl⟩
 kind:=by kernel_rfl
 co:=by kernel_rfl
 gen:=by kernel_rfl
 bind:=zf4 fun a b c d=>by kernel_rfl
 store:=zc (by kernel_rfl)
 nofree:=zh (by kernel_rfl)
theorem zu3(KX:(KK P).In h₀):xb 217 (qK (KK P) 217) ["script"] (zP (KK P) 217) where
 obj:=⟨_,KX 217 { cls:=.type "function",data:=.func (qK (KK P) 217) } (by kernel_rfl),rfl⟩
 ne:=by decide
 body:=by kernel_rfl
 clo:=by kernel_rfl
 glob:=by kernel_rfl
 bi:=by kernel_rfl
 code:=⟨216,_,_,_,by kernel_rfl,by decide,KX 216 _ (by rfl),by rfl,by rfl⟩
 kind:=by kernel_rfl
 co:=by kernel_rfl
 gen:=by kernel_rfl
 bind:=bj fun a=>by kernel_rfl
 store:=zc (by kernel_rfl)
 nofree:=zh (by kernel_rfl)
end
section
set_option maxHeartbeats 4000000
theorem k65:(KK P).lookup 65=none:=by kernel_rfl
theorem zf5:ClsAt (KK P) 45:=⟨by kernel_rfl,by kernel_rfl,by kernel_rfl,by kernel_rfl,by kernel_rfl⟩
theorem zzR:ClsAt (KK P) 139:=⟨by kernel_rfl,by kernel_rfl,by kernel_rfl,by kernel_rfl,by kernel_rfl⟩
theorem xV:∀ c f,zf2 c f=true→zxy (KK P) c f:=fun c f h=>by
 simp only [zf2,or_eq_true,and_eq_true,beq_iff_eq] at h;rcases h with ⟨rfl,rfl⟩|⟨rfl,h⟩
 ·exact ⟨zf5,by kernel_rfl⟩
 ·rcases h with (((rfl|rfl)|rfl)|rfl)|rfl<;>exact ⟨zzR,by kernel_rfl⟩
theorem zxi:pO (KK P) 45 "compare" 42:=⟨zf5,by kernel_rfl,by kernel_rfl⟩
theorem zx0:pO (KK P) 139 "longest_run_of_spaces" 101:=⟨zzR,by kernel_rfl,by kernel_rfl⟩
theorem zu4:pO (KK P) 139 "indent_level" 108:=⟨zzR,by kernel_rfl,by kernel_rfl⟩
theorem zf6:pO (KK P) 139 "less" 129:=⟨zzR,by kernel_rfl,by kernel_rfl⟩
theorem k45:keepIn (KK P) (.ref 45)=true∧makesIn (KK P) 45=true∧findIn (KK P) (.ref 45) "__init__"=some (some (.ref 35))∧typeIn (KK P) (.ref 35)=some (.type "function"):=⟨by kernel_rfl,by kernel_rfl,by kernel_rfl,by kernel_rfl⟩
theorem zhS:keepIn (KK P) (.ref 139)=true∧makesIn (KK P) 139=true∧findIn (KK P) (.ref 139) "__init__"=some (some (.ref 94))∧typeIn (KK P) (.ref 94)=some (.type "function"):=⟨by kernel_rfl,by kernel_rfl,by kernel_rfl,by kernel_rfl⟩
theorem znI:readsIn (KK P) 139 (.type "type")=true:=by kernel_rfl
noncomputable def znX:Option CFound→Tok
 |some (.val (.str z t))=>t
 |_=>0
noncomputable def znW:Option (Option Value)→Tok
 |some (some (.int z t))=>t
 |_=>0
theorem zrq:∃ t,findCls (KK P) (.ref 139) (.type "type") "S"=some (.val (.str " " t)):=⟨znX (findCls (KK P) (.ref 139) (.type "type") "S"),by kernel_rfl⟩
theorem zrz:∃ t,findCls (KK P) (.ref 139) (.type "type") "T"=some (.val (.str "\t" t)):=⟨znX (findCls (KK P) (.ref 139) (.type "type") "T"),by kernel_rfl⟩
noncomputable def gIn(K:Frag)(n:Str):Option (Option Value):=nsIn K mainGlobals n
theorem bb:gIn (KK P) "func_std_string"=some (some (.ref 56))∧gIn (KK P) "add_func_stats"=some (some (.ref 63))∧gIn (KK P) "add_callers"=some (some (.ref 70))∧gIn (KK P) "count_calls"=some (some (.ref 77))∧gIn (KK P) "TupleComp"=some (some (.ref 45))∧gIn (KK P) "Whitespace"=some (some (.ref 139)):=⟨by kernel_rfl,by kernel_rfl,by kernel_rfl,by kernel_rfl,by kernel_rfl,by kernel_rfl⟩
theorem w6:gIn (KK P) "ISTERMINAL"=some (some (.ref 153))∧gIn (KK P) "ISNONTERMINAL"=some (some (.ref 160))∧gIn (KK P) "ISEOF"=some (some (.ref 167))∧gIn (KK P) "_law_page"=some (some (.ref 172))∧gIn (KK P) "_law_ends"=some (some (.ref 177))∧gIn (KK P) "_law_rules"=some (some (.ref 182))∧gIn (KK P) "_law_roads"=some (some (.ref 187)):=⟨by kernel_rfl,by kernel_rfl,by kernel_rfl,by kernel_rfl,by kernel_rfl,by kernel_rfl,by kernel_rfl⟩
theorem bf:gIn (KK P) "_law_run"=some (some (.ref 192))∧gIn (KK P) "_law_book"=some (some (.ref 197))∧gIn (KK P) "_law_due"=some (some (.ref 202))∧gIn (KK P) "_law_told"=some (some (.ref 207))∧gIn (KK P) "_law_alike"=some (some (.ref 212))∧gIn (KK P) "law"=some (some (.ref 217)):=⟨by kernel_rfl,by kernel_rfl,by kernel_rfl,by kernel_rfl,by kernel_rfl,by kernel_rfl⟩
theorem zf7:(∃ t,gIn (KK P) "NT_OFFSET"=some (some (.int 256 t)))∧(∃ t,gIn (KK P) "ENDMARKER"=some (some (.int 0 t)))∧gIn (KK P) "EXACT_TOKEN_TYPES"=some (some (.ref 144)):=⟨⟨znW (gIn (KK P) "NT_OFFSET"),by kernel_rfl⟩,⟨znW (gIn (KK P) "ENDMARKER"),by kernel_rfl⟩,by kernel_rfl⟩
noncomputable def zgH:List Str:=["len","sum","min","max","abs","divmod","str","tuple","isinstance","int","range","enumerate","zip","list","sorted"]
theorem zf8:zgH.all (fun n=>gIn (KK P) n==some none)=true:=by kernel_rfl
theorem qN:bootBuiltins "len"=some (.builtin "len")∧bootBuiltins "sum"=some (.builtin "sum")∧bootBuiltins "min"=some (.builtin "min")∧bootBuiltins "max"=some (.builtin "max")∧bootBuiltins "abs"=some (.builtin "abs")∧bootBuiltins "divmod"=some (.builtin "divmod")∧
  bootBuiltins "str"=some (.type "str")∧bootBuiltins "tuple"=some (.type "tuple")∧bootBuiltins "isinstance"=some (.builtin "isinstance")∧bootBuiltins "int"=some (.type "int")∧bootBuiltins "range"=some (.type "range")∧bootBuiltins "enumerate"=some (.type "enumerate")∧bootBuiltins "zip"=some (.type "zip")∧bootBuiltins "list"=some (.type "list")∧bootBuiltins "sorted"=some (.builtin "sorted"):=
 ⟨by kernel_rfl,by kernel_rfl,by kernel_rfl,by kernel_rfl,by kernel_rfl,by kernel_rfl,by kernel_rfl,by kernel_rfl,by kernel_rfl,by kernel_rfl,by kernel_rfl,by kernel_rfl,by kernel_rfl,by kernel_rfl,by kernel_rfl⟩
end
section
set_option maxHeartbeats 4000000
structure qw:Prop where
 KX:(KK P).In h₀
 g:h₀.Ns mainGlobals mg
 b:h₀.Ns builtinsNs mb
 lim:h₀.NoLimit
 bi:∀ x:Str,x≠"__name__"→mb x=bootBuiltins x
 bmod:∃ bm ob,BMod h₀ mainGlobals mg bm ob
 tab:∃ ps,h₀.IsCode 69 65 ps∧h₀.TableAt 69 65 ps
section
noncomputable def zx1:Obj:=((KK P).lookup 144).getD { cls:=.none,data:=.plain }
noncomputable def zu5:Array DictEntry:=match (zx1).data with
 | .dict es z=>es
 |_=> #[]
noncomputable def zml:Nat:=match (zx1).data with
 | .dict z ep=>ep
 |_=>0
theorem zmc:(KK P).lookup 144=some (zx1):=by kernel_rfl
theorem zmo:(zx1).ExactDict:=⟨by kernel_rfl,by kernel_rfl,by kernel_rfl⟩
theorem zma:(zx1).data= .dict (zu5) (zml):=by kernel_rfl
theorem zme:(zu5).toList.map (·.hash)=(zu5).toList.map (fun e=>match e.key with| .str x z=>PyData.keyHash P x|_=>e.hash):=by kernel_rfl
noncomputable def zmi:List (Str × D):=[("!",54),("!=",28),("%",24),("%=",40),("&",19),("&=",41),("(",7),(")",8),("*",16),("**",35),("**=",46),("*=",38),("+",14),("+=",36),(",",12),("-",15),("-=",37),("->",51),(".",23),("...",52),("/",17),("//",47),("//=",48),("/=",39),(":",11),(":=",53),(";",13),("<",20),("<<",33),("<<=",44),("<=",29),("=",22),("==",27),(">",21),(">=",30),(">>",34),(">>=",45),("@",49),("@=",50),("[",9),("]",10),("^",32),("^=",43),("{",25),("|",18),("|=",42),("}",26),("~",31)].map fun p:String × Int=>(ofString p.1,D.int p.2)
theorem zm0:qp zhR (zu5).toList=some zmi:=by kernel_rfl
theorem zm1:(zmi.map (fun z=>z.1)).Nodup:=by decide+kernel
end
namespace qw
variable (F:qw)
include F
theorem gv{n:Str}(h:gIn (KK P) n=some (some v)):jV n=some v:=by
 have:mg n=some v:=mg_of F.KX F.g h;unfold jV;rw [this]
theorem bv{n:Str}(hm:n∈zgH)(hn:n≠"__name__")(h:bootBuiltins n=some v):jV n=some v:=by
 have h1:=all_eq_true.mp (zf8) n hm;have:mg n=none:=mg_none_of F.KX F.g (by simpa [gIn] using h1);unfold jV;rw [this,F.bi _ hn, ←h]
theorem globR:kB where
 g:=F.g
 b:=F.b
 ne:=⟨by decide,by decide⟩
 range:=F.bv (by decide+kernel) (by decide+kernel) qN.2.2.2.2.2.2.2.2.2.2.1
 enum:=F.bv (by decide+kernel) (by decide+kernel) qN.2.2.2.2.2.2.2.2.2.2.2.1
 zip:=F.bv (by decide+kernel) (by decide+kernel) qN.2.2.2.2.2.2.2.2.2.2.2.2.1
 list:=F.bv (by decide+kernel) (by decide+kernel) qN.2.2.2.2.2.2.2.2.2.2.2.2.2.1
theorem bltR:zbd where
 len:=F.bv (by decide+kernel) (by decide+kernel) qN.1
 sum:=F.bv (by decide+kernel) (by decide+kernel) qN.2.1
 min:=F.bv (by decide+kernel) (by decide+kernel) qN.2.2.1
 max:=F.bv (by decide+kernel) (by decide+kernel) qN.2.2.2.1
 abs:=F.bv (by decide+kernel) (by decide+kernel) qN.2.2.2.2.1
 divmod:=F.bv (by decide+kernel) (by decide+kernel) qN.2.2.2.2.2.1
 str:=F.bv (by decide+kernel) (by decide+kernel) qN.2.2.2.2.2.2.1
 tuple:=F.bv (by decide+kernel) (by decide+kernel) qN.2.2.2.2.2.2.2.1
 isi:=F.bv (by decide+kernel) (by decide+kernel) qN.2.2.2.2.2.2.2.2.1
 int:=F.bv (by decide+kernel) (by decide+kernel) qN.2.2.2.2.2.2.2.2.2.1
theorem sorted:jV "sorted"=some (.builtin "sorted"):=F.bv (by decide+kernel) (by decide+kernel) qN.2.2.2.2.2.2.2.2.2.2.2.2.2.2
end qw
noncomputable def glD:Str→Option D:=fun x=>if x="NT_OFFSET" then some (.int 256) else if x="ENDMARKER" then some (.int 0) else if x="EXACT_TOKEN_TYPES" then some (.dS zmi) else none
set_option tactic.hygienic true in
theorem qw.base(F:qw):jH (Cb glD):=by
 refine X21 F.bmod fun bm ob BM=>?_;refine X12 F.tab fun ps cd tb=>?_;refine X11 (zrq) fun t1 e1=>?_;refine X11 (zrz) fun t2 e2=>?_;refine zms F.KX k65 F.lim BM (BM.apart tb).2 F.globR F.bltR F.sorted (fun {x d} h=>?_) xV (F.gv bb.2.2.2.2.2) znI e1 e2;unfold glD at h;obtain ⟨⟨u1,v1⟩,⟨u2,v2⟩,v3⟩:=zf7
 split at h
 ·rename_i q;subst q;cases h;exact ⟨_,F.gv v1,.int _ _ _⟩
 ·split at h
  ·rename_i q;subst q;cases h;exact ⟨_,F.gv v2,.int _ _ _⟩
  ·split at h
   ·rename_i q;subst q;cases h;refine ⟨_,F.gv v3,zuo F.KX zmc zmo zma zm0 (by decide) (by decide) (by decide) (fun e m x t hk=>?_) zm1⟩;have:=zme;obtain ⟨i,hi,rfl⟩:=List.mem_iff_getElem.mp m;have h2:=congrArg (fun l=>l[i]?) this;simp only [getElem?_map,getElem?_eq_getElem hi,Option.map_some,Option.some.injEq] at h2;rw [hk] at h2;exact h2
   ·cases h
end
section
set_option maxHeartbeats 4000000
noncomputable def fnC(C:Cx)(a:Addr)(names own:List Str):List D→Option D:=fnD C 12 8 own (qK (KK P) a).scope names (zP (KK P) a)
noncomputable def clC(C:Cx)(a:Addr)(names own:List Str)(c:Nat):List D→Option D:=zbf C 12 8 own (qK (KK P) a).scope (qb::names) (zP (KK P) a) c
noncomputable def x0:Cx:=Cb glD
noncomputable def x1:Cx:=(x0).addMeth 45 "compare" (fnC (x0) 42 ["self","left","right"] ([]:List Str))
noncomputable def x2:Cx:=(x1).addMeth 139 "longest_run_of_spaces" (fnC (x1) 101 ["self"] ([]:List Str))
noncomputable def x3:Cx:=(x2).addMeth 139 "indent_level" (fnC (x2) 108 ["self","tabsize"] ([]:List Str))
noncomputable def x4:Cx:=(x3).addMeth 139 "less" (fnC (x3) 129 ["self","other"] ([]:List Str))
noncomputable def x5:Cx:=(x4).addFn "TupleComp" (clC (x4) 35 ["comp_select_list"] ["self"] 45) (x4.lvl+2)
noncomputable def x6:Cx:=(x5).addFn "Whitespace" (clC (x5) 94 ["ws"] ["self","count"] 139) (x5.lvl+2)
noncomputable def x7:Cx:=(x6).addFn "func_std_string" (fnC (x6) 56 ["func_name"] ([]:List Str)) (x6.lvl+1)
noncomputable def x8:Cx:=(x7).addFn "add_callers" (fnC (x7) 70 ["target","source"] ["new_callers"]) (x7.lvl+1)
noncomputable def x9:Cx:=(x8).addFn "count_calls" (fnC (x8) 77 ["callers"] ([]:List Str)) (x8.lvl+1)
noncomputable def x10:Cx:=(x9).addFn "ISTERMINAL" (fnC (x9) 153 ["x"] ([]:List Str)) (x9.lvl+1)
noncomputable def x11:Cx:=(x10).addFn "ISNONTERMINAL" (fnC (x10) 160 ["x"] ([]:List Str)) (x10.lvl+1)
noncomputable def x12:Cx:=(x11).addFn "ISEOF" (fnC (x11) 167 ["x"] ([]:List Str)) (x11.lvl+1)
noncomputable def x13:Cx:=(x12).addFn "add_func_stats" (fnC (x12) 63 ["target","source"] ([]:List Str)) (x12.lvl+1)
noncomputable def x14:Cx:=(x13).addFn "_law_page" (fnC (x13) 172 ["script"] ["cells","leads"]) (x13.lvl+1)
noncomputable def x15:Cx:=(x14).addFn "_law_ends" (fnC (x14) 177 ["leads","spaces"] ["columns","ends"]) (x14.lvl+1)
noncomputable def x16:Cx:=(x15).addFn "_law_rules" (fnC (x15) 182 ["ends","numbers"] ["after","rules"]) (x15.lvl+1)
noncomputable def x17:Cx:=(x16).addFn "_law_roads" (fnC (x16) 187 ["steps","start","sides"] ["roads"]) (x16.lvl+1)
noncomputable def x18:Cx:=(x17).addFn "_law_run" (fnC (x17) 192 ["rules","turnings"] ["made"]) (x17.lvl+1)
noncomputable def x19:Cx:=(x18).addFn "_law_book" (fnC (x18) 197 ["names","times","made"] ["book","kept"]) (x18.lvl+1)
noncomputable def x20:Cx:=(x19).addFn "_law_due" (fnC (x19) 202 ["names","times","steps","made","ring"] ["due"]) (x19.lvl+1)
noncomputable def x21:Cx:=(x20).addFn "_law_told" (fnC (x20) 207 ["names","book","counters","inside"] ([]:List Str)) (x20.lvl+1)
noncomputable def x22:Cx:=(x21).addFn "_law_alike" (fnC (x21) 212 ["names","times","steps","ring"] ([]:List Str)) (x21.lvl+1)
section
structure SO(C:Cx):Prop where
 go:zyj C
theorem o0(F:qw):jH x0:=F.base
theorem o1(F:qw):jH x1:=
 have s0:SO x0:=⟨zS (gl:=glD) F.KX k65 xV⟩
 qX.addMeth F.KX k65 zxi ⟨bk F.KX,F.lim,o0 F,F.globR,s0.go,(by decide+kernel),(by decide+kernel),(fun q=>absurd q (by decide+kernel))⟩
theorem o2(F:qw):jH x2:=
 have s1:SO x1:=⟨zS (gl:=glD) F.KX k65 xV⟩
 qX.addMeth F.KX k65 zx0 ⟨bu F.KX,F.lim,o1 F,F.globR,s1.go,(by decide+kernel),(by decide+kernel),(fun q=>absurd q (by decide+kernel))⟩
theorem o3(F:qw):jH x3:=
 have s2:SO x2:=⟨zS (gl:=glD) F.KX k65 xV⟩
 qX.addMeth F.KX k65 zu4 ⟨zqR F.KX,F.lim,o2 F,F.globR,s2.go,(by decide+kernel),(by decide+kernel),(fun q=>absurd q (by decide+kernel))⟩
theorem o4(F:qw):jH x4:=
 have s3:SO x3:=⟨zS (gl:=glD) F.KX k65 xV⟩
 qX.addMeth F.KX k65 zf6 ⟨zxl F.KX,F.lim,o3 F,F.globR,s3.go,(by decide+kernel),(by decide+kernel),(fun q=>absurd q (by decide+kernel))⟩
theorem o5(F:qw):jH x5:=
 have s4:SO x4:=⟨zS (gl:=glD) F.KX k65 xV⟩
 zxx.addCls F.KX k65 k45.1 k45.2.1 k45.2.2.1 k45.2.2.2 ⟨bx F.KX,F.lim,o4 F,F.globR,s4.go,(by decide+kernel),(by decide+kernel),(fun q=>absurd q (by decide+kernel)),(by kernel_rfl)⟩ (F.gv bb.2.2.2.2.1)
theorem o6(F:qw):jH x6:=
 have s5:SO x5:=⟨zS (gl:=glD) F.KX k65 xV⟩
 zxx.addCls F.KX k65 zhS.1 zhS.2.1 zhS.2.2.1 zhS.2.2.2 ⟨bw F.KX,F.lim,o5 F,F.globR,s5.go,(by decide+kernel),(by decide+kernel),(fun q=>absurd q (by decide+kernel)),(by kernel_rfl)⟩ (F.gv bb.2.2.2.2.2)
theorem o7(F:qw):jH x7:=
 have s6:SO x6:=⟨zS (gl:=glD) F.KX k65 xV⟩
 qX.addFn ⟨yo F.KX,F.lim,o6 F,F.globR,s6.go,(by decide+kernel),(by decide+kernel),(fun q=>absurd q (by decide+kernel))⟩ (F.gv bb.1)
theorem o8(F:qw):jH x8:=
 have s7:SO x7:=⟨zS (gl:=glD) F.KX k65 xV⟩
 qX.addFn ⟨jY F.KX,F.lim,o7 F,F.globR,s7.go,(by decide+kernel),(by decide+kernel),(fun z=>by kernel_rfl)⟩ (F.gv bb.2.2.1)
theorem o9(F:qw):jH x9:=
 have s8:SO x8:=⟨zS (gl:=glD) F.KX k65 xV⟩
 qX.addFn ⟨xa F.KX,F.lim,o8 F,F.globR,s8.go,(by decide+kernel),(by decide+kernel),(fun q=>absurd q (by decide+kernel))⟩ (F.gv bb.2.2.2.1)
theorem o10(F:qw):jH x10:=
 have s9:SO x9:=⟨zS (gl:=glD) F.KX k65 xV⟩
 qX.addFn ⟨w5 F.KX,F.lim,o9 F,F.globR,s9.go,(by decide+kernel),(by decide+kernel),(fun q=>absurd q (by decide+kernel))⟩ (F.gv w6.1)
theorem o11(F:qw):jH x11:=
 have s10:SO x10:=⟨zS (gl:=glD) F.KX k65 xV⟩
 qX.addFn ⟨ku F.KX,F.lim,o10 F,F.globR,s10.go,(by decide+kernel),(by decide+kernel),(fun q=>absurd q (by decide+kernel))⟩ (F.gv w6.2.1)
theorem o12(F:qw):jH x12:=
 have s11:SO x11:=⟨zS (gl:=glD) F.KX k65 xV⟩
 qX.addFn ⟨zyf F.KX,F.lim,o11 F,F.globR,s11.go,(by decide+kernel),(by decide+kernel),(fun q=>absurd q (by decide+kernel))⟩ (F.gv w6.2.2.1)
theorem o13(F:qw):jH x13:=
 have s12:SO x12:=⟨zS (gl:=glD) F.KX k65 xV⟩
 qX.addFn ⟨yP F.KX,F.lim,o12 F,F.globR,s12.go,(by decide+kernel),(by decide+kernel),(fun q=>absurd q (by decide+kernel))⟩ (F.gv bb.2.1)
theorem o14(F:qw):jH x14:=
 have s13:SO x13:=⟨zS (gl:=glD) F.KX k65 xV⟩
 qX.addFn ⟨zxc F.KX,F.lim,o13 F,F.globR,s13.go,(by decide+kernel),(by decide+kernel),(fun q=>absurd q (by decide+kernel))⟩ (F.gv w6.2.2.2.1)
theorem o15(F:qw):jH x15:=
 have s14:SO x14:=⟨zS (gl:=glD) F.KX k65 xV⟩
 qX.addFn ⟨zxo F.KX,F.lim,o14 F,F.globR,s14.go,(by decide+kernel),(by decide+kernel),(fun q=>absurd q (by decide+kernel))⟩ (F.gv w6.2.2.2.2.1)
theorem o16(F:qw):jH x16:=
 have s15:SO x15:=⟨zS (gl:=glD) F.KX k65 xV⟩
 qX.addFn ⟨zyh F.KX,F.lim,o15 F,F.globR,s15.go,(by decide+kernel),(by decide+kernel),(fun q=>absurd q (by decide+kernel))⟩ (F.gv w6.2.2.2.2.2.1)
theorem o17(F:qw):jH x17:=
 have s16:SO x16:=⟨zS (gl:=glD) F.KX k65 xV⟩
 qX.addFn ⟨zym F.KX,F.lim,o16 F,F.globR,s16.go,(by decide+kernel),(by decide+kernel),(fun q=>absurd q (by decide+kernel))⟩ (F.gv w6.2.2.2.2.2.2)
theorem o18(F:qw):jH x18:=
 have s17:SO x17:=⟨zS (gl:=glD) F.KX k65 xV⟩
 qX.addFn ⟨zu1 F.KX,F.lim,o17 F,F.globR,s17.go,(by decide+kernel),(by decide+kernel),(fun q=>absurd q (by decide+kernel))⟩ (F.gv bf.1)
theorem o19(F:qw):jH x19:=
 have s18:SO x18:=⟨zS (gl:=glD) F.KX k65 xV⟩
 qX.addFn ⟨zxa F.KX,F.lim,o18 F,F.globR,s18.go,(by decide+kernel),(by decide+kernel),(fun q=>absurd q (by decide+kernel))⟩ (F.gv bf.2.1)
theorem o20(F:qw):jH x20:=
 have s19:SO x19:=⟨zS (gl:=glD) F.KX k65 xV⟩
 qX.addFn ⟨zu2 F.KX,F.lim,o19 F,F.globR,s19.go,(by decide+kernel),(by decide+kernel),(fun q=>absurd q (by decide+kernel))⟩ (F.gv bf.2.2.1)
theorem o21(F:qw):jH x21:=
 have s20:SO x20:=⟨zS (gl:=glD) F.KX k65 xV⟩
 qX.addFn ⟨zxe F.KX,F.lim,o20 F,F.globR,s20.go,(by decide+kernel),(by decide+kernel),(fun q=>absurd q (by decide+kernel))⟩ (F.gv bf.2.2.2.1)
theorem o22(F:qw):jH x22:=
 have s21:SO x21:=⟨zS (gl:=glD) F.KX k65 xV⟩
 qX.addFn ⟨zyn F.KX,F.lim,o21 F,F.globR,s21.go,(by decide+kernel),(by decide+kernel),(fun q=>absurd q (by decide+kernel))⟩ (F.gv bf.2.2.2.2.1)
theorem zx2(F:qw)(h:fnC x22 217 ["script"] [] ds=some r)(hA:kQ A 25)(K:Ok X s)(rl:zu s.heap X vs ds):
  zj A X (call (.ref 217) vs) s r:=
 have s22:SO x22:=⟨zS (gl:=glD) F.KX k65 xV⟩
 wm ⟨zu3 F.KX,F.lim,o22 F,F.globR,s22.go,(by decide+kernel),(by decide+kernel),(fun q=>absurd q (by decide+kernel))⟩ h (show kQ A (x22.lvl+1) from hA) K rl
end
end
section
set_option maxHeartbeats 8000000
noncomputable def zrj(o:Option Obj):Value:=match o with
 |some ⟨z,y,.fields vs,x⟩=>vs.getD 11 .none
 |_=>.none
theorem k69:zrj ((KK P).lookup 69)= .ref 65:=by kernel_rfl
theorem c70:(qK (KK P) 70).code= .ref 69:=by kernel_rfl
theorem zm2:((recsOf qv).find? (fun e=>e.name==("add_callers":Str))).isSome=true:=by kernel_rfl
section
variable {loose:List Str} {mean:ExcName→Option Value}
theorem facts(KX:(KK P).In h₀)(T:Top qv loose mean mg mb h₀):qw where
 KX:=KX
 g:=T.g
 b:=T.b
 lim:=T.nolimit
 bi:=T.builtins
 bmod:=bmod_of_top T
 tab:=by
  refine X11 (isSome_iff_exists.mp zm2) fun d hd'=>?_;refine X12 ((jY KX).obj) fun fo ho hf=>?_;refine X22 (based_of_top T hd' (mg_of KX T.g bb.2.2.1) ho hf) fun c P1 hc B=>?_;rw [c70] at hc;cases hc
  have:P1=65:=by
   obtain ⟨o,vs,file,tf,flags,tg,inF,text,tt,op,q,r1,r2,_⟩:=B.code;have h:=k69;cases e:(KK P).lookup 69 with
   |none=>rw [e] at h;cases h
   |some o'=>
    rw [e] at h;have e2:=KX _ _ e;rw [q] at e2;cases e2;obtain ⟨oc,od,dt,sl⟩:=o;dsimp only at r1;subst r1;have h:vs.getD 11 .none= .ref 65:=h;rw [r2] at h;cases h;rfl
  subst this;exact ⟨_,B.code,B.tab⟩
theorem zbc{ns:List Int}(KX:(KK P).In h₀)(T:Top qv loose mean mg mb h₀)(hg:g₀.s.gens= #[])(hl:h₀.PlainList l vs.toArray)(hI:IntsAre vs ns)
  (hv:fnC x22 217 ["script"] [] [.list (ns.map .int)]=some (.bool true))(Q:Value→Shared→Prop)(E:Value→Shared→Prop)
  (hQ:∀ s',OldK h₀ s'.heap→s'.os=g₀.s.os→AllBare s'.gens→Q (.bool true) s'):wpAny (model prog w) callerA (call (.ref 217) [.ref l]) Q E g₀.s:=by
 have F:=facts KX T;refine X12 F.tab fun ps cd tb=>?_;refine X11 (id hl) fun n hn=>?_;obtain ⟨mc,⟨o2,es,ep,ho2,hd2,_⟩,_⟩:=id F.lim
 have l69:@LT.lt Nat _ 69 h₀.objs.size:=by
  obtain ⟨o,vs,file,tf,flags,tg,inF,text,tt,op,q,_⟩:=cd;exact lt_size q
 have K:Ok [65,cStatics] g₀.s:={
  x:=⟨⟨.head _,.tail _ (.head _)⟩,fun a m=>by
   simp at m;rcases m with (q:@Eq Nat a 65)|(q:@Eq Nat a 2)
   ·exact (by lia:@LT.lt Nat _ a h₀.objs.size)
   ·exact (by lia:@LT.lt Nat _ a h₀.objs.size),(by lia:@LT.lt Nat _ 1 h₀.objs.size)⟩
  base:=fun a m=>by simp at m;exact m.imp id .inl
  old:=fun z z z e=>e
  sz:=le_refl _
  tab:=⟨ps,cd,tb⟩
  ccs:=⟨l69,by decide,by decide,(by lia:@LT.lt Nat _ 65 h₀.objs.size),(by lia:@LT.lt Nat _ 2 h₀.objs.size),by decide⟩ }
 have h65:l≠65:=fun q=>by subst q;have:=tb.2;rw [hn] at this;cases this
 have h2:l≠cStatics:=fun q=>by subst q;rw [hn] at ho2;cases ho2;cases hd2
 refine zx2 F hv ⟨rfl,by decide+kernel,by decide+kernel⟩ K (.cons (.list (vs:=vs.toArray) ⟨⟨h65,h2⟩,fun z q=>?_⟩ hl (by simpa using gU hI)) .nil) Q E fun v s' g r=>?_
 ·simp at q;exact q.elim h65 h2
 ·cases r with|bool=>
  refine hQ s' ?_ g.os (g.gens (by rw [hg];exact AllBare.empty));refine X12 (g.tab ps cd tb) fun more cd' tb'=>?_
  have kp:∀ b o,b≠65→h₀.get? b=some o→s'.heap.get? b=some o:=fun b o h e=>by
   by_cases hc:b=cStatics
   ·subst hc;exact g.cst _ e
   ·exact g.keep b o ⟨h,hc⟩ e
  refine ⟨fun b o e=>?_,fun b o e=>?_⟩
  ·by_cases hb:b=65
   ·subst hb;have e':=tb.2;rw [e] at e';cases e';exact .inr (.inl ⟨tb.isCodeTable,rfl,ps,more,rfl,tb'.2⟩)
   ·exact .inl (kp b o hb e)
  ·by_cases hb:b=65
   ·subst hb;exact ⟨_,tb'.2⟩
   ·exact ⟨o,kp b o hb e⟩
end
end
section
section
noncomputable def zry(f c s:Bool)(x:Str)(k:Option β):Option β:=if f=true∧c=true∧s=false∧x≠qb then k else none
noncomputable def zm3(f c:Bool)(x:Str)(k:Option β):Option β:=if true=true∧(f=true∧c=true∧x≠qb) then k else none
noncomputable def zx3:D→Bool
 | .list z=>true
 |_=>false
noncomputable def zm4(T:String)(d:D):Option D:=(zpa d T).map .bool
noncomputable def orS(o:Option D):Option D:=match o with
 |some d=>some d
 |none=>none
noncomputable def zrk(a b:Option D)(k:D→Option (List D)):Option (List D):=a.bind fun d=>b.bind fun j=>(zY d j).bind k
noncomputable def zrx(a:Option D)(b:(D→Option (List D))→Option (List D)):Option D:=(a.bind fun x=>b fun y=>some [x,y]).bind zfi
end
section
noncomputable def Ex:Type 1:=(β:Type)→Sg→(D→Option β)→Option β
noncomputable def Ts:Type 1:=(β:Type)→Sg→(Bool→Option β)→Option β
noncomputable def Ls:Type 1:=(β:Type)→Sg→(List D→Option β)→Option β
noncomputable def Pt:Type 1:=(β:Type)→Sg→(Option Int→Option β)→Option β
def Cm(α:Type):Type:=Sg→Option (List α)
noncomputable def Sm:Type 1:=(β:Type)→Sg→(Sg→Fl→Option β)→Option β
def Bs:Type:=Sg→Option Bool
noncomputable def vE(x:Str):Ex:=fun z s k=>(s x).bind k
noncomputable def cE(d:D):Ex:=fun z z k=>k d
noncomputable def nE(n:Int):Ex:=cE (.int n)
noncomputable def sE(x:Str):Ex:=cE (.str x)
noncomputable def gE(C:Cx)(x:Str):Ex:=fun z z k=>(C.glob x).bind k
noncomputable def kE(C:Cx)(c a:Str):Ex:=fun z z k=>(C.attr c a).bind k
noncomputable def oE(o:Operator)(a b:Ex):Ex:=fun β s k=>a β s fun x=>b β s fun y=>(yQ o x y).bind k
noncomputable def mE(a:Ex):Ex:=fun β s k=>a β s fun x=>zhI x k
noncomputable def fE(t:Ts)(a b:Ex):Ex:=fun z s k=>(t D s fun c=>if c=true then a D s some else b D s some).bind k
noncomputable def nL:Ls:=fun z z k=>k []
noncomputable def cL(a:Ex)(b:Ls):Ls:=fun β s k=>a β s fun x=>b β s fun y=>k (x::y)
noncomputable def oL(f:D→Bool)(n:Str)(a:Ex)(b:Ls):Ls:=fun β s k=>a β s fun x=>zm3 (f x) (jj x) n (b β s fun y=>k (x::y))
noncomputable def dE(a b:Ls):Ex:=fun β s k=>a β s fun x=>b β s fun y=>(qV (x.zip y)).bind k
noncomputable def lE(a:Ls):Ex:=fun β s k=>a β s fun x=>k (.list x)
noncomputable def tE(a:Ls):Ex:=fun β s k=>a β s fun x=>k (.tup x)
noncomputable def qE(t:Ts):Ex:=fun β s k=>t β s fun c=>k (.bool c)
noncomputable def jE(a b:Ex):Ex:=fun β s k=>a β s fun x=>b β s fun y=>(zY x y).bind k
noncomputable def nP:Pt:=fun z z k=>k none
noncomputable def eP(a:Ex):Pt:=fun β s k=>a β s fun x=>(kJ x).bind k
noncomputable def zE(a:Ex)(b c d:Pt):Ex:=fun β s k=>a β s fun x=>b β s fun y=>c β s fun z=>d β s fun w=>(jU x y z w).bind k
noncomputable def aE(C:Cx)(n:Str)(a:Ex):Ex:=fun β s k=>a β s fun x=>zp5 C n x k
noncomputable def pE(a:Ex):Ex:=fun β s k=>a β s fun x=>(jD x).bind (zhH k)
noncomputable def wE(f:D→Option D)(x:Str):Ex:=fun z s k=>(orS ((s x).bind f)).bind k
noncomputable def yE(x y z:Str):Ex:=fun v s k=>(zrx (s x) (zrk (s y) (s z))).bind k
noncomputable def CE(C:Cx)(f:Str)(a:Ls):Ex:=fun β s k=>a β s fun x=>(C.call f x).bind k
noncomputable def ME(C:Cx)(n:Str)(o:Bool)(a:Ex)(b:Ls):Ex:=fun β s k=>a β s fun x=>b β s fun y=>yC C n o x y k
noncomputable def LE(c:Cm D):Ex:=fun z s k=>(c s).bind (zhH k)
noncomputable def DE(c:Cm (D × D)):Ex:=fun z s k=>(c s).bind (zn3 k)
noncomputable def nT(t:Ts):Ts:=fun β s k=>t β s fun b=>k (!b)
noncomputable def qT(o:CmpOp)(a b:Ex):Ts:=fun β s k=>a β s fun x=>b β s fun y=>(xJ o x y).bind k
noncomputable def eT(a:Ex):Ts:=fun β s k=>a β s fun x=>zko x k
noncomputable def nB(b:Bool):Bs:=fun z=>some b
noncomputable def cB(b:Bool)(t:Ts)(r:Bs):Bs:=fun s=>t Bool s fun c=>if c=b then r s else some c
noncomputable def bT(r:Bs):Ts:=fun z s k=>(r s).bind k
noncomputable def rI(a:Ls):Ls:=fun β s k=>a β s fun x=>zg8 x k
noncomputable def eI(a:Ls):Ls:=fun β s k=>a β s fun x=>zdC x k
noncomputable def zI(a:Ls):Ls:=fun β s k=>a β s fun x=>zn4 x k
noncomputable def pI(a:Ex):Ls:=fun β s k=>a β s fun x=>(jD x).bind k
noncomputable def vI(a:Ex):Ls:=fun β s k=>a β s fun x=>(zz3 x).bind k
noncomputable def xI(a:Ex):Ls:=fun β s k=>a β s fun x=>(jB x).bind k
section
noncomputable def mC(e:Ex):Cm D:=fun s=>e (List D) s fun d=>some [d]
noncomputable def kC(e f:Ex):Cm (D × D):=fun s=>e (List (D × D)) s fun a=>f (List (D × D)) s fun b=>some [(a,b)]
noncomputable def iC(t:Ts)(b:Cm α):Cm α:=fun s=>t (List α) s fun c=>if c=true then b s else some []
noncomputable def Tg:Type 1:=(γ:Type)→Sg→D→(Sg→Option γ)→Option γ
noncomputable def fC(t:Tg)(i:Ls)(b:Cm α):Cm α:=fun s=>i (List α) s fun ds=>yc (fun d=>t (List α) s d b) ds
noncomputable def B1(x:Str):Tg:=fun z s d k=>k (upd s x d)
noncomputable def B2(x y:Str):Tg:=fun z s d k=>zv8 d fun u v=>k (upd (upd s x u) y v)
noncomputable def f1C(x:Str):Ls→Cm α→Cm α:=fC (B1 x)
noncomputable def f2C(x y:Str):Ls→Cm α→Cm α:=fC (B2 x y)
end
noncomputable def pS:Sm:=fun z s k=>k s .next
noncomputable def kS:Sm:=fun z s k=>k s .brk
noncomputable def rS(e:Ex):Sm:=fun β s k=>e β s fun d=>k s (.ret d)
noncomputable def iS(t:Ts)(a b:Sm):Sm:=fun β s k=>t β s fun c=>if c=true then a β s k else b β s k
noncomputable def qS(a b:Sm):Sm:=fun β s k=>a β s fun s' f=>zpH f (b β s' k) (k s' f)
noncomputable def zgM(x y:Str):Expr:=.Tuple [.Name x default,.Name y default] 0 default
noncomputable def zm5(x y z:Str):Expr:=.Tuple [.Name x default,.Name y default,.Name z default] 0 default
noncomputable def fS(t:Expr)(i:Ls)(b:Sm):Sm:=fun β s k=>i β s fun ds=>(zyF (fun s=>b (Sg × Fl) s fun s f=>some (s,f)) t ds s).bind fun q=>k q.1 q.2
noncomputable def f1S(x:Str):Ls→Sm→Sm:=fS (.Name x default)
noncomputable def f2S(x y:Str):Ls→Sm→Sm:=fS (zgM x y)
noncomputable def f3S(x y z:Str):Ls→Sm→Sm:=fS (zm5 x y z)
noncomputable def aS(x:Str)(e:Ex):Sm:=fun β s k=>e β s fun d=>k (upd s x d) .next
noncomputable def oS(f:D→Bool)(x:Str)(e:Ex):Sm:=fun β s k=>e β s fun d=>zry (f d) (jj d) false x (k (upd s x d) .next)
noncomputable def a3S(x y z:Str)(e:Ex):Sm:=fun β s k=>e β s fun d=>k (upd (upd (upd s x d) y d) z d) .next
noncomputable def dS(xs:List Str)(l:Ls):Sm:=fun β s k=>l β s fun ds=>k (zL xs ds s) .next
noncomputable def t2S(x y:Str)(e:Ex):Sm:=fun β s k=>e β s fun d=>zv8 d fun u v=>k (upd (upd s x u) y v) .next
noncomputable def t3S(x y z:Str)(e:Ex):Sm:=fun β s k=>e β s fun d=>zp2 d fun u v w=>k (upd (upd (upd s x u) y v) z w) .next
noncomputable def t5S(x y z u v:Str)(e:Ex):Sm:=fun β s k=>e β s fun d=>zp3 d fun a b c d e=>k (upd (upd (upd (upd (upd s x a) y b) z c) u d) v e) .next
noncomputable def xS(x:Str)(i e:Ex):Sm:=fun β s k=>e β s fun d=>i β s fun j=>(s x).bind fun a=>(zzK a j d).bind fun r=>k (upd s x r) .next
noncomputable def sS(C:Cx)(f x:Str)(e:Ex):Sm:=fun β s k=>e β s fun d=>(s x).bind fun a=>zmw C f d a fun r=>k (upd s x r) .next
noncomputable def uS(x:Str)(e:Ex):Sm:=fun β s k=>(s x).bind fun a=>e β s fun b=>(zvf a b).bind fun r=>k (upd s x r) .next
noncomputable def wS(x:Str)(i e:Ex):Sm:=fun β s k=>(s x).bind fun a=>i β s fun j=>e β s fun b=>(zY a j).bind fun c=>(zvf c b).bind fun r=>(zzK a j r).bind fun a'=>k (upd s x a') .next
noncomputable def lS(x:Str)(e:Ex):Sm:=fun β s k=>(s x).bind fun a=>e β s fun d=>zmv a d fun r=>k (upd s x r) .next
def zyr(f:Sc→Stmt→(Sg→Fl→Option D)→Option D)(T:Sc)(l:List Stmt)(b:Sm):Prop:=∀ s k,zfm f (T.at s) l k=b D s k
noncomputable def znV(b:List Stmt)(i:Nat):Stmt:=(b[i]?).getD (.Pass default)
theorem zyr.at{f:Sc→Stmt→(Sg→Fl→Option D)→Option D}{l:List Stmt}(i:Nat){a b:Sm}(e:l.drop i=znV l i::l.drop (i+1))(h:∀ s k,f (T.at s) (znV l i) k=a D s k)(r:zyr f T (l.drop (i+1)) b):zyr f T (l.drop i) (qS a b):=
 fun s k=>e▸(h s _).trans (congrArg (a D s) (funext fun s'=>funext fun q=>congrArg (fun z=>zpH q z (k s' q)) (r s' k)))
theorem zyr.nil{f:Sc→Stmt→(Sg→Fl→Option D)→Option D}:zyr f T [] pS:=fun z z=>rfl
noncomputable def par(ns:List Str)(ds:List D):Sg:=zL ns ds fun z=>none
theorem zzS{s:Sg}{c:Nat}(e:s "self"=some (.obj c fs)):zxz s .next=some (.obj c fs):=by show (match s "self" with|some (.obj c fs)=>some (D.obj c fs)|_=>none)=_;rw [e]
def RS(e:Sm)(s s':Sg)(f:Fl):Prop:=∀ β (k:Sg→Fl→Option β),e β s k=k s' f
end
end
variable {a0 a1 a2:D}
section
set_option maxHeartbeats 8000000
noncomputable def vU:Sm:=qS (aS "l" (jE (vE "left") (vE "index"))) (qS (aS "r" (jE (vE "right") (vE "index"))) (qS (iS (qT .Lt (vE "l") (vE "r")) (rS (mE (vE "direction"))) pS) (iS (qT .Gt (vE "l") (vE "r")) (rS (vE "direction")) pS)))
noncomputable def bh:Sm:=qS (f2S "index" "direction" (xI (aE x0 "comp_select_list" (vE "self"))) vU) (rS (nE 0))
theorem bn{s:Sg}(h:RS bh (par ["self","left","right"] [a0,a1,a2]) s (.ret r)):fnC x0 42 ["self","left","right"] [] [a0,a1,a2]=some r:=(show _=bh D _ _ by kernel_rfl).trans (h D wh)
noncomputable def br:Sm:=qS (t2S "count" "trailing" (aE x1 "norm" (vE "self"))) (rS (CE x1 "max" (cL (oE .Sub (CE x1 "len" (cL (vE "count") nL)) (nE 1)) (cL (vE "trailing") nL))))
theorem zx4{s:Sg}(h:RS br (par ["self"] [a0]) s (.ret r)):fnC x1 101 ["self"] [] [a0]=some r:=(show _=br D _ _ by kernel_rfl).trans (h D wh)
noncomputable def bl:Sm:=aS "il" (oE .Add (vE "il") (oE .Mult (oE .FloorDiv (vE "i") (vE "tabsize")) (jE (vE "count") (vE "i"))))
noncomputable def zzT:Sm:=qS (t2S "count" "trailing" (aE x2 "norm" (vE "self"))) (qS (aS "il" (nE 0)) (qS (f1S "i" (rI (cL (vE "tabsize") (cL (CE x2 "len" (cL (vE "count") nL)) nL))) bl) (rS (oE .Add (vE "trailing") (oE .Mult (vE "tabsize") (oE .Add (vE "il") (aE x2 "nt" (vE "self"))))))))
theorem zu6{s:Sg}(h:RS zzT (par ["self","tabsize"] [a0,a1]) s (.ret r)):fnC x2 108 ["self","tabsize"] [] [a0,a1]=some r:=(show _=zzT D _ _ by kernel_rfl).trans (h D wh)
noncomputable def zx5:Sm:=iS (qT .GtE (ME x3 "indent_level" false (vE "self") (cL (vE "ts") nL)) (ME x3 "indent_level" false (vE "other") (cL (vE "ts") nL))) (rS (cE (.bool false))) pS
noncomputable def zgN:Sm:=qS (iS (qT .GtE (aE x3 "n" (vE "self")) (aE x3 "n" (vE "other"))) (rS (cE (.bool false))) pS) (qS (iS (bT (cB true (eT (aE x3 "is_simple" (vE "self"))) (cB true (eT (aE x3 "is_simple" (vE "other"))) (nB true)))) (rS (qE (qT .LtE (aE x3 "nt" (vE "self")) (aE x3 "nt" (vE "other"))))) pS) (qS (aS "n" (oE .Add (CE x3 "max" (cL (ME x3 "longest_run_of_spaces" false (vE "self") nL) (cL (ME x3 "longest_run_of_spaces" false (vE "other") nL) nL))) (nE 1))) (qS (f1S "ts" (rI (cL (nE 2) (cL (oE .Add (vE "n") (nE 1)) nL))) zx5) (rS (cE (.bool true))))))
theorem zzL{s:Sg}(h:RS zgN (par ["self","other"] [a0,a1]) s (.ret r)):fnC x3 129 ["self","other"] [] [a0,a1]=some r:=(show _=zgN D _ _ by kernel_rfl).trans (h D wh)
noncomputable def bc:Sm:=sS x4 "comp_select_list" "self" (vE "comp_select_list")
theorem zx6{s:Sg}{c:Nat}(h:RS bc (par ["self","comp_select_list"] [.obj 45 [],a0]) s .next)(e:s "self"=some (.obj c fs)):clC x4 35 ["comp_select_list"] ["self"] 45 [a0]=some (.obj c fs):=(show _=bc D _ _ by kernel_rfl).trans ((h D zxz).trans (zzS e))
noncomputable def yh:Sm:=iS (qT .Eq (vE "ch") (vE "S")) (qS (aS "n" (oE .Add (vE "n") (nE 1))) (aS "b" (oE .Add (vE "b") (nE 1)))) (iS (qT .Eq (vE "ch") (vE "T")) (qS (aS "n" (oE .Add (vE "n") (nE 1))) (qS (aS "nt" (oE .Add (vE "nt") (nE 1))) (qS (iS (qT .GtE (vE "b") (wE gx "count")) (oS zx3 "count" (oE .Add (vE "count") (oE .Mult (lE (cL (nE 0) nL)) (oE .Add (oE .Sub (vE "b") (wE gx "count")) (nE 1))))) pS) (qS (xS "count" (vE "b") (oE .Add (jE (vE "count") (vE "b")) (nE 1))) (aS "b" (nE 0)))))) kS)
noncomputable def ba:Sm:=qS (sS x5 "raw" "self" (vE "ws")) (qS (dS ["S","T"] (cL (kE x5 "Whitespace" "S") (cL (kE x5 "Whitespace" "T") nL))) (qS (aS "count" (lE nL)) (qS (a3S "b" "n" "nt" (nE 0)) (qS (f1S "ch" (xI (aE x5 "raw" (vE "self"))) yh) (qS (sS x5 "n" "self" (vE "n")) (qS (sS x5 "nt" "self" (vE "nt")) (qS (sS x5 "norm" "self" (tE (cL (wE xC "count") (cL (vE "b") nL)))) (sS x5 "is_simple" "self" (qE (qT .LtE (wE gx "count") (nE 1)))))))))))
theorem zx7{s:Sg}{c:Nat}(h:RS ba (par ["self","ws"] [.obj 139 [],a0]) s .next)(e:s "self"=some (.obj c fs)):clC x5 94 ["ws"] ["self","count"] 139 [a0]=some (.obj c fs):=(show _=ba D _ _ by kernel_rfl).trans ((h D zxz).trans (zzS e))
noncomputable def zx8:Sm:=xS "new_callers" (vE "func") (vE "caller")
noncomputable def zqS:Sm:=iS (qT .In (vE "func") (vE "new_callers")) (iS (eT (wE (zm4 "tuple") "caller")) (xS "new_callers" (vE "func") (yE "caller" "new_callers" "func")) (wS "new_callers" (vE "func") (vE "caller"))) (xS "new_callers" (vE "func") (vE "caller"))
noncomputable def zgR:Sm:=qS (aS "new_callers" (cE (.dS []))) (qS (f2S "func" "caller" (pI (vE "target")) zx8) (qS (f2S "func" "caller" (pI (vE "source")) zqS) (rS (vE "new_callers"))))
theorem zf9{s:Sg}(h:RS zgR (par ["target","source"] [a0,a1]) s (.ret r)):fnC x7 70 ["target","source"] ["new_callers"] [a0,a1]=some r:=(show _=zgR D _ _ by kernel_rfl).trans (h D wh)
noncomputable def zzC:Sm:=uS "nc" (vE "calls")
noncomputable def zx9:Sm:=qS (aS "nc" (nE 0)) (qS (f1S "calls" (vI (vE "callers")) zzC) (rS (vE "nc")))
theorem zbo{s:Sg}(h:RS zx9 (par ["callers"] [a0]) s (.ret r)):fnC x8 77 ["callers"] [] [a0]=some r:=(show _=zx9 D _ _ by kernel_rfl).trans (h D wh)
noncomputable def zxQ:Sm:=rS (qE (qT .Lt (vE "x") (gE x9 "NT_OFFSET")))
theorem zba{s:Sg}(h:RS zxQ (par ["x"] [a0]) s (.ret r)):fnC x9 153 ["x"] [] [a0]=some r:=(show _=zxQ D _ _ by kernel_rfl).trans (h D wh)
noncomputable def zxZ:Sm:=rS (qE (qT .GtE (vE "x") (gE x10 "NT_OFFSET")))
theorem zbe{s:Sg}(h:RS zxZ (par ["x"] [a0]) s (.ret r)):fnC x10 160 ["x"] [] [a0]=some r:=(show _=zxZ D _ _ by kernel_rfl).trans (h D wh)
noncomputable def zxJ:Sm:=rS (qE (qT .Eq (vE "x") (gE x11 "ENDMARKER")))
theorem zbi{s:Sg}(h:RS zxJ (par ["x"] [a0]) s (.ret r)):fnC x11 167 ["x"] [] [a0]=some r:=(show _=zxJ D _ _ by kernel_rfl).trans (h D wh)
noncomputable def zxY:Sm:=qS (t5S "cc" "nc" "tt" "ct" "callers" (vE "source")) (qS (t5S "t_cc" "t_nc" "t_tt" "t_ct" "t_callers" (vE "target")) (rS (tE (cL (oE .Add (vE "cc") (vE "t_cc")) (cL (oE .Add (vE "nc") (vE "t_nc")) (cL (oE .Add (vE "tt") (vE "t_tt")) (cL (oE .Add (vE "ct") (vE "t_ct")) (cL (CE x12 "add_callers" (cL (vE "t_callers") (cL (vE "callers") nL))) nL))))))))
theorem zb0{s:Sg}(h:RS zxY (par ["target","source"] [a0,a1]) s (.ret r)):fnC x12 63 ["target","source"] [] [a0,a1]=some r:=(show _=zxY D _ _ by kernel_rfl).trans (h D wh)
noncomputable def zqT:Sm:=wS "cells" (oE .Mod (vE "spot") (nE 6)) (oE .Mod (vE "number") (nE 5040))
noncomputable def w7:Sm:=lS "leads" (oE .Add (zE (jE (vE "leads") (nE (-1))) nP (eP (oE .Mod (oE .FloorDiv (vE "cell") (nE 192)) (nE 6))) nP) (jE (lE (cL (sE "") (cL (sE " ") (cL (sE "\t") (cL (sE " \t") nL))))) (oE .Mod (oE .FloorDiv (vE "cell") (nE 48)) (nE 4))))
noncomputable def rp0:Sm:=dS ["cells","leads"] (cL (lE (cL (nE 28) (cL (nE 81) (cL (nE 317) (cL (nE 46) (cL (nE 39) (cL (nE 176) nL))))))) (cL (lE (cL (sE "") nL)) nL))
noncomputable def rp1:Sm:=f2S "spot" "number" (eI (cL (zE (vE "script") nP (eP (nE 60)) nP) nL)) zqT
noncomputable def rp2:Sm:=aS "words" (ME x13 "split" false (sE "( ) [ ] : , ; + - * / | & < > = . % { } == != <= >= ~ ^ << >> ** += -= *= /= %= &= |= ^= <<= >>= **= // //= @ @= -> ... := !") (cL (sE " ") nL))
noncomputable def rp3:Sm:=f1S "cell" (xI (zE (vE "cells") nP (eP (nE 4)) nP)) w7
noncomputable def rp4:Sm:=rS (tE (cL (vE "cells") (cL (zE (vE "leads") (eP (nE 1)) nP nP) (cL (ME x13 "join" false (sE "\n") (cL (LE (f2C "lead" "cell" (zI (cL (zE (vE "leads") (eP (nE 1)) nP nP) (cL (vE "cells") nL))) (mC (oE .Add (oE .Add (vE "lead") (jE (vE "words") (oE .Mod (vE "cell") (nE 48)))) (sE " \tx"))))) nL)) nL))))
noncomputable def zgS:Sm:=qS rp0 (qS rp1 (qS rp2 (qS rp3 rp4)))
theorem zfQ{s:Sg}(h:RS zgS (par ["script"] [a0]) s (.ret r)):fnC x13 172 ["script"] ["cells","leads"] [a0]=some r:=(show _=zgS D _ _ by kernel_rfl).trans (h D wh)
noncomputable def zqL:Sm:=xS "columns" (vE "line") (LE (f2C "spot" "one" (eI (cL (jE (vE "columns") (vE "line")) nL)) (mC (fE (qT .Eq (vE "sign") (sE " ")) (oE .Add (vE "one") (nE 1)) (oE .Add (oE .Add (oE .Sub (vE "one") (oE .Mod (vE "one") (oE .Add (vE "spot") (nE 1)))) (vE "spot")) (nE 1))))))
noncomputable def gP:Sm:=qS (f1S "sign" (xI (vE "lead")) zqL) pS
noncomputable def gB:Sm:=qS (aS "less" (LE (f1C "row" (xI (vE "columns")) (mC (qE (qT .Gt (CE x14 "min" (cL (LE (f2C "one" "two" (zI (cL (jE (vE "columns") (vE "here")) (cL (vE "row") nL))) (mC (oE .Sub (vE "two") (vE "one"))))) nL)) (nE 0))))))) (qS (iS (qT .NotEq (LE (f2C "one" "space" (zI (cL (vE "less") (cL (vE "spaces") nL))) (iC (qT .IsNot (ME x14 "less" false (jE (vE "spaces") (vE "here")) (cL (vE "space") nL)) (vE "one")) (mC (nE 0))))) (lE nL)) (rS (cE .none)) pS) (lS "ends" (oE .Add (oE .Add (vE "here") (nE 1)) (ME x14 "index" false (oE .Add (zE (vE "less") (eP (oE .Add (vE "here") (nE 1))) nP nP) (lE (cL (cE (.bool false)) nL))) (cL (cE (.bool false)) nL)))))
noncomputable def zgT:Sm:=qS (dS ["columns","ends"] (oL (fun z=>true) "columns" (LE (f1C "lead" (xI (vE "leads")) (mC (lE (cL (nE 0) (cL (nE 0) (cL (nE 0) (cL (nE 0) (cL (nE 0) nL))))))))) (cL (lE nL) nL))) (qS (f2S "line" "lead" (eI (cL (vE "leads") nL)) gP) (qS (f1S "here" (rI (cL (nE 4) nL)) gB) (rS (vE "ends"))))
theorem zfZ{s:Sg}(h:RS zgT (par ["leads","spaces"] [a0,a1]) s (.ret r)):fnC x14 177 ["leads","spaces"] ["columns","ends"] [a0,a1]=some r:=(show _=zgT D _ _ by kernel_rfl).trans (h D wh)
noncomputable def xU:Sm:=qS (aS "above" (LE (f1C "line" (rI (cL (vE "here") nL)) (iC (qT .Gt (jE (vE "ends") (vE "line")) (vE "here")) (mC (vE "line")))))) (qS (aS "out" (oE .Add (nE 256) (jE (vE "ends") (vE "here")))) (qS (iS (qT .Eq (jE (vE "ends") (vE "here")) (CE x15 "min" (cL (oE .Add (lE (cL (nE 4) nL)) (LE (f1C "line" (xI (vE "above")) (mC (jE (vE "ends") (vE "line")))))) nL))) (aS "out" (fE (qT .Eq (vE "above") (lE nL)) (nE 0) (fE (qT .Eq (oE .Mod (jE (vE "numbers") (jE (vE "above") (nE (-1)))) (nE 3)) (nE 2)) (oE .Add (nE 256) (jE (vE "above") (nE (-1)))) (jE (vE "after") (jE (vE "above") (nE (-1))))))) pS) (qS (lS "after" (vE "out")) (qS (aS "inner" (fE (qT .Gt (jE (vE "ends") (vE "here")) (oE .Add (vE "here") (nE 1))) (oE .Add (nE 257) (vE "here")) (fE (qT .Eq (oE .Mod (jE (vE "numbers") (vE "here")) (nE 3)) (nE 2)) (oE .Add (nE 256) (vE "here")) (vE "out")))) (xS "rules" (oE .Add (nE 256) (vE "here")) (fE (bT (cB true (qT .NotEq (oE .Mod (jE (vE "numbers") (vE "here")) (nE 3)) (nE 0)) (cB true (qT .NotEq (vE "inner") (vE "out")) (nB true)))) (lE (cL (jE (vE "numbers") (vE "here")) (cL (vE "out") (cL (vE "inner") nL)))) (lE (cL (jE (vE "numbers") (vE "here")) (cL (vE "inner") nL)))))))))
noncomputable def zxK:Sm:=qS (dS ["after","rules"] (cL (lE nL) (oL (fun z=>true) "rules" (dE (cL (nE 0) nL) (cL (lE (cL (nE 256) nL)) nL)) nL))) (qS (f1S "here" (rI (cL (nE 4) nL)) xU) (rS (vE "rules")))
theorem zb1{s:Sg}(h:RS zxK (par ["ends","numbers"] [a0,a1]) s (.ret r)):fnC x15 182 ["ends","numbers"] ["after","rules"] [a0,a1]=some r:=(show _=zxK D _ _ by kernel_rfl).trans (h D wh)
noncomputable def gD:Sm:=iS (bT (cB true (qT .In (vE "tail") (vE "roads")) (cB true (qT .NotIn (vE "head") (vE "roads")) (nB true)))) (xS "roads" (vE "head") (oE .Add (jE (vE "roads") (vE "tail")) (lE (cL (vE "step") nL)))) pS
noncomputable def zxX:Sm:=qS (dS ["arcs","roads"] (cL (LE (f1C "step" (xI (vE "steps")) (f1C "side" (xI (vE "sides")) (mC (fE (qT .Eq (vE "side") (nE 1)) (tE (cL (oE .FloorDiv (vE "step") (nE 512)) (cL (oE .Mod (vE "step") (nE 512)) (cL (vE "step") nL)))) (tE (cL (oE .Mod (vE "step") (nE 512)) (cL (oE .FloorDiv (vE "step") (nE 512)) (cL (mE (vE "step")) nL))))))))) (oL (fun z=>true) "roads" (dE (cL (vE "start") nL) (cL (lE nL) nL)) nL))) (qS (f3S "tail" "head" "step" (xI (oE .Mult (vE "arcs") (nE 4))) gD) (rS (vE "roads")))
theorem zb2{s:Sg}(h:RS zxX (par ["steps","start","sides"] [a0,a1,a2]) s (.ret r)):fnC x16 187 ["steps","start","sides"] ["roads"] [a0,a1,a2]=some r:=(show _=zxX D _ _ by kernel_rfl).trans (h D wh)
noncomputable def zxW:Sm:=qS (aS "ways" (LE (f1C "one" (xI (jE (vE "rules") (vE "here"))) (iC (bT (cB false (eT (CE x17 "ISEOF" (cL (vE "one") nL))) (cB false (eT (CE x17 "ISNONTERMINAL" (cL (vE "one") nL))) (nB false)))) (mC (vE "one")))))) (qS (lS "made" (oE .Add (oE .Mult (nE 512) (vE "here")) (jE (vE "ways") (oE .Mod (vE "turnings") (CE x17 "len" (cL (vE "ways") nL)))))) (qS (dS ["here","turnings"] (cL (oE .Mod (jE (vE "made") (nE (-1))) (nE 512)) (cL (oE .FloorDiv (vE "turnings") (CE x17 "len" (cL (vE "ways") nL))) nL))) (iS (eT (CE x17 "ISEOF" (cL (vE "here") nL))) kS pS)))
noncomputable def zfJ:Sm:=qS (dS ["here","made"] (cL (nE 0) (cL (lE nL) nL))) (qS (f1S "turn" (rI (cL (nE 60) nL)) zxW) (rS (vE "made")))
theorem zm6{s:Sg}(h:RS zfJ (par ["rules","turnings"] [a0,a1]) s (.ret r)):fnC x17 192 ["rules","turnings"] ["made"] [a0,a1]=some r:=(show _=zfJ D _ _ by kernel_rfl).trans (h D wh)
noncomputable def rb0:Sm:=aS "row" (tE (cL (fE (qT .NotEq (vE "tail") (vE "head")) (nE 1) (nE 0)) (cL (nE 1) (cL (jE (vE "times") (vE "head")) (cL (oE .Add (jE (vE "times") (vE "tail")) (jE (vE "times") (vE "head"))) nL)))))
noncomputable def rb1:Sm:=aS "given" (dE (cL (jE (vE "names") (vE "tail")) (cL (oE .Add (jE (vE "names") (vE "tail")) (sE "!")) nL)) (cL (nE 1) (cL (vE "row") nL)))
noncomputable def rb2:Sm:=lS "kept" (tE (cL (vE "given") (cL (lE (cL (tE (cL (jE (vE "names") (vE "tail")) (cL (nE 1) nL))) (cL (tE (cL (oE .Add (jE (vE "names") (vE "tail")) (sE "!")) (cL (vE "row") nL))) nL))) nL)))
noncomputable def rb3:Sm:=xS "book" (jE (vE "names") (vE "head")) (CE x18 "add_func_stats" (cL (ME x18 "get" true (vE "book") (cL (jE (vE "names") (vE "head")) (cL (tE (cL (nE 0) (cL (nE 0) (cL (nE 0) (cL (nE 0) (cL (cE (.dS [])) nL)))))) nL))) (cL (oE .Add (vE "row") (tE (cL (vE "given") nL))) nL)))
noncomputable def rb4:Sm:=lS "kept" (tE (cL (jE (jE (vE "book") (jE (vE "names") (vE "head"))) (nE 4)) (cL (pE (jE (jE (vE "book") (jE (vE "names") (vE "head"))) (nE 4))) nL)))
noncomputable def zqC:Sm:=qS rb0 (qS rb1 (qS rb2 (qS rb3 rb4)))
noncomputable def zgL:Sm:=qS (dS ["book","kept"] (cL (cE (.dS [])) (cL (lE nL) nL))) (qS (f2S "tail" "head" (xI (LE (f1C "step" (xI (vE "made")) (mC (CE x18 "divmod" (cL (vE "step") (cL (nE 512) nL))))))) zqC) (rS (fE (qT .Eq (oE .Add (LE (f2C "one" "many" (xI (vE "kept")) (iC (qT .NotEq (pE (vE "one")) (vE "many")) (mC (vE "many"))))) (LE (f1C "row" (vI (vE "book")) (f1C "one" (xI (zE (vE "row") nP (eP (nE 4)) nP)) (iC (nT (eT (wE (zm4 "int") "one"))) (mC (vE "one"))))))) (lE nL)) (vE "book") (cE (.dS [])))))
theorem zfY{s:Sg}(h:RS zgL (par ["names","times","made"] [a0,a1,a2]) s (.ret r)):fnC x18 197 ["names","times","made"] ["book","kept"] [a0,a1,a2]=some r:=(show _=zgL D _ _ by kernel_rfl).trans (h D wh)
noncomputable def rd0:Sm:=aS "rows" (LE (f1C "step" (xI (vE "steps")) (iC (qT .Eq (oE .Mod (vE "step") (nE 512)) (vE "node")) (mC (tE (cL (oE .FloorDiv (vE "step") (nE 512)) (cL (oE .Add (oE .Sub (CE x19 "len" (cL (LE (f1C "one" (xI (vE "made")) (iC (qT .Eq (vE "one") (vE "step")) (mC (vE "one"))))) nL)) (CE x19 "len" (cL (LE (f1C "one" (xI (vE "ring")) (iC (qT .Eq (vE "one") (vE "step")) (mC (vE "one"))))) nL))) (CE x19 "len" (cL (LE (f1C "one" (xI (vE "ring")) (iC (qT .Eq (vE "one") (mE (vE "step"))) (mC (vE "one"))))) nL))) nL)))))))
noncomputable def rd1:Sm:=aS "rows" (LE (f2C "tail" "many" (xI (vE "rows")) (iC (qT .Gt (vE "many") (nE 0)) (mC (tE (cL (jE (vE "names") (vE "tail")) (cL (tE (cL (fE (qT .NotEq (vE "tail") (vE "node")) (vE "many") (nE 0)) (cL (vE "many") (cL (oE .Mult (vE "many") (jE (vE "times") (vE "node"))) (cL (oE .Mult (vE "many") (oE .Add (jE (vE "times") (vE "tail")) (jE (vE "times") (vE "node")))) nL))))) nL)))))))
noncomputable def rd2:Sm:=iS (qT .NotEq (vE "rows") (lE nL)) (qS (aS "callers" (DE (f2C "name" "row" (xI (vE "rows")) (f2C "key" "what" (xI (tE (cL (tE (cL (vE "name") (cL (jE (vE "row") (nE 1)) nL))) (cL (tE (cL (oE .Add (vE "name") (sE "!")) (cL (vE "row") nL))) nL)))) (kC (vE "key") (vE "what")))))) (xS "due" (jE (vE "names") (vE "node")) (oE .Add (CE x19 "tuple" (cL (LE (f1C "spot" (rI (cL (nE 4) nL)) (mC (CE x19 "sum" (cL (LE (f1C "row" (xI (vE "rows")) (mC (jE (jE (vE "row") (nE 1)) (vE "spot"))))) nL))))) nL)) (tE (cL (vE "callers") nL))))) pS
noncomputable def zgC:Sm:=qS rd0 (qS rd1 rd2)
noncomputable def zfK:Sm:=qS (aS "due" (cE (.dS []))) (qS (f1S "node" (xI (vE "names")) zgC) (rS (vE "due")))
theorem zm7{a3 a4:D}{s:Sg}(h:RS zfK (par ["names","times","steps","made","ring"] [a0,a1,a2,a3,a4]) s (.ret r)):fnC x19 202 ["names","times","steps","made","ring"] ["due"] [a0,a1,a2,a3,a4]=some r:=(show _=zfK D _ _ by kernel_rfl).trans (h D wh)
noncomputable def zqO:Sm:=qS (aS "seen" (ME x20 "get" false (jE (ME x20 "get" false (vE "book") (cL (jE (vE "names") (vE "head")) (cL (tE (cL (nE 0) (cL (nE 0) (cL (nE 0) (cL (nE 0) (cL (cE (.dS [])) nL)))))) nL))) (nE 4)) (cL (jE (vE "names") (vE "tail")) (cL (nE 0) nL)))) (aS "flow" (CE x20 "add_callers" (cL (vE "flow") (cL (dE (cL (jE (vE "names") (vE "tail")) nL) (cL (fE (qT .In (vE "tail") (vE "inside")) (vE "seen") (mE (vE "seen"))) nL)) nL))))
noncomputable def zgO:Sm:=qS (aS "flow" (cE (.dS []))) (qS (f2S "tail" "head" (xI (LE (f1C "step" (xI (vE "counters")) (iC (qT .NotEq (qE (qT .In (oE .FloorDiv (vE "step") (nE 512)) (vE "inside"))) (qE (qT .In (oE .Mod (vE "step") (nE 512)) (vE "inside")))) (mC (CE x20 "divmod" (cL (vE "step") (cL (nE 512) nL)))))))) zqO) (rS (LE (f1C "sign" (xI (tE (cL (nE 1) (cL (nE (-1)) nL)))) (mC (CE x20 "str" (cL (CE x20 "count_calls" (cL (DE (f2C "name" "many" (pI (vE "flow")) (kC (vE "name") (oE .Mult (vE "sign") (vE "many"))))) nL)) nL)))))))
theorem zfX{a3:D}{s:Sg}(h:RS zgO (par ["names","book","counters","inside"] [a0,a1,a2,a3]) s (.ret r)):fnC x20 207 ["names","book","counters","inside"] [] [a0,a1,a2,a3]=some r:=(show _=zgO D _ _ by kernel_rfl).trans (h D wh)
noncomputable def gF:Sm:=qS (dS ["along","past"] (cL (oE .Add (oE .Add (jE (vE "there") (vE "tail")) (lE (cL (CE x21 "abs" (cL (vE "step") nL)) nL))) (zE (LE (f1C "one" (xI (jE (vE "home") (vE "head"))) (mC (mE (vE "one"))))) nP nP (eP (nE (-1))))) (cL (oE .Add (jE (vE "there") (vE "tail")) (zE (LE (f1C "one" (xI (jE (vE "home") (vE "tail"))) (mC (mE (vE "one"))))) nP nP (eP (nE (-1))))) nL))) (aS "made" (lE (cL (oE .Add (jE (vE "made") (nE 0)) (fE (qT .Gt (vE "step") (nE 0)) (vE "along") (vE "past"))) (cL (oE .Add (jE (vE "made") (nE 1)) (fE (qT .Gt (vE "step") (nE 0)) (vE "past") (vE "along"))) nL))))
noncomputable def zxV:Sm:=qS (dS ["there","home","made"] (cL (CE x21 "_law_roads" (cL (vE "steps") (cL (nE 0) (cL (tE (cL (nE 1) nL)) nL)))) (cL (CE x21 "_law_roads" (cL (vE "steps") (cL (nE 0) (cL (tE (cL (nE (-1)) nL)) nL)))) (cL (lE (cL (lE nL) (cL (lE nL) nL))) nL)))) (qS (f3S "step" "tail" "head" (xI (LE (f1C "step" (xI (vE "ring")) (mC (tE (cL (vE "step") (cL (oE .FloorDiv (CE x21 "abs" (cL (vE "step") nL)) (nE 512)) (cL (oE .Mod (CE x21 "abs" (cL (vE "step") nL)) (nE 512)) nL)))))))) gF) (rS (qE (qT .Eq (LE (f1C "one" (xI (vE "made")) (mC (CE x21 "_law_book" (cL (vE "names") (cL (vE "times") (cL (vE "one") nL))))))) (LE (f1C "one" (xI (tE (cL (lE nL) (cL (vE "ring") nL)))) (mC (CE x21 "_law_due" (cL (vE "names") (cL (vE "times") (cL (vE "steps") (cL (jE (vE "made") (nE 0)) (cL (vE "one") nL)))))))))))))
theorem zb3{a3:D}{s:Sg}(h:RS zxV (par ["names","times","steps","ring"] [a0,a1,a2,a3]) s (.ret r)):fnC x21 212 ["names","times","steps","ring"] [] [a0,a1,a2,a3]=some r:=(show _=zxV D _ _ by kernel_rfl).trans (h D wh)
noncomputable def zxU:Sm:=aS "bare" (fE (qT .NotIn (oE .Mod (vE "step") (nE 512)) (CE x22 "_law_roads" (cL (vE "bare") (cL (oE .FloorDiv (vE "step") (nE 512)) (cL (tE (cL (nE 1) (cL (nE (-1)) nL))) nL))))) (oE .Add (vE "bare") (lE (cL (vE "step") nL))) (vE "bare"))
noncomputable def zxG:Sm:=qS (aS "inside" (CE x22 "_law_roads" (cL (LE (f1C "one" (xI (vE "bare")) (iC (qT .NotEq (vE "one") (vE "step")) (mC (vE "one"))))) (cL (oE .Mod (vE "step") (nE 512)) (cL (tE (cL (nE 1) (cL (nE (-1)) nL))) nL))))) (qS (iS (bT (cB true (qT .NotIn (oE .FloorDiv (vE "step") (nE 512)) (vE "inside")) (cB true (qT .NotEq (CE x22 "_law_told" (cL (vE "names") (cL (vE "book") (cL (LE (f1C "one" (xI (vE "steps")) (iC (qT .NotIn (vE "one") (vE "bare")) (mC (vE "one"))))) (cL (vE "inside") nL))))) (LE (f1C "sign" (xI (tE (cL (nE 1) (cL (nE (-1)) nL)))) (mC (CE x22 "str" (cL (oE .Mult (vE "sign") (jE (jE (vE "rows") (ME x22 "index" false (vE "steps") (cL (vE "step") nL))) (nE 0))) nL)))))) (nB true)))) (rS (cE (.bool false))) pS) (iS (bT (cB true (qT .In (oE .FloorDiv (vE "step") (nE 512)) (vE "inside")) (cB true (qT .NotIn (vE "step") (vE "shown")) (nB true)))) (qS (aS "shown" (oE .Add (vE "shown") (LE (f1C "one" (xI (oE .Add (lE (cL (vE "step") nL)) (jE (vE "inside") (oE .FloorDiv (vE "step") (nE 512))))) (mC (CE x22 "abs" (cL (vE "one") nL))))))) (iS (nT (eT (CE x22 "_law_alike" (cL (vE "names") (cL (vE "times") (cL (vE "steps") (cL (oE .Add (lE (cL (vE "step") nL)) (jE (vE "inside") (oE .FloorDiv (vE "step") (nE 512)))) nL))))))) (rS (cE (.bool false))) pS)) pS))
noncomputable def rl0:Sm:=t3S "cells" "leads" "page" (CE x22 "_law_page" (cL (vE "script") nL))
noncomputable def rl1:Sm:=aS "spaces" (LE (f1C "line" (xI (ME x22 "split" false (vE "page") (cL (sE "\n") nL))) (mC (CE x22 "Whitespace" (cL (vE "line") nL)))))
noncomputable def rl2:Sm:=aS "heads" (LE (f1C "space" (xI (vE "spaces")) (mC (LE (f1C "size" (xI (tE (cL (nE 3) (cL (nE 2) (cL (nE 1) nL))))) (mC (zE (aE x22 "raw" (vE "space")) (eP (aE x22 "n" (vE "space"))) (eP (oE .Add (aE x22 "n" (vE "space")) (vE "size"))) nP)))))))
noncomputable def rl3:Sm:=aS "numbers" (LE (f1C "row" (xI (vE "heads")) (mC (jE (oE .Add (LE (f1C "head" (xI (vE "row")) (iC (qT .In (vE "head") (gE x22 "EXACT_TOKEN_TYPES")) (mC (jE (gE x22 "EXACT_TOKEN_TYPES") (vE "head")))))) (lE (cL (nE 0) nL))) (nE 0)))))
noncomputable def rl4:Sm:=aS "ends" (CE x22 "_law_ends" (cL (vE "leads") (cL (vE "spaces") nL)))
noncomputable def rl5:Sm:=dS ["file","name","short"] (cL (jE (sE "p~") (oE .Mod (jE (vE "cells") (nE 4)) (nE 2))) (cL (jE (lE (cL (sE "f") (cL (sE "<f") (cL (sE "f>") (cL (sE "<f>") nL))))) (oE .Mod (oE .FloorDiv (jE (vE "cells") (nE 4)) (nE 2)) (nE 4))) (cL (jE (lE (cL (sE "f") (cL (sE "<f") (cL (sE "f>") (cL (sE "{f}") nL))))) (oE .Mod (oE .FloorDiv (jE (vE "cells") (nE 4)) (nE 2)) (nE 4))) nL)))
noncomputable def rl6:Sm:=aS "names" (DE (f1C "node" (xI (tE (cL (nE 0) (cL (nE 256) (cL (nE 257) (cL (nE 258) (cL (nE 259) nL))))))) (kC (vE "node") (CE x22 "func_std_string" (cL (tE (cL (vE "file") (cL (vE "node") (cL (vE "name") nL)))) nL)))))
noncomputable def rl7:Sm:=aS "judged" (LE (f1C "one" (xI (oE .Add (lE (cL (nE (-1)) (cL (nE 0) (cL (nE 255) (cL (nE 256) (cL (nE 257) (cL (nE 258) (cL (nE 259) nL)))))))) (vE "numbers"))) (iC (bT (cB true (qT .Is (CE x22 "ISTERMINAL" (cL (vE "one") nL)) (qE (qT .Lt (vE "one") (nE 256)))) (cB true (qT .Is (CE x22 "ISNONTERMINAL" (cL (vE "one") nL)) (qE (qT .Gt (vE "one") (nE 255)))) (cB true (qT .Is (CE x22 "ISEOF" (cL (vE "one") nL)) (qE (qT .Eq (vE "one") (nE 0)))) (nB true))))) (mC (vE "one")))))
noncomputable def rl8:Sm:=aS "judged" (oE .Add (vE "judged") (LE (f1C "node" (xI (vE "names")) (iC (qT .Eq (jE (vE "names") (vE "node")) (fE (bT (cB true (qT .Eq (vE "node") (nE 0)) (cB true (qT .Eq (vE "file") (sE "~")) (nB true)))) (vE "short") (oE .Add (oE .Add (oE .Add (oE .Add (oE .Add (vE "file") (sE ":")) (CE x22 "str" (cL (vE "node") nL))) (sE "(")) (vE "name")) (sE ")")))) (mC (vE "node"))))))
noncomputable def rl9:Sm:=iS (bT (cB false (qT .Is (vE "ends") (cE .none)) (cB false (qT .NotEq (vE "numbers") (LE (f1C "cell" (xI (zE (vE "cells") nP (eP (nE 4)) nP)) (mC (oE .Add (nE 7) (oE .Mod (vE "cell") (nE 48))))))) (cB false (qT .NotEq (CE x22 "len" (cL (vE "judged") nL)) (nE 16)) (nB false))))) (rS (cE (.bool false))) pS
noncomputable def zm8:Sm:=aS "rules" (CE x22 "_law_rules" (cL (vE "ends") (cL (vE "numbers") nL)))
noncomputable def zm9:Sm:=aS "times" (DE (f1C "node" (xI (vE "rules")) (kC (vE "node") (CE x22 "sum" (cL (LE (f1C "one" (xI (jE (vE "rules") (vE "node"))) (iC (bT (cB true (eT (CE x22 "ISTERMINAL" (cL (vE "one") nL))) (cB true (nT (eT (CE x22 "ISEOF" (cL (vE "one") nL)))) (nB true)))) (mC (vE "one"))))) nL)))))
noncomputable def zmQ:Sm:=aS "steps" (LE (f1C "node" (xI (vE "rules")) (f1C "way" (xI (jE (vE "rules") (vE "node"))) (iC (bT (cB false (eT (CE x22 "ISEOF" (cL (vE "way") nL))) (cB false (eT (CE x22 "ISNONTERMINAL" (cL (vE "way") nL))) (nB false)))) (mC (oE .Add (oE .Mult (nE 512) (vE "node")) (vE "way")))))))
noncomputable def zmZ:Sm:=aS "made" (LE (f1C "part" (xI (tE (cL (nE 1) (cL (nE 16) (cL (nE 256) nL))))) (f1C "step" (xI (CE x22 "_law_run" (cL (vE "rules") (cL (oE .Mod (oE .FloorDiv (jE (vE "cells") (nE 4)) (vE "part")) (nE 16)) nL)))) (mC (vE "step")))))
noncomputable def zmJ:Sm:=aS "book" (CE x22 "_law_book" (cL (vE "names") (cL (vE "times") (cL (vE "made") nL))))
noncomputable def zmY:Sm:=aS "rows" (LE (f2C "spot" "step" (eI (cL (vE "steps") nL)) (mC (tE (cL (CE x22 "len" (cL (LE (f1C "one" (xI (vE "made")) (iC (qT .Eq (vE "one") (vE "step")) (mC (vE "one"))))) nL)) (cL (vE "spot") nL))))))
noncomputable def zmK:Sm:=dS ["many","tie","bare"] (cL (oE .Sub (oE .Mult (nE 2) (oE .Mod (jE (vE "cells") (nE 5)) (nE 2))) (nE 1)) (cL (oE .Sub (nE 1) (oE .Mult (nE 2) (oE .Mod (oE .FloorDiv (jE (vE "cells") (nE 5)) (nE 2)) (nE 2)))) (cL (lE nL) nL)))
noncomputable def zmX:Sm:=dS ["comp","keys"] (cL (CE x22 "TupleComp" (cL (lE (cL (tE (cL (nE 0) (cL (vE "many") nL))) (cL (tE (cL (nE 1) (cL (vE "tie") nL))) nL))) nL)) (cL (LE (f1C "row" (xI (vE "rows")) (mC (tE (cL (oE .Mult (vE "many") (jE (vE "row") (nE 0))) (cL (oE .Mult (vE "tie") (jE (vE "row") (nE 1))) nL)))))) nL))
noncomputable def zmW:Sm:=aS "signs" (LE (f1C "row" (xI (vE "rows")) (mC (LE (f1C "other" (xI (vE "rows")) (mC (CE x22 "str" (cL (ME x22 "compare" false (vE "comp") (cL (vE "other") (cL (vE "row") nL))) nL))))))))
noncomputable def zmV:Sm:=aS "free" (LE (f2C "step" "row" (zI (cL (vE "steps") (cL (vE "signs") nL))) (iC (qT .NotIn (oE .Mod (vE "step") (nE 512)) (CE x22 "_law_roads" (cL (LE (f2C "one" "sign" (zI (cL (vE "steps") (cL (vE "row") nL))) (iC (qT .Eq (vE "sign") (sE "-1")) (mC (vE "one"))))) (cL (oE .FloorDiv (vE "step") (nE 512)) (cL (tE (cL (nE 1) (cL (nE (-1)) nL))) nL))))) (mC (vE "step")))))
noncomputable def zmU:Sm:=f1S "step" (xI (LE (f1C "key" (xI (CE x22 "sorted" (cL (vE "keys") nL))) (mC (jE (vE "steps") (oE .Mult (vE "tie") (jE (vE "key") (nE 1)))))))) zxU
noncomputable def zmG:Sm:=aS "due" (LE (f1C "key" (xI (vE "keys")) (mC (LE (f1C "other" (xI (vE "keys")) (mC (fE (qT .Lt (vE "other") (vE "key")) (sE "-1") (fE (qT .Gt (vE "other") (vE "key")) (sE "1") (sE "0")))))))))
noncomputable def zmP:Sm:=iS (bT (cB false (qT .NotEq (vE "signs") (vE "due")) (cB false (qT .NotEq (vE "book") (CE x22 "_law_due" (cL (vE "names") (cL (vE "times") (cL (vE "steps") (cL (vE "made") (cL (lE nL) nL))))))) (cB false (qT .NotEq (CE x22 "sorted" (cL (vE "bare") nL)) (CE x22 "sorted" (cL (vE "free") nL))) (nB false))))) (rS (cE (.bool false))) pS
noncomputable def zmB:Sm:=dS ["bare","shown"] (cL (LE (f2C "spot" "step" (eI (cL (vE "steps") nL)) (iC (qT .Eq (qE (qT .In (vE "step") (vE "free"))) (qE (qT .Eq (oE .Mod (oE .FloorDiv (oE .FloorDiv (jE (vE "cells") (nE 5)) (nE 4)) (oE .Pow (nE 2) (vE "spot"))) (nE 2)) (nE 0)))) (mC (vE "step"))))) (cL (lE nL) nL))
noncomputable def zmD:Sm:=f1S "step" (xI (vE "bare")) zxG
noncomputable def znU:Sm:=rS (cE (.bool true))
noncomputable def zfW:Sm:=qS rl0 (qS rl1 (qS rl2 (qS rl3 (qS rl4 (qS rl5 (qS rl6 (qS rl7 (qS rl8 (qS rl9 (qS zm8 (qS zm9 (qS zmQ (qS zmZ (qS zmJ (qS zmY (qS zmK (qS zmX (qS zmW (qS zmV (qS zmU (qS zmG (qS zmP (qS zmB (qS zmD (qS znU pS)))))))))))))))))))))))))
theorem zb4:zyr (fun T st k=>zzU (evK 13) T (exK (evK 13) 7) st k) ⟨x22,[],(qK (KK P) 217).scope,par ["script"] []⟩ ((zP (KK P) 217).drop 0) zfW:=(.at 0 (by kernel_rfl) (fun z z=>by kernel_rfl) (.at 1 (by kernel_rfl) (fun z z=>by kernel_rfl) (.at 2 (by kernel_rfl) (fun z z=>by kernel_rfl) (.at 3 (by kernel_rfl) (fun z z=>by kernel_rfl) (.at 4 (by kernel_rfl) (fun z z=>by kernel_rfl) (.at 5 (by kernel_rfl) (fun z z=>by kernel_rfl) (.at 6 (by kernel_rfl) (fun z z=>by kernel_rfl) (.at 7 (by kernel_rfl) (fun z z=>by kernel_rfl) (.at 8 (by kernel_rfl) (fun z z=>by kernel_rfl) (.at 9 (by kernel_rfl) (fun z z=>by kernel_rfl) (.at 10 (by kernel_rfl) (fun z z=>by kernel_rfl) (.at 11 (by kernel_rfl) (fun z z=>by kernel_rfl) (.at 12 (by kernel_rfl) (fun z z=>by kernel_rfl) (.at 13 (by kernel_rfl) (fun z z=>by kernel_rfl) (.at 14 (by kernel_rfl) (fun z z=>by kernel_rfl) (.at 15 (by kernel_rfl) (fun z z=>by kernel_rfl) (.at 16 (by kernel_rfl) (fun z z=>by kernel_rfl) (.at 17 (by kernel_rfl) (fun z z=>by kernel_rfl) (.at 18 (by kernel_rfl) (fun z z=>by kernel_rfl) (.at 19 (by kernel_rfl) (fun z z=>by kernel_rfl) (.at 20 (by kernel_rfl) (fun z z=>by kernel_rfl) (.at 21 (by kernel_rfl) (fun z z=>by kernel_rfl) (.at 22 (by kernel_rfl) (fun z z=>by kernel_rfl) (.at 23 (by kernel_rfl) (fun z z=>by kernel_rfl) (.at 24 (by kernel_rfl) (fun z z=>by kernel_rfl) (.at 25 (by kernel_rfl) (fun z z=>by kernel_rfl) .nil))))))))))))))))))))))))))
theorem zmF{s:Sg}(h:RS zfW (par ["script"] [a0]) s (.ret r)):fnC x22 217 ["script"] [] [a0]=some r:=(show _=zfm (fun T st k=>zzU (evK 13) T (exK (evK 13) 7) st k) (Sc.at ⟨x22,[],(qK (KK P) 217).scope,par ["script"] []⟩ (par ["script"] [a0])) ((zP (KK P) 217).drop 0) wh by kernel_rfl).trans ((zb4 _ _).trans (h D wh))
end
end
section
def Rn(e:Ex)(s:Sg)(d:D):Prop:=∀ β (k:D→Option β),e β s k=k d
def RT(e:Ts)(s:Sg)(d:Bool):Prop:=∀ β (k:Bool→Option β),e β s k=k d
def RL(e:Ls)(s:Sg)(d:List D):Prop:=∀ β (k:List D→Option β),e β s k=k d
def RP(e:Pt)(s:Sg)(d:Option Int):Prop:=∀ β (k:Option Int→Option β),e β s k=k d
def RC{α:Type}(c:Cm α)(s:Sg)(l:List α):Prop:=c s=some l
def RB(c:Bs)(s:Sg)(b:Bool):Prop:=c s=some b
section
variable {J:Cx} {s s' s₁:Sg} {x y z n:Str} {a b e:Ex} {c d r u v:D} {t t':Ts} {p q:Bool} {i m:Ls} {l l':List D} {pa pb pc:Pt} {o o' o'':Option Int} {bs:Bs}
theorem bK{α β:Type}{f:Option α}{g:α}{k:α→Option β}(h:f=some g):f.bind k=k g:=congrArg (·.bind k) h
theorem Rn.V(h:s x=some d):Rn (vE x) s d:=fun z z=>bK h
theorem Rn.C:Rn (cE d) s d:=fun z z=>rfl
theorem Rn.G(h:J.glob x=some d):Rn (gE J x) s d:=fun z z=>bK h
theorem Rn.K(h:J.attr x y=some d):Rn (kE J x y) s d:=fun z z=>bK h
theorem Rn.O{op:Operator}(h1:Rn a s c)(h2:Rn b s d)(h:yQ op c d=some r):Rn (oE op a b) s r:=fun β z=>(h1 β _).trans ((h2 β _).trans (bK h))
theorem Rn.M{j:Int}(h:Rn a s (.int j)):Rn (mE a) s (.int (-j)):=fun β z=>h β _
theorem Rn.F(h1:RT t s p)(h2:p=true→Rn a s d)(h3:p=false→Rn b s d):Rn (fE t a b) s d:=fun z k=>congrArg (·.bind k) ((h1 D fun c=>if c=true then a D s some else b D s some).trans (match p,h2,h3 with
 |true,h,_=>h rfl D some
 |false,_,h=>h rfl D some))
theorem RL.N:RL nL s []:=fun z z=>rfl
theorem RL.C(h1:Rn a s d)(h2:RL i s l):RL (cL a i) s (d::l):=fun β z=>(h1 β _).trans (h2 β _)
theorem RL.O{f:D→Bool}(h1:Rn a s d)(h:true=true∧(f d=true∧jj d=true∧x≠qb))(h2:RL i s l):RL (oL f x a i) s (d::l):=fun β z=>(h1 β _).trans ((if_pos h).trans (h2 β _))
theorem Rn.Di(h1:RL i s l)(h2:RL m s l')(h:qV (l.zip l')=some d):Rn (dE i m) s d:=fun β z=>(h1 β _).trans ((h2 β _).trans (bK h))
theorem Rn.L(h:RL i s l):Rn (lE i) s (.list l):=fun β z=>h β _
theorem Rn.T(h:RL i s l):Rn (tE i) s (.tup l):=fun β z=>h β _
theorem Rn.Q(h:RT t s p):Rn (qE t) s (.bool p):=fun β z=>h β _
theorem Rn.I(h1:Rn a s c)(h2:Rn b s d)(h:zY c d=some r):Rn (jE a b) s r:=fun β z=>(h1 β _).trans ((h2 β _).trans (bK h))
theorem RP.N:RP nP s none:=fun z z=>rfl
theorem RP.E(h1:Rn a s c)(h:kJ c=some o):RP (eP a) s o:=fun β z=>(h1 β _).trans (bK h)
theorem Rn.Z(h1:Rn a s c)(h2:RP pa s o)(h3:RP pb s o')(h4:RP pc s o'')(h:jU c o o' o''=some r):Rn (zE a pa pb pc) s r:=fun β z=>(h1 β _).trans ((h2 β _).trans ((h3 β _).trans ((h4 β _).trans (bK h))))
theorem Rn.A{j:Nat}{fs:List (Str × D)}(h1:Rn a s (.obj j fs))(h:J.fld j x=true)(h2:fs.lookup x=some d):Rn (aE J x a) s d:=fun β z=>(h1 β _).trans ((if_pos h).trans (bK h2))
theorem Rn.P(h1:Rn a s c)(h:jD c=some l)(hl:l.length≤zz):Rn (pE a) s (.list l):=fun β z=>(h1 β _).trans ((bK h).trans (if_pos hl))
theorem Rn.W{f:D→Option D}(h1:s x=some c)(h:f c=some d):Rn (wE f x) s d:=fun z z=>bK (congrArg orS ((bK h1).trans h))
theorem Rn.Y(h1:s x=some u)(h2:s y=some v)(h3:s z=some c)(h4:zY v c=some d)(h:zgB u d=some r):Rn (yE x y z) s r:=fun t t=>bK ((congrArg (·.bind zfi) ((bK h1).trans ((bK h2).trans ((bK h3).trans (bK h4))))).trans h)
theorem Rn.E(h1:RL i s l)(h:J.call x l=some d):Rn (CE J x i) s d:=fun β z=>(h1 β _).trans (bK h)
theorem bI{α:Type}{a:Option α}{r:α}(h:a.bind some=some r):a=some r:=match a,h with
 |some _,h=>h
theorem zu7{β:Type}{k:D→Option β}(h:yC J x p d l some=some r):yC J x p d l k=k r:=
 have go (h:(if (y0 x d).isSome=true then (jP x d l).bind some else none)=some r):(if (y0 x d).isSome=true then (jP x d l).bind k else none)=k r:=X02 (zk h) fun h1 h=>(if_pos h1).trans (bK (bI h))
 by cases d with
 |obj j fs=>exact match p,h with
  |true,h=>zq h
  |false,h=>bK (bI (a:=J.meth x (.obj j fs) l) h)
 |_=>exact go h
theorem Rn.H(h1:Rn a s c)(h2:RL i s l)(h:yC J x p c l some=some d):Rn (ME J x p a i) s d:=fun β z=>(h1 β _).trans ((h2 β _).trans (zu7 h))
theorem Rn.lc{c:Cm D}(h:RC c s l)(hl:l.length≤zz):Rn (LE c) s (.list l):=fun z z=>(bK h).trans (if_pos hl)
theorem Rn.dc{c:Cm (D × D)}{l:List (D × D)}(h:RC c s l)(hl:l.length≤zz)(hd:qV l=some d):Rn (DE c) s d:=fun z z=>(bK h).trans ((if_pos hl).trans (bK hd))
theorem RT.N(h:RT t s p):RT (nT t) s (!p):=fun β z=>h β _
theorem RT.Q{op:CmpOp}(h1:Rn a s c)(h2:Rn b s d)(h:xJ op c d=some p):RT (qT op a b) s p:=fun β z=>(h1 β _).trans ((h2 β _).trans (bK h))
theorem RT.E(h:Rn a s (.bool p)):RT (eT a) s p:=fun β z=>h β _
theorem RT.B(h:RB bs s p):RT (bT bs) s p:=fun z z=>bK h
theorem RB.N:RB (nB p) s p:=rfl
theorem RB.A(h1:RT t s p)(h2:p=true→RB bs s q):RB (cB true t bs) s (p&&q):=(h1 _ _).trans (match p,h2 with
 |true,h=>h rfl
 |false,_=>rfl)
theorem RB.O(h1:RT t s p)(h2:p=false→RB bs s q):RB (cB false t bs) s (p||q):=(h1 _ _).trans (match p,h2 with
 |true,_=>rfl
 |false,h=>h rfl)
theorem RL.R{j:Int}(h1:RL i s [.int j])(h:zO j=true):RL (rI i) s (jl 0 j):=fun β z=>(h1 β _).trans (if_pos h)
theorem RL.R2{j k:Int}(h1:RL i s [.int j,.int k])(h:zO j=true∧zO k=true):RL (rI i) s (jl j k):=fun β z=>(h1 β _).trans (if_pos h)
theorem RL.E(h1:Rn a s (.list l)):RL (eI (cL a nL)) s (yJ l):=fun β z=>h1 β _
theorem RL.Z(h1:Rn a s (.list l))(h2:Rn b s (.list l')):RL (zI (cL a (cL b nL))) s (zqf l l'):=fun β z=>(h1 β _).trans (h2 β _)
theorem RL.P(h1:Rn a s d)(h:jD d=some l):RL (pI a) s l:=fun β z=>(h1 β _).trans (bK h)
theorem RL.V(h1:Rn a s d)(h:zz3 d=some l):RL (vI a) s l:=fun β z=>(h1 β _).trans (bK h)
theorem RL.X(h1:Rn a s d)(h:jB d=some l):RL (xI a) s l:=fun β z=>(h1 β _).trans (bK h)
end
section
variable {s:Sg} {x:Str} {a b:Ex} {t:Ts} {i:Ls} {α β:Type} {B:Tg} {emb:β→D} {bd:β→Sg} {n:List β} {f:Cm α} {g:β→List α} {p:β→Bool} {ds:List D}
theorem w8{γ:Type}{g:D→Option (List γ)}{r:β→List γ}:∀ {l:List β},(∀ a∈l,g (emb a)=some (r a))→yc g (l.map emb)=some (l.flatMap r)
 |[],_=>rfl
 |a::l,h=>(congrArg (Option.bind · fun b=>(yc g (l.map emb)).map (b++ ·)) (h a (mem_cons_self ..))).trans ((congrArg (Option.map (r a++ ·)) (w8 fun b m=>h b (mem_cons_of_mem _ m))).trans (congrArg some flatMap_cons.symm))
theorem jd{β γ:Type}{g:β→γ}(l:List β):(l.flatMap fun a=>[g a])=l.map g:=by induction l<;>simp_all
theorem vg{β γ:Type}{p:β→Bool}{g:β→γ}(l:List β):(l.flatMap fun a=>if p a=true then [g a] else [])=(l.filter p).map g:=by
 induction l with
 |nil=>rfl
 |cons a l ih=>simp only [flatMap_cons,ih,filter_cons];split<;>simp
theorem RC.M{d:D}(h:Rn a s d):RC (mC a) s [d]:=h _ _
theorem RC.K{c d:D}(h:Rn a s c)(h2:Rn b s d):RC (kC a b) s [(c,d)]:=(h _ _).trans (h2 _ _)
theorem RC.I{l:List α}{c:Bool}(h:RT t s c)(h2:c=true→RC f s l):RC (iC t f) s (if c=true then l else []):=(h _ _).trans (match c,h2 with
 |true,h=>h rfl
 |false,_=>rfl)
theorem RC.N(h:RT t s false):RC (iC t f) s []:=h _ _
theorem RC.T{l:List α}(h:RT t s true)(h2:RC f s l):RC (iC t f) s l:=(h _ _).trans h2
theorem RC.F(h:RL i s (n.map emb))(hb:∀ z γ k,B γ s (emb z) k=k (bd z))(h1:∀ z∈n,RC f (bd z) (g z)):RC (fC B i f) s (n.flatMap g):=(h _ _).trans (w8 fun z m=>(hb z _ _).trans (h1 z m))
theorem RC.FM{g:β→D}(h:RL i s (n.map emb))(hb:∀ z γ k,B γ s (emb z) k=k (bd z))(h1:∀ z∈n,Rn a (bd z) (g z)):RC (fC B i (mC a)) s (n.map g):=rwL (P:=RC (fC B i (mC a)) s) (jd n) (.F h hb fun z m=>.M (h1 z m))
theorem RC.FK{g k:β→D}(h:RL i s (n.map emb))(hb:∀ z γ k,B γ s (emb z) k=k (bd z))(h1:∀ z∈n,Rn a (bd z) (g z))(h2:∀ z∈n,Rn b (bd z) (k z)):RC (fC B i (kC a b)) s (n.map fun z=>(g z,k z)):=rwL (P:=RC (fC B i (kC a b)) s) (jd n) (.F h hb fun z m=>.K (h1 z m) (h2 z m))
theorem RC.FI{g:β→D}(h:RL i s (n.map emb))(hb:∀ z γ k,B γ s (emb z) k=k (bd z))(h1:∀ z∈n,RT t (bd z) (p z))(h2:∀ z∈n,p z=true→Rn a (bd z) (g z)):RC (fC B i (iC t (mC a))) s ((n.filter p).map g):=rwL (P:=RC (fC B i (iC t (mC a))) s) (vg n) (.F h hb fun z m=>.I (h1 z m) fun q=>.M (h2 z m q))
end
section
variable {J:Cx} {s s' s₁ s₂:Sg} {x y z n:Str} {a b e:Ex} {c d r u v w:D} {t t':Ts} {p q:Bool} {i m:Ls} {l l':List D} {b1 b2:Sm} {f:Fl}
theorem RS.P:RS pS s s .next:=fun z z=>rfl
theorem RS.K:RS kS s s .brk:=fun z z=>rfl
theorem RS.R(h:Rn a s d):RS (rS a) s s (.ret d):=fun β z=>h β _
theorem RS.It(h:RT t s true)(h1:RS b1 s s' f):RS (iS t b1 b2) s s' f:=fun β k=>(h β _).trans (h1 β k)
theorem RS.If(h:RT t s false)(h1:RS b2 s s' f):RS (iS t b1 b2) s s' f:=fun β k=>(h β _).trans (h1 β k)
theorem RS.Q(h:RS b1 s s₁ .next)(h1:RS b2 s₁ s₂ f):RS (qS b1 b2) s s₂ f:=fun β k=>(h β _).trans (h1 β k)
theorem RS.Qr(h:RS b1 s s₁ (.ret d)):RS (qS b1 b2) s s₁ (.ret d):=fun β z=>h β _
theorem RS.A(h:Rn a s d):RS (aS x a) s (upd s x d) .next:=fun β z=>h β _
theorem RS.O{f:D→Bool}(h:Rn a s d)(h2:f d=true∧jj d=true∧false=false∧x≠qb):RS (oS f x a) s (upd s x d) .next:=fun β z=>(h β _).trans (if_pos h2)
theorem RS.A3(h:Rn a s d):RS (a3S x y z a) s (upd (upd (upd s x d) y d) z d) .next:=fun β v=>h β _
theorem RS.Ds{xs:List Str}(h:RL i s l):RS (dS xs i) s (zL xs l s) .next:=fun β z=>h β _
theorem RS.T2(h:Rn a s (.tup [u,v])):RS (t2S x y a) s (upd (upd s x u) y v) .next:=fun β z=>h β _
theorem RS.T3(h:Rn a s (.tup [u,v,w])):RS (t3S x y z a) s (upd (upd (upd s x u) y v) z w) .next:=fun β t=>h β _
theorem RS.T5{x1 x2:Str}(h:Rn a s (.tup [u,v,w,c,d])):RS (t5S x y z x1 x2 a) s (upd (upd (upd (upd (upd s x u) y v) z w) x1 c) x2 d) .next:=fun β t=>h β _
theorem RS.X(h:Rn a s d)(h1:Rn b s c)(h2:s x=some u)(h3:zzK u c d=some r):RS (xS x b a) s (upd s x r) .next:=fun β z=>(h β _).trans ((h1 β _).trans ((bK h2).trans (bK h3)))
theorem RS.S{j:Nat}{fs:List (Str × D)}(h:Rn a s d)(h2:s x=some (.obj j fs))(h3:J.fld j y=true∧fs.length≤50):RS (sS J y x a) s (upd s x (.obj j (qc fs y d))) .next:=fun β z=>(h β _).trans ((bK h2).trans (if_pos h3))
theorem RS.U{j k:Int}(h:s x=some (.int j))(h2:Rn a s (.int k)):RS (uS x a) s (upd s x (.int (j+k))) .next:=fun β z=>(bK h).trans (h2 β _)
theorem RS.W(h:s x=some u)(h1:Rn a s c)(h2:Rn b s w)(h3:zY u c=some v)(h4:zvf v w=some d)(h5:zzK u c d=some r):RS (wS x a b) s (upd s x r) .next:=fun β z=>(bK h).trans ((h1 β _).trans ((h2 β _).trans ((bK h3).trans ((bK h4).trans (bK h5)))))
theorem RS.L(h:s x=some (.list l))(h2:Rn a s d)(h3:l.length≤zz):RS (lS x a) s (upd s x (.list (l++[d]))) .next:=fun β z=>(bK h).trans ((h2 β _).trans (if_pos h3))
end
section
variable {α:Type} {emb:α→D} {b:Sm} {i:Ls} {t:Expr} {bd:α→Sg→Sg} {Inv:List α→Sg→Prop} {Q:Sg→Fl→Prop} {s:Sg}
def To(b:Sm)(s:Sg)(Q:Sg→Fl→Prop):Prop:=∃ s' f,RS b s s' f∧Q s' f
theorem To.mk{s':Sg}{f:Fl}(h:RS b s s' f)(q:Q s' f):To b s Q:=⟨s',f,h,q⟩
theorem To.on{M:Prop}(h:To b s Q)(k:∀ s' f,RS b s s' f→Q s' f→M):M:=X22 h k
theorem To.imp{R:Sg→Fl→Prop}(h:To b s Q)(k:∀ s f,Q s f→R s f):To b s R:=h.on fun s f r q=>.mk r (k s f q)
theorem To.I{t:Ts}{p:Bool}{a:Sm}(h:RT t s p)(h1:p=true→To a s Q)(h2:p=false→To b s Q):To (iS t a b) s Q:=match p,h,h1,h2 with
 |true,h,h1,_=>(h1 rfl).on fun z z r q=>.mk (.It h r) q
 |false,h,_,h2=>(h2 rfl).on fun z z r q=>.mk (.If h r) q
theorem To.S{a:Sm}{s':Sg}(h:RS a s s' .next)(h1:To b s' Q):To (qS a b) s Q:=h1.on fun z z r q=>.mk (.Q h r) q
theorem To.SS{a:Sm}{P:Sg→Prop}(h:To a s fun s' f=>f= .next∧P s')(k:∀ s',P s'→To b s' Q):To (qS a b) s Q:=h.on fun s' z r q=>.S (q.1▸r) (k s' q.2)
noncomputable def Tn(I:Sg→Prop)(Q:Sg→Fl→Prop)(s:Sg):Fl→Prop
 | .next=>I s
 | .brk=>Q s .next
 | .ret d=>Q s (.ret d)
noncomputable def zfV(f:Sg→Option (Sg × Fl))(t:Expr)(ds:List D):Option (Sg × Fl)→Option (Sg × Fl)
 |none=>none
 |some (σ,.next)=>zyF f t ds σ
 |some (σ,.brk)=>some (σ,.next)
 |some (σ,.ret r)=>some (σ,.ret r)
theorem zzO{f:Sg→Option (Sg × Fl)}(hb:∀ a σ,j6 t (emb a) σ=some (bd a σ))(h:∀ a r σ,Inv (a::r) σ→∃ σ' fl,f (bd a σ)=some (σ',fl)∧Tn (Inv r) Q σ' fl)(hq:∀ σ,Inv [] σ→Q σ .next):
  ∀ l σ,Inv l σ→∃ σ' fl,zyF f t (l.map emb) σ=some (σ',fl)∧Q σ' fl
 |[],σ,i=>⟨σ,.next,rfl,hq σ i⟩
 |a::l,σ,i=>X22 (h a l σ i) fun σ' fl h1 h2=>
  have e:zyF f t ((a::l).map emb) σ=zfV f t (l.map emb) (some (σ',fl)):=h1▸(by show (match j6 t (emb a) σ with|none=>none|some σ'=>zfV f t (l.map emb) (f σ'))=_;rw [hb])
  match fl,h2,e with
  | .next,h2,e=>X22 (zzO hb h hq l σ' h2) fun s f h3 h4=>⟨s,f,e.trans h3,h4⟩
  | .brk,h2,e=>⟨σ',.next,e,h2⟩
  | .ret d,h2,e=>⟨σ',.ret d,e,h2⟩
theorem To.loop{l:List α}(hi:RL i s (l.map emb))(hb:∀ a σ,j6 t (emb a) σ=some (bd a σ))(h:∀ a r σ,Inv (a::r) σ→To b (bd a σ) (Tn (Inv r) Q))(hq:∀ σ,Inv [] σ→Q σ .next)(j:Inv l s):To (fS t i b) s Q:=
 X22 (zzO (f:=fun s=>b (Sg × Fl) s fun s f=>some (s,f)) hb (fun a r σ i=>(h a r σ i).on fun s' f h1 h2=>⟨s',f,h1 _ _,h2⟩) hq l s j) fun s' f h1 h2=>⟨s',f,fun β z=>(hi β _).trans (bK h1),h2⟩
theorem RS.loop{M:Prop}{l:List α}(hi:RL i s (l.map emb))(hb:∀ a σ,j6 t (emb a) σ=some (bd a σ))(h:∀ a r σ,Inv (a::r) σ→To b (bd a σ) fun σ' f=>f= .next∧Inv r σ')(j:Inv l s)(k:∀ s',RS (fS t i b) s s' .next→Inv [] s'→M):M:=
 (To.loop (Q:=fun σ f=>f= .next∧Inv [] σ) hi hb (fun a r σ i=>(h a r σ i).on fun s' f h1 h2=>.mk h1 (X02 h2 fun e h=>e.symm▸h)) (fun z i=>⟨rfl,i⟩) j).on fun s' z h1 h2=>k s' (h2.1▸h1) h2.2
end
end
section
noncomputable def iL(l:List Int):D:=.list (l.map .int)
theorem zf(l:List Int):jB (iL l)=some (l.map .int):=rfl
theorem cpN{n m:Nat}(h:n≤m)(hm:m≤zz:=by decide):n≤zz:=le_trans h hm
theorem lnM{α β:Type}{f:α→β}{l:List α}{n:Nat}(h:l.length≤n):(l.map f).length≤n:=(length_map f).symm▸h
theorem cpM{α β:Type}{f:α→β}{l:List α}{m:Nat}(h:l.length≤m)(hm:m≤zz:=by decide):(l.map f).length≤zz:=cpN (lnM h) hm
theorem g9:x9.glob "NT_OFFSET"=some (.int 256):=by kernel_rfl
theorem g10:x10.glob "NT_OFFSET"=some (.int 256):=by kernel_rfl
theorem g11:x11.glob "ENDMARKER"=some (.int 0):=by kernel_rfl
theorem zb5(i:Int):fnC x9 153 ["x"] [] [.int i]=some (.bool (decide (i<256))):=zba (.R (.Q (.Q (.V rfl) (.G g9) rfl)))
theorem zxP(i:Int):fnC x10 160 ["x"] [] [.int i]=some (.bool (decide (i≥256))):=zbe (.R (.Q (.Q (.V rfl) (.G g10) rfl)))
theorem zxB(i:Int):fnC x11 167 ["x"] [] [.int i]=some (.bool (i==0)):=zbi (.R (.Q (.Q (.V rfl) (.G g11) rfl)))
theorem zxD(i:Int):x17.call "ISNONTERMINAL" [.int i]=some (.bool (decide (i≥256))):=(show _=fnC x10 160 ["x"] [] [.int i] by kernel_rfl).trans (zxP i)
theorem be(i:Int):x17.call "ISEOF" [.int i]=some (.bool (i==0)):=(show _=fnC x11 167 ["x"] [] [.int i] by kernel_rfl).trans (zxB i)
theorem b5(i:Int):x22.call "ISTERMINAL" [.int i]=some (.bool (decide (i<256))):=(show _=fnC x9 153 ["x"] [] [.int i] by kernel_rfl).trans (zb5 i)
theorem b6(i:Int):x22.call "ISNONTERMINAL" [.int i]=some (.bool (decide (i≥256))):=(show _=fnC x10 160 ["x"] [] [.int i] by kernel_rfl).trans (zxP i)
theorem w9(i:Int):x22.call "ISEOF" [.int i]=some (.bool (i==0)):=(show _=fnC x11 167 ["x"] [] [.int i] by kernel_rfl).trans (zxB i)
noncomputable abbrev Arc:=Int × Int × Int
noncomputable def jf(steps sides:List Int):List Arc:=steps.flatMap fun s=>sides.map fun d=>if d=1 then (s.fdiv 512,s.fmod 512,s) else (s.fmod 512,s.fdiv 512, -s)
noncomputable abbrev zx:=List (Int × List Int)
noncomputable def zr(r:zx)(k:Int):Option (List Int):=(r.find? fun kv=>kv.1=k).map (fun z=>z.2)
noncomputable def qd(r:zx)(a:Arc):zx:=match zr r a.1 with
 |some p=>if (zr r a.2.1).isSome then r else r++[(a.2.1,p++[a.2.2])]
 |none=>r
noncomputable def zv(steps:List Int)(start:Int)(sides:List Int):zx:=(replicate 4 (jf steps sides)).flatten.foldl qd [(start,[])]
noncomputable def zt(r:zx):D:=.dI (r.map fun p=>(p.1,iL p.2))
theorem wQ(r:zx)(k:Int):zd (r.map fun p=>(p.1,iL p.2)) k=(zr r k).map iL:=by
 unfold zd zr;rw [List.find?_map,Option.map_map,Option.map_map];rfl
end
section
def za(i:Int):Prop:= -1000000<i∧i<1000000
theorem za.cap{i:Int}(h:za i):zK i=true:=and_eq_true_iff.mpr ⟨decide_eq_true (lt_trans (by decide) h.1),decide_eq_true (lt_trans h.2 (by decide))⟩
theorem jc{a b:Int}(ha:za a)(hb:za b)(h0:b≠0):yQ .FloorDiv (.int a) (.int b)=some (.int (a.fdiv b)):=if_pos ⟨h0,ha.cap,hb.cap⟩
theorem zu8{a b:Int}(h0:b≠0):yQ .Mod (.int a) (.int b)=some (.int (a.fmod b)):=if_pos h0
theorem gH{a b:Int}(h:zK a=true):yQ .Mult (.int a) (.int b)=some (.int (a *b)):=if_pos h
theorem zgA{a:Int}(h:za a):yQ .FloorDiv (.int a) (.int 512)=some (.int (a.fdiv 512)):=jc h ⟨by decide,by decide⟩ (by decide)
theorem zdK{a:Int}:yQ .Mod (.int a) (.int 512)=some (.int (a.fmod 512)):=zu8 (by decide)
theorem xG{a b:List D}(h:a.length+b.length≤zz):yQ .Add (.list a) (.list b)=some (.list (a++b)):=if_pos h
theorem zzA{a:List D}{n:Int}(h:a.length *n.toNat≤zz∧zK n=true):yQ .Mult (.list a) (.int n)=some (.list (replicate n.toNat a).flatten):=if_pos h
theorem jK{a b:List Int}(h:a.length+b.length≤zz):yQ .Add (iL a) (iL b)=some (iL (a++b)):=
 (xG (by rw [length_map,length_map];exact h)).trans (congrArg (fun l=>some (D.list l)) map_append.symm)
theorem zxF{r:zx}{k:Int}:zY (zt r) (.int k)=(zr r k).map iL:=wQ r k
theorem qe{r:zx}{k:Int}{p:List Int}(h:zr r k=some p):zY (zt r) (.int k)=some (iL p):=zxF.trans (congrArg _ h)
theorem jy{r:zx}{k:Int}:xJ .In (.int k) (zt r)=some (zr r k).isSome:=congrArg some ((congrArg _ (wQ r k)).trans Option.isSome_map)
theorem qR{r:zx}{k:Int}:xJ .NotIn (.int k) (zt r)=some (!(zr r k).isSome):=congrArg (·.map (!·)) jy
theorem vG{r:zx}{k:Int}(h:zr r k=none)(p:Int × List Int)(m:p∈r):p.1≠k:=fun e=>
 find?_eq_none.mp (map_eq_none_iff.mp h) p m (decide_eq_true e)
theorem b7{r:zx}{k:Int}{p:List Int}(h:zr r k=none)(hl:r.length≤1000):zzK (zt r) (.int k) (iL p)=some (zt (r++[(k,p)])):=by
 refine (if_pos (cpM hl)).trans (congrArg (fun x=>some (D.dI x)) ?_);refine (if_neg fun q=>?_).trans (map_append (l₂:=[(k,p)])).symm;rw [any_map] at q;refine X12 (any_eq_true.mp q) fun p m e=>vG h p m (of_decide_eq_true e)
noncomputable def zfU(a:Arc):D:=.tup [.int a.1,.int a.2.1,.int a.2.2]
theorem gM{r:zx}{k:Int}{p:List Int}(h:zr r k=some p):(k,p)∈r:=X12 (map_some h) fun q h1 h2=>
 have e:q.1=k:=of_decide_eq_true (find?_some (p:=fun kv:Int × List Int=>decide (kv.1=k)) h1)
 h2▸e▸List.mem_of_find?_eq_some h1
theorem qZ{r:zx}{k:Int}{p:List Int}(h:zr r k=some p):∃ q∈r,q.1=k∧q.2=p:=⟨_,gM h,rfl,rfl⟩
theorem zu9{r:zx}{a:Arc}{p:List Int}(h1:zr r a.1=some p)(h2:zr r a.2.1=none):qd r a=r++[(a.2.1,p++[a.2.2])]:=by
 unfold qd;rw [h1];dsimp only;rw [h2];rfl
theorem zxH{r:zx}{a:Arc}(h:((zr r a.1).isSome&&(!(zr r a.2.1).isSome&&true))=false):qd r a=r:=by
 unfold qd;cases e1:zr r a.1 with
 |none=>rfl
 |some p=>rw [e1] at h;dsimp only;cases e2:zr r a.2.1 with
  |none=>rw [e2] at h;cases h
  |some p=>rfl
theorem zfG{α:Type}{o o':Option α}{M:Prop}(t:(o.isSome&&(!o'.isSome&&true))=true)(k:∀ p,o=some p→o'=none→M):M:=by
 cases o with
 |none=>exact Bool.noConfusion t
 |some p=>cases o' with
  |none=>exact k p rfl rfl
  |some z=>exact Bool.noConfusion t
def zmH(R:zx)(l:List Arc)(σ:Sg):Prop:=∃ r n,σ "roads"=some (zt r)∧l.foldl qd r=R∧r.length+l.length≤400∧n+l.length≤400∧∀ q∈r,q.2.length≤n
noncomputable def bdR(a:Arc)(σ:Sg):Sg:=upd (upd (upd σ "tail" (.int a.1)) "head" (.int a.2.1)) "step" (.int a.2.2)
theorem zys{R:zx}(a:Arc)(l:List Arc)(σ:Sg)(h:zmH R (a::l) σ):To gD (bdR a σ) fun σ f=>f= .next∧zmH R l σ:=
 X25 h fun r n h1 h2 h3 h4 h5=>
 have h1':bdR a σ "roads"=some (zt r):=h1
 .I (.B (.A (.Q (.V rfl) (.V h1') jy) fun y=>.A (.Q (.V rfl) (.V h1') qR) fun y=>.N)) (fun t=>zfG t fun p e1 e2=>
  have hp:=h5 _ (gM e1)
  .mk (.X (.O (.I (.V h1') (.V rfl) (qe e1)) (.L (.C (.V rfl) .N)) (jK (b:=[a.2.2]) (cpN (m:=401) (succ_le_succ (le_trans hp (le_of_add_right_le h4)))))) (.V rfl) h1' (b7 e2 (le_trans (le_of_add_right_le h3) (by decide))))
   ⟨rfl,_,n+1,rfl,(congrArg (fun z=>l.foldl qd z) (zu9 e1 e2)).symm.trans h2,by rw [length_append,add_right_comm];exact h3,by rw [add_right_comm];exact h4,fun q hq=>(mem_append.mp hq).elim (fun m=>le_succ_of_le (h5 q m)) fun m=>by
      rw [mem_singleton.mp m,length_append];exact succ_le_succ hp⟩)
  fun t=>.mk .P ⟨rfl,r,n,h1',(congrArg (fun z=>l.foldl qd z) (zxH t)).symm.trans h2,le_of_succ_le h3,le_of_succ_le h4,h5⟩
theorem zyt(k:Int)(d:D):qV [(.int k,d)]=some (.dI [(k,d)]):=rfl
theorem zuQ{steps sides:List Int}(hn:steps.length≤40)(hm:sides.length≤2):(jf steps sides).length≤80:=by
 unfold jf;rw [List.length_flatMap];simp only [length_map];rw [List.map_const',List.sum_replicate_nat];exact Nat.mul_le_mul hn hm
theorem zxM{steps sides:List Int}{start:Int}(hs:∀ i∈steps,za i)(hn:steps.length≤40)(hm:sides.length≤2):
  fnC x16 187 ["steps","start","sides"] ["roads"] [iL steps,.int start,.tup (sides.map D.int)]=some (zt (zv steps start sides)):=
 have hl:=zuQ hn hm;have hl4:((replicate 4 (jf steps sides)).flatten).length≤320:=by rw [List.length_flatten,map_replicate,List.sum_replicate_nat];exact mul_le_mul_left 4 hl
 have A:RC (f1C "step" (xI (vE "steps")) (f1C "side" (xI (vE "sides")) (mC (fE (qT .Eq (vE "side") (nE 1)) (tE (cL (oE .FloorDiv (vE "step") (nE 512)) (cL (oE .Mod (vE "step") (nE 512)) (cL (vE "step") nL)))) (tE (cL (oE .Mod (vE "step") (nE 512)) (cL (oE .FloorDiv (vE "step") (nE 512)) (cL (mE (vE "step")) nL)))))))) (par ["steps","start","sides"] [iL steps,.int start,.tup (sides.map D.int)]) ((jf steps sides).map zfU):=
  rwR (P:=RC _ _) map_flatMap (.F (.X (.V rfl) (zf _)) (fun y y y=>rfl) fun i m=>
   rwR (P:=RC _ _) map_map (.FM (.X (.V rfl) rfl) (fun y y y=>rfl) fun d y=>.F (p:=d==1) (.Q (.V rfl) .C rfl)
    (fun q=>rwR (P:=fun z=>Rn _ _ (zfU z)) (if_pos (eq_of_beq q)) (.T (.C (.O (.V rfl) .C (zgA (hs i m))) (.C (.O (.V rfl) .C zdK) (.C (.V rfl) .N)))))
    fun q=>rwR (P:=fun z=>Rn _ _ (zfU z)) (if_neg (ne_of_beq_false q)) (.T (.C (.O (.V rfl) .C zdK) (.C (.O (.V rfl) .C (zgA (hs i m))) (.C (.M (.V rfl)) .N))))))
 RS.loop (emb:=zfU) (bd:=bdR) (Inv:=zmH (zv steps start sides)) (l:=(replicate 4 (jf steps sides)).flatten) (b:=gD) (t:=zm5 "tail" "head" "step")
  (.X (.O (.V rfl) .C (d:=.int 4) (r:=.list (((replicate 4 (jf steps sides)).flatten).map zfU)) ((zzA ⟨le_trans (Nat.mul_le_mul_right 4 (lnM hl)) (by decide),rfl⟩).trans (by rw [List.map_flatten,map_replicate];rfl))) rfl)
  (fun y y=>rfl) zys ⟨[(start,[])],0,rfl,rfl,le_trans (add_le_add_left hl4 1) (by decide),le_trans (add_le_add_left hl4 0) (by decide),fun q m=>by rw [mem_singleton.mp m];exact le_refl 0⟩ fun s' h1 h2=>
  X22 h2 fun r n h2 h3=>zb2 (.Q (.Ds (.C (.lc A (cpM hl)) (.O (.Di (.C (.V rfl) .N) (.C (.L .N) .N) (zyt _ _)) ⟨rfl,rfl,rfl,by decide+kernel⟩ .N))) (.Q h1 (.R (.V (h2.trans (congrArg (fun z=>some (zt z)) h3.1))))))
end
section
noncomputable def z0(i:Int):Bool:=i==0||decide (i≥256)
noncomputable def zqA(R:zx):Nat→Int→Int→List Int→Option (List Int)
 |0,_,_,m=>some m
 |n+1,h,t,m=>match zr R h with
  |none=>none
  |some full=>match (full.filter z0)[(t.fmod (full.filter z0).length).toNat]? with
   |none=>none
   |some w=>if (512 *h+w).fmod 512=0 then some (m++[512 *h+w]) else zqA R n ((512 *h+w).fmod 512) (t.fdiv (full.filter z0).length) (m++[512 *h+w])
theorem vP{k:Int}{n:Nat}(h0:0≤k)(hl:k.toNat<n):seqIndex? k n=some k.toNat:=by
 have h1:¬ k<0:=by lia
 simp [seqIndex?,h1,h0];lia
theorem zqE{n:Nat}:seqIndex? (-1) (n+1)=some n:=by
 simp [seqIndex?];lia
theorem zgE{l:List D}{k:Int}{j:Nat}{d:D}(hc:zK k=true)(h:seqIndex? k l.length=some j)(e:l[j]? =some d):zY (.list l) (.int k)=some d:=(if_pos hc).trans ((bK h).trans e)
theorem zzE{l:List D}{k:Int}{d:D}(h0:0≤k)(h1:k<1000000)(h:l[k.toNat]? =some d):zY (.list l) (.int k)=some d:=
 zgE (za.cap ⟨Int.lt_of_lt_of_le (by decide) h0,h1⟩) (vP h0 (List.getElem?_eq_some_iff.mp h).1) h
theorem wZ{l:List Int}{k:Int}(h0:0≤k)(h1:k<1000000){v:Int}(h:l[k.toNat]? =some v):zY (iL l) (.int k)=some (.int v):=
 zzE h0 h1 (by rw [getElem?_map,h];rfl)
theorem wJ{l:List D}{d:D}:zY (.list (l++[d])) (.int (-1))=some d:=
 zgE (j:=l.length) rfl (by rw [length_append];exact zqE) List.getElem?_concat_length
theorem zxN(l:List Int)(i:Int):D.list (l.map D.int++[D.int i])=iL (l++[i]):=congrArg D.list (map_append (l₂:=[i])).symm
theorem gN{l:List D}(h:l.length≤zz):gx (.list l)=some (.int l.length):=if_pos h
theorem zgI{l:List Int}(h:l.length≤1000):gx (iL l)=some (.int l.length):=(gN (cpM h)).trans (by rw [length_map])
theorem zb6{l:List Int}(h:l.length≤1000):x17.call "len" [iL l]=some (.int l.length):=(show _=gx (iL l) by kernel_rfl).trans (zgI h)
theorem zpq{l:List Int}{i:Int}{s:Sg}{x:Str}{e:Ex}(h:s x=some (iL l))(he:Rn e s (.int i))(hl:l.length≤10000):RS (lS x e) s (upd s x (iL (l++[i]))) .next:=
 zxN l i▸RS.L h he (cpM hl)
structure zqI(R:zx):Prop where
 small:∀ p∈R,p.2.length≤100
 ways:∀ p∈R,p.2.filter z0≠[]
structure zb7(R:zx)(made:List Int)(n:Nat)(h t:Int)(m:List Int)(s:Sg):Prop where
 h1:s "rules"=some (zt R)
 h2:s "here"=some (.int h)
 h3:s "made"=some (iL m)
 h4:s "turnings"=some (.int t)
 ht:0≤t∧t<1000
 hm:m.length+n≤100
 run:zqA R n h t m=some made
theorem zuZ{R:zx}{n:Nat}{h t:Int}{m made:List Int}{M:Prop}(e:zqA R (n+1) h t m=some made)
  (k:∀ full w,zr R h=some full→(full.filter z0)[(t.fmod (full.filter z0).length).toNat]? =some w→
   (if (512 *h+w).fmod 512=0 then some (m++[512 *h+w]) else zqA R n ((512 *h+w).fmod 512) (t.fdiv (full.filter z0).length) (m++[512 *h+w]))=some made→M):M:=by
 revert e
 show (match zr R h with|none=>none|some full=>_)=some made→M
 cases h1:zr R h with
 |none=>exact fun e=>zq e
 |some full=>
  dsimp only;cases h2:(full.filter z0)[(t.fmod (full.filter z0).length).toNat]? with
  |none=>exact fun e=>zq e
  |some w=>exact fun e=>k full w h1 h2 e
def znG(made:List Int)(s:Sg)(f:Fl):Prop:=f= .next∧s "made"=some (iL made)
theorem zuJ{R:zx}(ok:zqI R){made:List Int}{x:D}{n:Nat}{h t:Int}{m:List Int}{s:Sg}(A:zb7 R made (n+1) h t m s):
  To zxW (upd s "turn" x) (Tn (fun s=>∃ h t m,zb7 R made n h t m s) (znG made)):=
 zuZ A.run fun full w hf hw hr=>
 have hfm:=gM hf;have hwl:(full.filter z0).length≤100:=le_trans (length_filter_le ..) (ok.small _ hfm);have hwp:0<(full.filter z0).length:=List.length_pos_iff.mpr (ok.ways _ hfm);have hwz:za (full.filter z0).length:=⟨by omega,by omega⟩
 have hw0:((full.filter z0).length:Int)≠0:=by omega
 have hm0:=fmod_nonneg_of_pos t (b:=(full.filter z0).length) (by omega);have hm1:=fmod_lt_of_pos t (b:=(full.filter z0).length) (by omega);have hd:t.fdiv (full.filter z0).length=t / (full.filter z0).length:=Int.fdiv_eq_ediv_of_nonneg _ (natCast_nonneg _);have ht':0≤t.fdiv (full.filter z0).length∧t.fdiv (full.filter z0).length<1000:=hd▸⟨Int.ediv_nonneg A.ht.1 (natCast_nonneg _),Int.lt_of_le_of_lt (Int.ediv_le_self _ A.ht.1) A.ht.2⟩
 have len {s:Sg} (e:s "ways"=some (iL (full.filter z0))):Rn (CE x17 "len" (cL (vE "ways") nL)) s (.int (full.filter z0).length):=.E (.C (.V e) .N) (zb6 (le_trans hwl (by decide)));have hm:=A.hm;have hz:za t:=⟨Int.lt_of_lt_of_le (by decide) A.ht.1,lt_trans A.ht.2 (by decide)⟩
 .S (.A (.lc (.FI (p:=z0) (g:=D.int) (.X (.I (.V A.h1) (.V A.h2) (qe hf)) (zf _)) (fun y y y=>rfl)
   (fun i y=>.B (RB.O (.E (.E (.C (.V rfl) .N) (be i))) fun y=>(Bool.or_false (decide (i≥256)))▸RB.O (.E (.E (.C (.V rfl) .N) (zxD i))) fun y=>.N)) fun y y y=>.V rfl) (cpM hwl)))
  (.S (zpq A.h3 (.O (.O .C (.V A.h2) (gH rfl)) (.I (.V rfl) (.O (.V A.h4) (len rfl) (zu8 hw0)) (wZ hm0 (by omega) hw)) rfl) (by omega))
  (.S (.Ds (.C (.O (.I (.V (congrArg some (zxN m _).symm)) .C wJ) .C zdK) (.C (.O (.V A.h4) (len rfl) (jc hz hwz hw0)) .N)))
  (.I (.E (.E (.C (.V rfl) .N) (be _))) (fun z=>.mk .K (by rw [if_pos (eq_of_beq z)] at hr;exact ⟨rfl,congrArg (fun l=>some (iL l)) (sj hr)⟩))
   fun z=>.mk .P (by rw [if_neg (ne_of_beq_false z)] at hr;exact ⟨_,_,_,A.h1,rfl,rfl,rfl,ht',by rw [length_append];exact add_right_comm .. ▸hm,hr⟩))))
theorem zmM{R:zx}(ok:zqI R){t:Int}(ht:0≤t∧t<1000){made:List Int}(h:zqA R 60 0 t []=some made):fnC x17 192 ["rules","turnings"] ["made"] [zt R,.int t]=some (iL made):=
 (To.loop (emb:=fun i:Nat=>D.int (0+(i:Int))) (bd:=fun i s=>upd s "turn" (.int (0+(i:Int)))) (Inv:=fun l s=>∃ h t m,zb7 R made l.length h t m s) (Q:=znG made) (l:=List.range 60) (b:=zxW) (t:=.Name "turn" default) (s:=upd (upd (par ["rules","turnings"] [zt R,.int t]) "here" (.int 0)) "made" (iL []))
  (.R (.C .C .N) rfl) (fun z z=>rfl) (fun z z z i=>X31 i fun z z z A=>zuJ ok A) (fun s i=>X31 i fun z z m A=>⟨rfl,A.h3.trans (congrArg (fun l=>some (iL l)) (sj A.run))⟩)
  ⟨0,t,[],rfl,rfl,rfl,rfl,ht,by decide,h⟩).on fun s f h1 h2=>zm6 (.Q (.Ds (.C .C (.C (.L .N) .N))) (.Q (h2.1▸h1) (.R (.V h2.2))))
end
section
noncomputable abbrev KV:=List (Str × D)
noncomputable def zvm(acc:KV)(kv:Str × D):Option KV:=match zd acc kv.1 with
 |some o=>match kv.2 with
  | .tup x=>(zgB (.tup x) o).map fun d=>qc acc kv.1 d
  | .int i=>(zvf o (.int i)).map fun d=>qc acc kv.1 d
  |_=>none
 |none=>some (qc acc kv.1 kv.2)
noncomputable def zvn:KV→KV→Option KV
 |acc,[]=>some acc
 |acc,kv::r=>(zvm acc kv).bind fun acc=>zvn acc r
theorem zzI{a r:KV}{kv:Str × D}{M:Prop}(h:zvm a kv=some r)(k0:zd a kv.1=none→qc a kv.1 kv.2=r→M)
  (k1:∀ o x d,zd a kv.1=some o→kv.2= .tup x→zgB (.tup x) o=some d→qc a kv.1 d=r→M)
  (k2:∀ o i d,zd a kv.1=some o→kv.2= .int i→zvf o (.int i)=some d→qc a kv.1 d=r→M):M:=by
 unfold zvm at h;cases e:zd a kv.1 with
 |none=>rw [e] at h;exact k0 e (sj h)
 |some o=>
  rw [e] at h;dsimp only at h;cases e2:kv.2 with
  |tup x=>rw [e2] at h;exact (map_some h).elim fun d q=>k1 o x d e e2 q.1 q.2
  |int i=>rw [e2] at h;exact (map_some h).elim fun d q=>k2 o i d e e2 q.1 q.2
  |_=>rw [e2] at h;exact zq h
theorem j9(a:KV)(k:Str)(d:D):(qc a k d).length≤a.length+1:=by unfold qc;split<;>simp
theorem zuY{acc r:KV}{kv:Str × D}(h:zvm acc kv=some r):r.length≤acc.length+1:=
 zzI h (fun z e=>e▸j9 ..) (fun z z z z z z e=>e▸j9 ..) fun z z z z z z e=>e▸j9 ..
theorem gR{a:KV}{k:Str}{d:D}(h:a.length≤1000):zzK (.dS a) (.str k) d=some (.dS (qc a k d)):=if_pos (cpN h)
theorem xP{a:KV}{k:Str}{d:D}(h:k∉a.map (fun z=>z.1)):qc a k d=a++[(k,d)]:=
 if_neg fun q=>(any_eq_true.mp q).elim fun p m=>h (mem_map.mpr ⟨p,m.1,of_decide_eq_true m.2⟩)
noncomputable def b8(p:Str × D):D:=.tup [.str p.1,p.2]
noncomputable def bdP(kv:Str × D)(s:Sg):Sg:=upd (upd s "func" (.str kv.1)) "caller" kv.2
theorem zyl{s:Sg}{kv:Str × D}{a r:KV}(h:s "new_callers"=some (.dS a))(hl:a.length≤1000)(ha:zvm a kv=some r){Q:Sg→Fl→Prop}(q:∀ s',s' "new_callers"=some (.dS r)→Q s' .next):To zqS (bdP kv s) Q:=
 have h:bdP kv s "new_callers"=some (.dS a):=h;have t {b:Bool} (e:(zd a kv.1).isSome=b):RT (qT .In (vE "func") (vE "new_callers")) (bdP kv s) b:=.Q (.V rfl) (.V h) (congrArg some e);have st {d:D} (e:qc a kv.1 d=r):zzK (.dS a) (.str kv.1) d=some (.dS r):=(gR hl).trans (congrArg (fun z=>some (D.dS z)) e)
 zzI ha (fun e e2=>.mk (.If (t (congrArg Option.isSome e)) (.X (.V rfl) (.V rfl) h (st e2))) (q _ rfl))
  (fun o x d e e1 e2 e3=>.mk (.It (t (congrArg Option.isSome e)) (.It (.E (.W rfl (by rw [e1];rfl))) (.X (.Y rfl h rfl e (e1▸e2)) (.V rfl) h (st e3)))) (q _ rfl))
  fun o i d e e1 e2 e3=>.mk (.It (t (congrArg Option.isSome e)) (.If (.E (.W rfl (by rw [e1];rfl))) (.W h (.V rfl) (.V (congrArg some e1)) e e2 (st e3)))) (q _ rfl)
structure AdA(a b:KV)(l:KV)(s:Sg):Prop where
 mk::
 at':∃ d,s "new_callers"=some (.dS d)∧s "source"=some (.dS b)∧d++l=a
structure AdB(r:KV)(l:KV)(s:Sg):Prop where
 mk::
 at':∃ d,s "new_callers"=some (.dS d)∧zvn d l=some r∧d.length+l.length≤900
theorem zpz{a b r:KV}(hn:(a.map (fun z=>z.1)).Nodup)(hl:a.length+b.length≤900)(h:zvn a b=some r):fnC x7 70 ["target","source"] ["new_callers"] [.dS a,.dS b]=some (.dS r):=
 RS.loop (emb:=b8) (bd:=bdP) (b:=zx8) (t:=zgM "func" "caller") (Inv:=AdA a b) (i:=pI (vE "target")) (s:=upd (par ["target","source"] [.dS a,.dS b]) "new_callers" (.dS [])) (.P (.V rfl) rfl) (fun y y=>rfl)
  (fun kv l s i=>X13 i.at' fun d i1 i2 i3=>
   have hd:d.length≤1000:=le_trans (le_trans (le_add_right ..) (le_of_eq (length_append.symm.trans (congrArg List.length i3)))) (le_trans (le_of_add_right_le hl) (by decide))
   .mk (.X (.V rfl) (.V rfl) i1 (gR hd)) ⟨rfl,⟨d++[kv],congrArg (fun z=>some (D.dS z)) (xP fun hm=>by
    rw [←i3,map_append] at hn;exact (nodup_append.mp hn).2.2 _ hm _ (mem_cons_self ..) rfl),i2,(append_assoc ..).trans i3⟩⟩)
  ⟨[],rfl,rfl,rfl⟩ fun s1 j1 j2=>X13 j2.at' fun d i1 i2 i3=>
 have i1:s1 "new_callers"=some (.dS a):=i1.trans (congrArg (fun z=>some (D.dS z)) ((append_nil d).symm.trans i3))
 RS.loop (emb:=b8) (bd:=bdP) (b:=zqS) (t:=zgM "func" "caller") (Inv:=AdB r) (i:=pI (vE "source")) (.P (.V i2) rfl) (fun y y=>rfl)
  (fun kv l s i=>X13 i.at' fun d i1 i2 i3=>X12 (bind_some i2) fun d' i4 i5=>
   have i3:d.length+(l.length+1)≤900:=i3
   zyl i1 (le_trans (le_of_add_right_le i3) (by decide)) i4 fun s' e=>⟨rfl,⟨d',e,i5,le_trans (add_le_add_right (zuY i4) _) (add_right_comm .. ▸i3)⟩⟩)
  ⟨a,i1,h,hl⟩ fun s2 j3 j4=>X13 j4.at' fun d i1 i2 y=>
 zf9 (.Q (.A .C) (.Q j1 (.Q j3 (.R (.V (i1.trans (congrArg (fun z=>some (D.dS z)) (sj i2))))))))
theorem zb8{kvs:KV}{ns:List Int}(h:kvs.map (fun z=>z.2)=ns.map D.int):fnC x8 77 ["callers"] [] [.dS kvs]=some (.int ns.sum):=
 RS.loop (emb:=D.int) (bd:=fun a s=>upd s "calls" (.int a)) (b:=zzC) (t:=.Name "calls" default) (Inv:=fun l s=>∃ i:Int,s "nc"=some (.int i)∧i+l.sum=ns.sum) (i:=vI (vE "callers")) (s:=upd (par ["callers"] [.dS kvs]) "nc" (.int 0))
  (.V (.V rfl) (congrArg some h)) (fun y y=>rfl) (fun a l s i=>X12 i fun i i1 i2=>.mk (.U i1 (.V rfl)) ⟨rfl,i+a,rfl,(Int.add_assoc ..).trans ((congrArg (i+ ·) sum_cons.symm).trans i2)⟩) ⟨0,rfl,Int.zero_add _⟩
  fun s j1 j2=>X12 j2 fun i i1 i2=>zbo (.Q (.A .C) (.Q j1 (.R (.V (i1.trans (congrArg (fun z=>some (D.int z)) ((add_zero i).symm.trans i2)))))))
theorem zuK{a b r:KV}(hn:(a.map (fun z=>z.1)).Nodup)(hl:a.length+b.length≤900)(h:zvn a b=some r):x12.call "add_callers" [.dS a,.dS b]=some (.dS r):=
 (show _=fnC x7 70 ["target","source"] ["new_callers"] [.dS a,.dS b] by kernel_rfl).trans (zpz hn hl h)
theorem zxR{a b r:KV}{i1 i2 i3 i4 j1 j2 j3 j4:Int}(hn:(a.map (fun z=>z.1)).Nodup)(hl:a.length+b.length≤900)(h:zvn a b=some r):
  x18.call "add_func_stats" [.tup [.int i1,.int i2,.int i3,.int i4,.dS a],.tup [.int j1,.int j2,.int j3,.int j4,.dS b]]=some (.tup [.int (j1+i1),.int (j2+i2),.int (j3+i3),.int (j4+i4),.dS r]):=
 (show _=fnC x12 63 ["target","source"] [] [.tup [.int i1,.int i2,.int i3,.int i4,.dS a],.tup [.int j1,.int j2,.int j3,.int j4,.dS b]] by kernel_rfl).trans
 (zb0 (.Q (.T5 (.V rfl)) (.Q (.T5 (.V rfl)) (.R (.T (.C (.O (.V rfl) (.V rfl) rfl) (.C (.O (.V rfl) (.V rfl) rfl) (.C (.O (.V rfl) (.V rfl) rfl) (.C (.O (.V rfl) (.V rfl) rfl) (.C (.E (.C (.V rfl) (.C (.V rfl) .N)) (zuK hn hl h)) .N))))))))))
end
section
theorem qB{K:Type}[DecidableEq K]{k k':K}{d:D}{a:List (K × D)}:zd ((k,d)::a) k'=if k=k' then some d else zd a k':=by
 unfold zd;by_cases h:k=k'
 ·simp [h]
 ·simp [h]
theorem b9{K:Type}[DecidableEq K]{k:K}{a b:List (K × D)}:zd (a++b) k=(zd a k).or (zd b k):=by
 unfold zd;rw [List.find?_append];cases a.find? fun kv=>kv.1=k<;>simp
theorem qD{K:Type}[DecidableEq K]{k:K}{a:List (K × D)}:zd a k=none↔k∉a.map (fun z=>z.1):=by
 unfold zd;rw [map_eq_none_iff,find?_eq_none];constructor
 ·intro h m;refine X12 (mem_map.mp m) fun p hp e=>?_;exact h p hp (by simpa using e)
 ·intro h p hp e;exact h (mem_map.mpr ⟨p,hp,by simpa using e⟩)
theorem xd{k k':Str}{d:D}:∀ (a:KV),zd (a.map fun kv=>if kv.1=k then (kv.1,d) else kv) k'=if k=k' then (if k∈a.map (fun z=>z.1) then some d else none) else zd a k'
 |[]=>by simp [zd]
 |(q,e)::a=>by
  have ih:=xd (k:=k) (k':=k') (d:=d) a;simp only [map_cons];by_cases hq:q=k
  ·subst hq;simp only [if_true];rw [qB,qB];by_cases hk:q=k'
   ·simp [hk]
   ·simp only [if_neg hk];rw [ih,if_neg hk]
  ·simp only [if_neg hq];rw [qB,qB,ih];by_cases hk:k=k'
   ·subst hk;rw [if_neg hq];have hq':k≠q:=fun e=>hq e.symm;simp only [if_true,map_cons,mem_cons,hq',false_or]
   ·by_cases hk':q=k'
    ·simp [hk',hk]
    ·simp [hk',hk]
theorem zo{a:KV}{k k':Str}{d:D}:zd (qc a k d) k'=if k=k' then some d else zd a k':=by
 unfold qc;by_cases h:a.any (fun kv=>kv.1=k)=true
 ·rw [if_pos h];refine X12 (any_eq_true.mp h) fun p hp e=>?_;have hm:k∈a.map (fun z=>z.1):=mem_map.mpr ⟨p,hp,by simpa using e⟩;rw [xd,if_pos hm]
 ·rw [if_neg h];rw [b9]
  have hk:zd a k=none:=qD.mpr fun m=>by
   refine X12 (mem_map.mp m) fun p hp e=>?_;exact h (any_eq_true.mpr ⟨p,hp,by simpa using e⟩)
  by_cases hkk:k=k'
  ·subst hkk;rw [hk,if_pos rfl];simp [zd]
  ·rw [if_neg hkk];have:zd [(k,d)] k'=none:=by simp [zd,hkk]
   rw [this];cases zd a k'<;>rfl
theorem zxS{a:KV}{k:Str}{d:D}:(qc a k d).map (fun z=>z.1)=if k∈a.map (fun z=>z.1) then a.map (fun z=>z.1) else a.map (fun z=>z.1)++[k]:=by
 unfold qc;by_cases h:a.any (fun kv=>kv.1=k)=true
 ·rw [if_pos h,if_pos (by
   refine X12 (any_eq_true.mp h) fun p hp e=>?_;exact mem_map.mpr ⟨p,hp,by simpa using e⟩)]
  rw [map_map];refine map_congr_left fun p z=>?_;simp only [Function.comp]
  split<;>rfl
 ·rw [if_neg h,if_neg (fun m=>by
   refine X12 (mem_map.mp m) fun p hp e=>?_;exact h (any_eq_true.mpr ⟨p,hp,by simpa using e⟩))]
  simp
set_option tactic.hygienic true in
theorem zT{a:KV}{k:Str}{d:D}(h:(a.map (fun z=>z.1)).Nodup):((qc a k d).map (fun z=>z.1)).Nodup:=by
 rw [zxS]
 split
 ·exact h
 ·rename_i hk;rw [nodup_append];exact ⟨h,by simp,fun x hx y hy e=>hk (by simp at hy;subst hy;subst e;exact hx)⟩
theorem jk{a:KV}{p:Str × D}(h:(a.map (fun z=>z.1)).Nodup)(m:p∈a):zd a p.1=some p.2:=by
 induction a with
 |nil=>cases m
 |cons q a ih=>
  obtain ⟨k,d⟩:=q;rw [qB];simp only [map_cons,nodup_cons] at h;rcases mem_cons.mp m with rfl|m
  ·simp
  ·rw [if_neg (fun e=>h.1 (by rw [e];exact mem_map.mpr ⟨p,m,rfl⟩))];exact ih h.2 m
theorem jx{a:KV}{k:Str}{d:D}(h:zd a k=some d):(k,d)∈a:=by
 simp only [zd,map_eq_some_iff] at h
 (refine X12 h fun q hq z8=>?_;subst z8;try clear h)
 have:=find?_some hq;have hk:q.1=k:=by simpa using this
 rw [←hk];exact List.mem_of_find?_eq_some hq
theorem zjq{f:D→D→Option Bool}{es:KV}:∀ {ds:KV},(∀ p∈ds,∃ e,zd es p.1=some e∧f p.2 e=some true)→wI f es ds=some true
 |[],_=>rfl
 |(k,d)::r,h=>by
  refine X12 (h (k,d) (mem_cons_self ..)) fun e h1 h2=>?_;simp only [wI];dsimp only at h1 h2;rw [h1];dsimp only;rw [h2,zjq fun p m=>h p (mem_cons_of_mem _ m)];rfl
theorem zpj{n:Nat}{a b:KV}(ha:(a.map (fun z=>z.1)).Nodup)(hb:(b.map (fun z=>z.1)).Nodup)(hk:∀ k,k∈a.map (fun z=>z.1)↔k∈b.map (fun z=>z.1))(hv:∀ k d e,zd a k=some d→zd b k=some e→eqD n d e=some true):eqD (n+1) (.dS a) (.dS b)=some true:=by
 have hl:a.length=b.length:=by
  have:=(List.perm_ext_iff_of_nodup ha hb).mpr hk
  simpa using this.length_eq
 refine (if_pos hl).trans (zjq fun p hp=>?_);have h1:=jk ha hp;have hm:=(hk p.1).mp (mem_map.mpr ⟨p,hp,rfl⟩);cases h2:zd b p.1 with
 |none=>exact absurd hm (qD.mp h2)
 |some e=>exact ⟨e,rfl,hv _ _ _ h1 h2⟩
theorem kR(n:Nat)(i:Int):eqD (n+1) (.int i) (.int i)=some true:=congrArg some (beq_self_eq_true i)
theorem zb9(n:Nat)(x:Str):eqD (n+1) (.str x) (.str x)=some true:=congrArg some (beq_self_eq_true x)
theorem gS{f:D→D→Option Bool}:∀ {xs ys:List D},xs.length=ys.length→(∀ (i:Nat) (x y:D),xs[i]? =some x→ys[i]? =some y→f x y=some true)→yZ f xs ys=some true
 |[],[],_,_=>rfl
 |x::xs,y::ys,h,hf=>by
  show ((f x y).bind fun b=>(yZ f xs ys).bind fun c=>some (b&&c))=_
  rw [hf 0 x y rfl rfl,gS (Nat.succ.inj h) fun i x y h1 h2=>hf (i+1) x y h1 h2];rfl
 |[],_::_,h,_=>Nat.noConfusion h
 |_::_,[],h,_=>Nat.noConfusion h
theorem zzq{n:Nat}{a b:List D}(h:a.length=b.length)(hf:∀ (i:Nat) (x y:D),a[i]? =some x→b[i]? =some y→eqD n x y=some true):eqD (n+1) (.tup a) (.tup b)=some true:=(if_pos h).trans (gS h hf)
theorem zjz{n:Nat}{a b:List D}(h:a.length=b.length)(hf:∀ (i:Nat) (x y:D),a[i]? =some x→b[i]? =some y→eqD n x y=some true):eqD (n+1) (.list a) (.list b)=some true:=(if_pos h).trans (gS h hf)
def zxT(d:D):Prop:=(∃ i,d= .int i)∨∃ is:List Int,d= .tup (is.map .int)
theorem zjj{n:Nat}{d:D}(h:zxT d):eqD (n+2) d d=some true:=by
 rcases h with ⟨i,rfl⟩|⟨is,rfl⟩
 ·exact kR _ _
 ·refine zzq rfl fun i x y h1 h2=>?_;rw [h1] at h2;cases h2;rw [getElem?_map] at h1;cases q:is[i]? with
  |none=>rw [q] at h1;cases h1
  |some j=>rw [q] at h1;cases h1;exact kR _ _
end
section
noncomputable def zy:List Int:=[0,256,257,258,259]
noncomputable def bg(nm:Int→Str)(t:Int):Str:=nm t++"!"
structure zZ(nm:Int→Str):Prop where
 inj:∀ a∈zy,∀ b∈zy,nm a=nm b→a=b
 bang:∀ a∈zy,∀ b∈zy,nm a≠bg nm b
 bangInj:∀ a∈zy,∀ b∈zy,bg nm a=bg nm b→a=b
 len:∀ a∈zy,(nm a).length≤100
section
variable {nm:Int→Str} {tm:Int→Int} (N:zZ nm)
theorem qj{q:Int→Str}(h:∀ a∈zy,∀ b∈zy,q a=q b→a=b){t:Int}(ht:t∈zy):zy.find? (fun x=>q x=q t)=some t:=by
 cases e:zy.find? (fun x=>q x=q t) with
 |none=>have:=find?_eq_none.mp e t ht;simp at this
 |some u=>
  have h1:=List.mem_of_find?_eq_some e;have h2:q u=q t:=by simpa using find?_some e
  rw [h u h1 t ht h2]
theorem wY{q:Int→Str}{k:Str}(h:∀ a∈zy,q a≠k):zy.find? (fun x=>q x=k)=none:=by
 rw [find?_eq_none];intro x hx;simpa using h x hx
theorem zF{q:Int→Str}{k:Str}{t:Int}(h:zy.find? (fun x=>q x=k)=some t):t∈zy∧q t=k:=⟨List.mem_of_find?_eq_some h,by simpa using find?_some h⟩
theorem xB:∀ l:List Int,qp asI (l.map .int)=some l
 |[]=>rfl
 |z::l=>jF rfl (xB l)
theorem zxL(a b:List Int)(h:a.length≤64∧b.length≤64):zgB (.tup (a.map .int)) (.tup (b.map .int))=some (.tup ((zipWith (· + ·) a b).map .int)):=
 (congrArg (fun z=>z.bind fun is=>(qp asI (b.map .int)).bind fun js=>if is.length≤64∧js.length≤64 then some (D.tup ((zipWith (· + ·) is js).map .int)) else none) (xB a)).trans
  ((congrArg (fun z=>z.bind fun js=>if a.length≤64∧js.length≤64 then some (D.tup ((zipWith (· + ·) a js).map .int)) else none) (xB b)).trans (if_pos h))
noncomputable def zyc(tm:Int→Int)(t h n:Int):List Int:=[if t=h then 0 else n,n,n *tm h,n *(tm t+tm h)]
noncomputable def bQ(tm:Int→Int)(t h n:Int):D:=.tup ((zyc tm t h n).map .int)
noncomputable def zN(nm:Int→Str)(tm:Int→Int)(h:Int)(cnt:Int→Int)(k:Str):Option D:=
 match zy.find? (fun t=>nm t=k) with
 |some t=>if 0<cnt t then some (.int (cnt t)) else none
 |none=>match zy.find? (fun t=>bg nm t=k) with
  |some t=>if 0<cnt t then some (bQ tm t h (cnt t)) else none
  |none=>none
structure zm(nm:Int→Str)(tm:Int→Int)(h:Int)(cnt:Int→Int)(kvs:KV):Prop where
 nodup:(kvs.map (fun z=>z.1)).Nodup
 look:∀ k,zd kvs k=zN nm tm h cnt k
noncomputable def bZ(c:Int→Int)(t:Int):Int→Int:=fun x=>if x=t then c x+1 else c x
theorem ym{a:KV}{k:Str}:k∈a.map (fun z=>z.1)↔zd a k≠none:=by
 constructor
 ·intro h e;exact qD.mp e h
 ·intro h;exact Classical.byContradiction fun n=>h (qD.mpr n)
theorem kg{h:Int}{cnt:Int→Int}{k:Str}{d:D}(e:zN nm tm h cnt k=some d):zxT d:=by
 unfold zN at e
 split at e
 ·split at e
  ·cases e;exact .inl ⟨_,rfl⟩
  ·cases e
 ·split at e
  ·split at e
   ·cases e;exact .inr ⟨_,rfl⟩
   ·cases e
  ·cases e
theorem zm.flat{h:Int}{cnt:Int→Int}{a:KV}(x:zm nm tm h cnt a):∀ p∈a,zxT p.2:=fun p hp=>by
 have:=jk x.nodup hp;rw [x.look] at this;exact kg this
theorem zm.eq{n:Nat}{h:Int}{cnt cnt':Int→Int}{a b:KV}(x:zm nm tm h cnt a)(y:zm nm tm h cnt' b)(hc:∀ t∈zy,cnt t=cnt' t):eqD (n+3) (.dS a) (.dS b)=some true:=by
 have hs:∀ k,zN nm tm h cnt k=zN nm tm h cnt' k:=fun k=>by
  unfold zN;cases e1:zy.find? (fun t=>nm t=k) with
  |some t=>dsimp only;rw [hc t (zF e1).1]
  |none=>
   dsimp only;cases e2:zy.find? (fun t=>bg nm t=k) with
   |some t=>dsimp only;rw [hc t (zF e2).1]
   |none=>rfl
 refine zpj x.nodup y.nodup (fun k=>?_) fun k d e h1 h2=>?_
 ·rw [ym,ym,x.look,y.look,hs]
 ·rw [x.look] at h1;rw [y.look, ←hs,h1] at h2;cases h2;exact zjj (kg h1)
include N
set_option tactic.hygienic true in
theorem zm.step{h t:Int}{cnt:Int→Int}{a:KV}(x:zm nm tm h cnt a)(ht:t∈zy)(h0:0≤cnt t):
  ∃ b,zvn a [(nm t,.int 1),(bg nm t,bQ tm t h 1)]=some b∧zm nm tm h (bZ cnt t) b∧b.length≤a.length+2:=by
 have l1:zd a (nm t)=if 0<cnt t then some (.int (cnt t)) else none:=by
  rw [x.look];unfold zN;rw [qj N.inj ht]
 have l2:zd a (bg nm t)=if 0<cnt t then some (bQ tm t h (cnt t)) else none:=by
  rw [x.look];unfold zN;rw [wY fun b hb=>N.bang b hb t ht,qj N.bangInj ht]
 have hne:nm t≠bg nm t:=N.bang t ht t ht
 have s1:zvm a (nm t,.int 1)=some (qc a (nm t) (.int (cnt t+1))):=by
  unfold zvm;dsimp only;rw [l1]
  split
  ·rename_i o ho
   split at ho
   ·cases ho;rfl
   ·cases ho
  ·rename_i ho
   split at ho
   ·cases ho
   ·have:cnt t=0:=by lia
    rw [this];rfl
 have s2:zvm (qc a (nm t) (.int (cnt t+1))) (bg nm t,bQ tm t h 1)=some (qc (qc a (nm t) (.int (cnt t+1))) (bg nm t) (bQ tm t h (cnt t+1))):=by
  unfold zvm;dsimp only;rw [zo,if_neg hne,l2]
  split
  ·rename_i o ho
   split at ho
   ·cases ho;simp only [bQ]
    have:zgB (D.tup ((zyc tm t h 1).map .int)) (D.tup ((zyc tm t h (cnt t)).map .int))=some (.tup ((zyc tm t h (cnt t+1)).map .int)):=by
     refine (zxL _ _ ⟨le_of_ble_eq_true rfl,le_of_ble_eq_true rfl⟩).trans (congrArg (fun l:List Int=>some (D.tup (l.map .int))) ?_)
     show [_+_,_+_,_+_,_+_]=_
     have e1:((if t=h then (0:Int) else 1)+if t=h then 0 else cnt t)=if t=h then 0 else cnt t+1:=by split<;>lia
     have e2:1+cnt t=cnt t+1:=by lia
     have e3:1 *tm h+cnt t *tm h=(cnt t+1) *tm h:=by rw [←add_mul,Int.add_comm]
     have e4:1 *(tm t+tm h)+cnt t *(tm t+tm h)=(cnt t+1) *(tm t+tm h):=by rw [←add_mul,Int.add_comm]
     rw [e1,e2,e3,e4];rfl
    rw [this];rfl
   ·cases ho
  ·rename_i ho
   split at ho
   ·cases ho
   ·have:cnt t=0:=by lia
    rw [this];rfl
 refine ⟨qc (qc a (nm t) (.int (cnt t+1))) (bg nm t) (bQ tm t h (cnt t+1)),by simp only [zvn,s1,s2,Option.bind_some],⟨zT (zT x.nodup),fun k=>?_⟩,?_⟩
 ·rw [zo,zo,x.look];unfold zN;by_cases k1:bg nm t=k
  ·subst k1;rw [if_pos rfl,wY fun b hb=>N.bang b hb t ht,qj N.bangInj ht];simp only [bZ,if_true];rw [if_pos (by lia)]
  ·rw [if_neg k1];by_cases k2:nm t=k
   ·subst k2;rw [if_pos rfl,qj N.inj ht];simp only [bZ,if_true];rw [if_pos (by lia)]
   ·rw [if_neg k2];cases e1:zy.find? (fun t=>nm t=k) with
    |some u=>
     have:u≠t:=fun q=>k2 (q▸(zF e1).2);simp only [bZ,if_neg this]
    |none=>
     dsimp only;cases e2:zy.find? (fun t=>bg nm t=k) with
     |some u=>
      have:u≠t:=fun q=>k1 (q▸(zF e2).2);simp only [bZ,if_neg this]
     |none=>rfl
 ·have:=j9 (qc a (nm t) (.int (cnt t+1))) (bg nm t) (bQ tm t h (cnt t+1));have:=j9 a (nm t) (.int (cnt t+1));lia
omit N
noncomputable def ya(g:Int→Int)(c:Int→Int):Int:=(zy.map fun x=>c x *g x).sum
theorem zxC(g c:Int→Int){t:Int}(ht:t∈zy):ya g (bZ c t)=ya g c+g t:=by
 simp only [zy,mem_cons,not_mem_nil,or_false] at ht;rcases ht with rfl|rfl|rfl|rfl|rfl<;>simp [ya,zy,bZ,add_mul]<;>lia
noncomputable def g0(h:Int):Int→Int:=fun x=>if x=h then 0 else 1
noncomputable def kf(tm:Int→Int)(h:Int)(c:Int→Int)(cs:KV):D:=.tup [.int (ya (g0 h) c),.int (ya (fun z=>1) c),.int (ya (fun z=>tm h) c),.int (ya (fun x=>tm x+tm h) c),.dS cs]
structure ze(nm:Int→Str)(tm:Int→Int)(c:Int→Int→Int)(kvs:KV):Prop where
 nodup:(kvs.map (fun z=>z.1)).Nodup
 out:∀ k,(∀ h∈zy,nm h≠k)→zd kvs k=none
 zero:∀ h∈zy,(∀ t∈zy,c h t=0)→zd kvs (nm h)=none
 line:∀ h∈zy,(∃ t∈zy,0<c h t)→∃ cs,zd kvs (nm h)=some (kf tm h (c h) cs)∧zm nm tm h (c h) cs
theorem ze.has{c:Int→Int→Int}{a:KV}(x:ze nm tm c a)(hc:∀ h t,0≤c h t){k:Str}{d:D}(e:zd a k=some d):∃ h∈zy,nm h=k∧(∃ t∈zy,0<c h t):=by
 apply Classical.byContradiction;intro hn;by_cases h1:∀ h∈zy,nm h≠k
 ·rw [x.out k h1] at e;cases e
 ·refine X11 (Classical.not_forall.mp h1) fun h hh=>?_;refine X02 (Classical.not_imp.mp hh) fun hm hk=>?_;have hk:=Classical.not_not.mp hk;refine hn ⟨h,hm,hk,Classical.byContradiction fun hz=>?_⟩
  have:∀ t∈zy,c h t=0:=fun t ht=>by
   have:=hc h t;have:¬ 0<c h t:=fun q=>hz ⟨t,ht,q⟩;lia
  rw [←hk,x.zero h hm this] at e;cases e
theorem kT{g c c':Int→Int}(h:∀ t∈zy,c t=c' t):ya g c=ya g c':=by
 unfold ya
 congr 1
 exact map_congr_left fun t ht=>by rw [h t ht]
theorem ze.eq{n:Nat}{c c':Int→Int→Int}{a b:KV}(x:ze nm tm c a)(y:ze nm tm c' b)(hc:∀ h t,0≤c h t)(hc':∀ h t,0≤c' h t)(he:∀ h∈zy,∀ t∈zy,c h t=c' h t):eqD (n+5) (.dS a) (.dS b)=some true:=by
 refine zpj x.nodup y.nodup (fun k=>?_) fun k d e h1 h2=>?_
 ·rw [ym,ym];constructor
  ·intro h;refine X11 (Option.ne_none_iff_exists'.mp h) fun d hd=>?_;obtain ⟨u,hu,rfl,t,ht,h0⟩:=x.has hc hd;refine X12 (y.line u hu ⟨t,ht,by rw [←he u hu t ht];exact h0⟩) fun cs q v=>?_;rw [q];exact fun z=>nomatch z
  ·intro h;refine X11 (Option.ne_none_iff_exists'.mp h) fun d hd=>?_;obtain ⟨u,hu,rfl,t,ht,h0⟩:=y.has hc' hd;refine X12 (x.line u hu ⟨t,ht,by rw [he u hu t ht];exact h0⟩) fun cs q v=>?_;rw [q];exact fun z=>nomatch z
 ·obtain ⟨u,hu,rfl,t,ht,h0⟩:=x.has hc h1;refine X12 (x.line u hu ⟨t,ht,h0⟩) fun cs q hcs=>?_;refine X12 (y.line u hu ⟨t,ht,by rw [←he u hu t ht];exact h0⟩) fun cs' q' hcs'=>?_;rw [h1] at q;cases q;rw [h2] at q';cases q';have hs:∀ g,ya g (c u)=ya g (c' u):=fun g=>kT (he u hu);refine zzq rfl fun i p r e1 e2=>?_
  match i with
  |0=>simp at e1 e2;subst e1 e2;rw [hs];exact kR _ _
  |1=>simp at e1 e2;subst e1 e2;rw [hs];exact kR _ _
  |2=>simp at e1 e2;subst e1 e2;rw [hs];exact kR _ _
  |3=>simp at e1 e2;subst e1 e2;rw [hs];exact kR _ _
  |4=>simp at e1 e2;subst e1 e2;exact hcs.eq hcs' (he u hu)
  |n+5=>simp at e1
end
end
section
section
variable {nm:Int→Str} {tm:Int→Int} (N:zZ nm)
noncomputable def zR(nm:Int→Str):D:=.dI (zy.map fun n=>(n,.str (nm n)))
noncomputable def qf(tm:Int→Int):D:=.dI (zy.map fun n=>(n,.int (tm n)))
omit N in
theorem gT{K:Type}[DecidableEq K]{f:K→D}{t:K}:∀ {l:List K},t∈l→zd (l.map fun n=>(n,f n)) t=some (f t)
 |a::l,h=>by
  show (match decide (a=t) with|true=>some (a,f a)|false=>(l.map fun n=>(n,f n)).find? fun kv=>kv.1=t:Option (K × D)).map (fun z=>z.2)=_
  cases e:decide (a=t) with
  |true=>exact congrArg (fun x=>some (f x)) (of_decide_eq_true e)
  |false=>exact gT ((mem_cons.mp h).resolve_left fun q=>of_decide_eq_false e q.symm)
theorem qz{t:Int}(ht:t∈zy):zY (zR nm) (.int t)=some (.str (nm t)):=gT ht
theorem yn{t:Int}(ht:t∈zy):zY (qf tm) (.int t)=some (.int (tm t)):=gT ht
theorem xf{h:Int}{c:Int→Int}(hz:∀ t∈zy,c t=0):zm nm tm h c []:=⟨.nil,fun k=>by
 unfold zN;cases e1:zy.find? (fun t=>nm t=k) with
 |some t=>dsimp only;rw [if_neg (by rw [hz t (zF e1).1];simp)];rfl
 |none=>
  dsimp only;cases e2:zy.find? (fun t=>bg nm t=k) with
  |some t=>dsimp only;rw [if_neg (by rw [hz t (zF e2).1];simp)];rfl
  |none=>rfl⟩
theorem bJ{g c:Int→Int}(hz:∀ t∈zy,c t=0):ya g c=0:=by
 rw [kT (c':=fun z=>0) hz];simp [ya,zy]
set_option tactic.hygienic true in
theorem zm.len{h:Int}{c:Int→Int}{a:KV}(x:zm nm tm h c a):a.length≤10:=by
 have:(a.map (fun z=>z.1)) ⊆ zy.map nm++zy.map (bg nm):=fun k hk=>by
  have:=ym.mp hk;rw [x.look] at this;unfold zN at this
  split at this
  ·rename_i t e;have:=zF e;exact mem_append_left _ (mem_map.mpr ⟨t,this.1,this.2⟩)
  ·split at this
   ·rename_i t e;have:=zF e;exact mem_append_right _ (mem_map.mpr ⟨t,this.1,this.2⟩)
   ·exact absurd rfl this
 have:=Nodup.length_le_of_subset x.nodup this
 simpa [zy] using this
theorem ze.len{c:Int→Int→Int}{a:KV}(x:ze nm tm c a):a.length≤5:=by
 have:(a.map (fun z=>z.1)) ⊆ zy.map nm:=fun k hk=>by
  have hk:=ym.mp hk;apply Classical.byContradiction;intro hn;exact hk (x.out k fun h hh e=>hn (mem_map.mpr ⟨h,hh,e⟩))
 have:=Nodup.length_le_of_subset x.nodup this
 simpa [zy] using this
theorem ze.get{c:Int→Int→Int}{a:KV}(x:ze nm tm c a)(hc:∀ h t,0≤c h t){h:Int}(hh:h∈zy):∃ cs,(zd a (nm h)).getD (.tup [.int 0,.int 0,.int 0,.int 0,.dS []])=kf tm h (c h) cs∧zm nm tm h (c h) cs:=by
 by_cases hp:∃ t∈zy,0<c h t
 ·refine X12 (x.line h hh hp) fun cs h1 h2=>?_;exact ⟨cs,by rw [h1];rfl,h2⟩
 ·have hz:∀ t∈zy,c h t=0:=fun t ht=>by
   have:=hc h t;have:¬ 0<c h t:=fun q=>hp ⟨t,ht,q⟩;lia
  refine ⟨[],?_,xf hz⟩;rw [x.zero h hh hz];simp only [kf,bJ hz,Option.getD_none]
noncomputable def gL(c:Int→Int→Int)(h t:Int):Int→Int→Int:=fun x=>if x=h then bZ (c x) t else c x
include N
theorem ze.step{c:Int→Int→Int}{a:KV}(x:ze nm tm c a){h t:Int}(hh:h∈zy)(ht:t∈zy){cs:KV}(hcs:zm nm tm h (bZ (c h) t) cs)(hc:∀ h t,0≤c h t):
  ze nm tm (gL c h t) (qc a (nm h) (kf tm h (bZ (c h) t) cs)) where
 nodup:=zT x.nodup
 out:=fun k hk=>by rw [zo,if_neg (hk h hh)];exact x.out k hk
 zero:=fun u hu hz=>by
  by_cases e:u=h
  ·subst e;have:=hz t ht;simp only [gL,bZ,if_true] at this;have:=hc u t;lia
  ·rw [zo,if_neg (fun q=>e (N.inj h hh u hu q).symm)];exact x.zero u hu fun t ht=>by have:=hz t ht;simpa only [gL,if_neg e] using this
 line:=fun u hu hp=>by
  by_cases e:u=h
  ·subst e;refine ⟨cs,?_,?_⟩
   ·rw [zo,if_pos rfl];simp only [gL,if_true]
   ·simpa only [gL,if_true] using hcs
  ·simp only [gL,if_neg e] at hp ⊢;rw [zo,if_neg (fun q=>e (N.inj h hh u hu q).symm)];exact x.line u hu hp
omit N in
theorem zyo{a b:Str}{x y:D}(h:a≠b):qV [(.str a,x),(.str b,y)]=some (.dS [(a,x),(b,y)]):=
 congrArg (fun z=>some (D.dS z)) (if_neg fun q=>h (of_decide_eq_true ((Bool.or_false _).symm.trans q)))
omit N in
theorem zuX{β:Type}{C:Cx}{ow:Bool}{a:KV}{k:Str}{d:D}{f:D→Option β}:yC C "get" ow (.dS a) [.str k,d] f=f ((zd a k).getD d):=by kernel_rfl
omit N in
theorem Rn.get{C:Cx}{ow:Bool}{s:Sg}{e:Ex}{i:Ls}{a:KV}{k:Str}{d r:D}(h1:Rn e s (.dS a))(h2:RL i s [.str k,d])(h:(zd a k).getD d=r):Rn (ME C "get" ow e i) s r:=.H h1 h2 (zuX.trans (congrArg some h))
omit N in
theorem zzz{a b:Str}(h:a.length+b.length≤zz):yQ .Add (.str a) (.str b)=some (.str (a++b)):=if_pos h
omit N in
theorem Rn.ne{s:Sg}{t h i j:Int}{a b e f:Ex}(h1:Rn a s (.int t))(h2:Rn b s (.int h))(h3:Rn e s (.int i))(h4:Rn f s (.int j)):Rn (fE (qT .NotEq a b) e f) s (.int (if t=h then j else i)):=
 .F (p:= !(t==h)) (.Q h1 h2 rfl) (fun q=>rwR (P:=fun z=>Rn e s (.int z)) (if_neg (by simpa using q)) h3) fun q=>rwR (P:=fun z=>Rn f s (.int z)) (if_pos (by simpa using q)) h4
def zpy(d:D):Prop:=∃ kv:KV,d= .tup [.dS kv,.list (kv.map b8)]∧(∀ p∈kv,zxT p.2)∧kv.length≤100
structure zmN(nm:Int→Str)(tm:Int→Int)(c:Int→Int→Int)(n:Nat)(s:Sg)(a:KV)(kept:List D):Prop where
 h1:s "names"=some (zR nm)
 h2:s "times"=some (qf tm)
 h3:s "book"=some (.dS a)
 h4:s "kept"=some (.list kept)
 B:ze nm tm c a
 hk:∀ d∈kept,zpy d
 hl:kept.length+2 *n≤5000
omit N in
theorem zfP(tm:Int→Int)(t h:Int):bQ tm t h 1= .tup [.int (if t=h then 0 else 1),.int 1,.int (tm h),.int (tm t+tm h)]:=by
 unfold bQ zyc;rw [one_mul,one_mul];rfl
theorem zxO{s:Sg}{t h:Int}(ht:t∈zy)(hh:h∈zy){c:Int→Int→Int}(hc:∀ h t,0≤c h t){n:Nat}{a:KV}{kept:List D}(A:zmN nm tm c (n+1) s a kept):
  To zqC (upd (upd s "tail" (.int t)) "head" (.int h)) fun s f=>f= .next∧∃ a kept,zmN nm tm (gL c h t) n s a kept:=
 X12 (A.B.get hc hh) fun cs g1 g2=>X13 (g2.step N ht (hc h t)) fun cs' f1 f2 f3=>
 have row:RS rb0 (upd (upd s "tail" (.int t)) "head" (.int h)) (upd (upd (upd s "tail" (.int t)) "head" (.int h)) "row" (bQ tm t h 1)) .next:=
  rwR (P:=fun z=>RS rb0 _ (upd _ "row" z) .next) (zfP tm t h) (.A (.T (.C (.ne (.V rfl) (.V rfl) .C .C) (.C .C (.C (.I (.V A.h2) (.V rfl) (yn hh)) (.C (.O (.I (.V A.h2) (.V rfl) (yn ht)) (.I (.V A.h2) (.V rfl) (yn hh)) rfl) .N))))))
 have bang {s:Sg} (e1:s "names"=some (zR nm)) (e2:s "tail"=some (.int t)):Rn (oE .Add (jE (vE "names") (vE "tail")) (sE "!")) s (.str (bg nm t)):=.O (.I (.V e1) (.V e2) (qz ht)) .C (zzz (le_trans (succ_le_succ (N.len t ht)) (by decide)));have sum (g:Int→Int) (x:Int) (e:x=g t):D.int (x+ya g (c h))= .int (ya g (bZ (c h) t)):=congrArg D.int (by rw [zxC g (c h) ht,Int.add_comm,e])
 have line:D.tup [.int ((if t=h then 0 else 1)+ya (g0 h) (c h)),.int (1+ya (fun y=>1) (c h)),.int (1 *tm h+ya (fun y=>tm h) (c h)),.int (1 *(tm t+tm h)+ya (fun x=>tm x+tm h) (c h)),.dS cs']=kf tm h (bZ (c h) t) cs':=by
  unfold kf;rw [sum (g0 h) (if t=h then 0 else 1) rfl,sum (fun y=>1) _ rfl,sum (fun y=>tm h) _ (one_mul _),sum (fun x=>tm x+tm h) _ (one_mul _)]
 have hl:kept.length+2 *n+2≤5000:=A.hl;have hl1:kept.length+1≤5000:=le_trans (succ_le_succ (le_add_right ..)) (le_of_succ_le hl);have got:zd (qc a (nm h) (kf tm h (bZ (c h) t) cs')) (nm h)=some (kf tm h (bZ (c h) t) cs'):=(zo ..).trans (if_pos rfl);have last {s:Sg} (e1:s "names"=some (zR nm)) (e2:s "head"=some (.int h)) (e3:s "book"=some (.dS (qc a (nm h) (kf tm h (bZ (c h) t) cs')))):Rn (jE (jE (vE "book") (jE (vE "names") (vE "head"))) (nE 4)) s (.dS cs'):=.I (.I (.V e3) (.I (.V e1) (.V e2) (qz hh)) got) .C rfl
 .mk (.Q row (.Q (.A (.Di (.C (.I (.V A.h1) (.V rfl) (qz ht)) (.C (bang A.h1 rfl) .N)) (.C .C (.C (.V rfl) .N)) (zyo (N.bang t ht t ht))))
  (.Q (.L A.h4 (.T (.C (.V rfl) (.C (.L (.C (.T (.C (.I (.V A.h1) (.V rfl) (qz ht)) (.C .C .N))) (.C (.T (.C (bang A.h1 rfl) (.C (.V rfl) .N))) .N))) .N))) (cpN (le_of_succ_le hl1)))
  (.Q (.X (.E (.C (.get (.V A.h3) (.C (.I (.V A.h1) (.V rfl) (qz hh)) (.C (.T (.C .C (.C .C (.C .C (.C .C (.C .C .N)))))) .N)) g1) (.C (.O (.V rfl) (.T (.C (.V rfl) .N)) rfl) .N)) (zxR g2.nodup (le_trans (add_le_add_right g2.len 2) (by decide)) f1))
   (.I (.V A.h1) (.V rfl) (qz hh)) A.h3 ((gR (le_trans A.B.len (by decide))).trans (congrArg (fun z=>some (D.dS (qc a (nm h) z))) line)))
  (.L rfl (.T (.C (last A.h1 rfl rfl) (.C (.P (last A.h1 rfl rfl) rfl (cpM f2.len)) .N))) (by rw [length_append];exact cpN hl1))))))
  ⟨rfl,_,_,A.h1,A.h2,rfl,rfl,A.B.step N hh ht f2 hc,fun d hd=>(mem_append.mp hd).elim (fun m=>(mem_append.mp m).elim (A.hk d) fun m=>by
   rw [mem_singleton.mp m];exact ⟨[(nm t,.int 1),(bg nm t,bQ tm t h 1)],rfl,fun p hp=>(mem_cons.mp hp).elim (fun e=>e▸ .inl ⟨_,rfl⟩) fun m=>mem_singleton.mp m▸ .inr ⟨_,rfl⟩,le_of_ble_eq_true rfl⟩) fun m=>by
   rw [mem_singleton.mp m];exact ⟨cs',rfl,f2.flat,le_trans f2.len (by decide)⟩,by
  rw [length_append,length_append]
  show kept.length+1+1+2 *n≤5000
  rw [add_right_comm,add_right_comm (kept.length)];exact hl⟩
end
end
section
section
variable {nm:Int→Str} {tm:Int→Int}
noncomputable def gC(made:List Int)(h t:Int):Int:=((made.filter fun s=>s.fmod 512=h∧s.fdiv 512=t).length:Nat)
theorem qi(made:List Int)(h t:Int):0≤gC made h t:=natCast_nonneg _
theorem zxA(made:List Int)(s:Int):gL (gC made) (s.fmod 512) (s.fdiv 512)=gC (made++[s]):=by
 funext h t
 unfold gL bZ gC;by_cases h1:h=s.fmod 512
 ·subst h1;by_cases h2:t=s.fdiv 512
  ·subst h2;simp
  ·have:¬ s.fdiv 512=t:=fun e=>h2 e.symm;simp [h2,this]
 ·have:¬ s.fmod 512=h:=fun e=>h1 e.symm;simp [h1,this]
structure zH(made:List Int):Prop where
 small:∀ s∈made,za s
 tail:∀ s∈made,s.fdiv 512∈zy
 head:∀ s∈made,s.fmod 512∈zy
theorem bY:ze nm tm (fun z z=>0) []:=⟨.nil,fun z z=>rfl,fun z z z=>rfl,fun z z h=>by refine X12 h fun t z h=>?_;contradiction⟩
theorem zya(a b:D):x18.call "divmod" [a,b]=xL a b:=by kernel_rfl
noncomputable def zbQ(s:Int):D:=.tup [.int (s.fdiv 512),.int (s.fmod 512)]
theorem zjy(s:Int):xL (.int s) (.int 512)=some (zbQ s):=by kernel_rfl
theorem zxE{n:Nat}{kv:KV}(h:∀ p∈kv,zxT p.2):eqD (n+4) (.list (kv.map b8)) (.list (kv.map b8))=some true:=by
 refine zjz rfl fun i x y h1 h2=>?_;rw [h1] at h2;cases h2;rw [getElem?_map] at h1;cases q:kv[i]? with
 |none=>rw [q] at h1;cases h1
 |some p=>
  rw [q] at h1;cases h1;refine zzq rfl fun j x y h3 h4=>?_;rw [h3] at h4;cases h4
  match j with
  |0=>simp [b8] at h3;subst h3;exact zb9 _ _
  |1=>simp at h3;subst h3;exact zjj (h p (mem_of_getElem? q))
  |j+2=>simp at h3
theorem zye{f:D→Option (List D)}{ds:List D}(h:∀ d∈ds,f d=some []):yc f ds=some []:=
 rwL (P:=fun z=>yc f z=some []) (List.map_id ds) ((w8 (emb:=id) (r:=fun y=>[]) h).trans (congrArg some (List.flatMap_eq_nil_iff.mpr fun y y=>rfl)))
theorem RC.none{B:Tg}{i:Ls}{c:Cm D}{s:Sg}{ds:List D}(h:RL i s ds)(h2:∀ d∈ds,∃ s',(∀ γ k,B γ s d k=k s')∧RC c s' []):RC (fC B i c) s []:=
 (h _ _).trans (zye fun d m=>X12 (h2 d m) fun z e r=>(e _ _).trans r)
theorem zxI(N:zZ nm){c:Int→Int→Int}(hc:∀ h t,0≤c h t){s:Sg}{a:KV}{kept:List D}(h3:s "book"=some (.dS a))(h4:s "kept"=some (.list kept))(B:ze nm tm c a)(hk:∀ d∈kept,zpy d):
  RS (rS (fE (qT .Eq (oE .Add (LE (f2C "one" "many" (xI (vE "kept")) (iC (qT .NotEq (pE (vE "one")) (vE "many")) (mC (vE "many"))))) (LE (f1C "row" (vI (vE "book")) (f1C "one" (xI (zE (vE "row") nP (eP (nE 4)) nP)) (iC (nT (eT (wE (zm4 "int") "one"))) (mC (vE "one"))))))) (lE nL)) (vE "book") (cE (.dS [])))) s s (.ret (.dS a)):=
 .R (.F (p:=true) (.Q (.O (.lc (RC.none (.X (.V h4) rfl) fun d m=>X13 (hk d m) fun kv e k1 k2=>⟨upd (upd s "one" (.dS kv)) "many" (.list (kv.map b8)),fun z z=>e▸rfl,RC.N (.Q (.P (.V rfl) rfl (cpM k2)) (.V rfl) (congrArg (·.map (!·)) (zxE k1)))⟩) (zero_le _))
  (.lc (RC.none (.V (.V h3) rfl) fun d m=>⟨_,fun z z=>rfl,X12 (mem_map.mp m) fun p hp e=>
   have hlk:=jk B.nodup hp
   X13 (B.has hc hlk) fun u hu q hpos=>X12 (B.line u hu hpos) fun cs q' z=>
   have e:kf tm u (c u) cs=d:=(sj (((congrArg (zd a) q).symm.trans q').symm.trans hlk)).trans e
   RC.none (ds:=[.int (ya (g0 u) (c u)),.int (ya (fun z=>1) (c u)),.int (ya (fun z=>tm u) (c u)),.int (ya (fun x=>tm x+tm u) (c u))]) (.X (.Z (.V (congrArg some e.symm)) .N (.E .C rfl) .N rfl) rfl) fun d m=>⟨_,fun z z=>rfl,RC.N (.N (p:=true) (.E (.W rfl (by
    rcases mem_cons.mp m with rfl|m
    ·rfl
    ·rcases mem_cons.mp m with rfl|m
     ·rfl
     ·rcases mem_cons.mp m with rfl|m
      ·rfl
      ·rw [mem_singleton.mp m];rfl))))⟩⟩) (zero_le _)) rfl) (.L .N) rfl) (fun z=>.V h3) fun q=>Bool.noConfusion q)
theorem zwq(N:zZ nm){made:List Int}(M:zH made)(hl:made.length≤2000):∃ kvs,fnC x18 197 ["names","times","made"] ["book","kept"] [zR nm,qf tm,iL made]=some (.dS kvs)∧ze nm tm (gC made) kvs:=
 RS.loop (emb:=zbQ) (bd:=fun i s=>upd (upd s "tail" (.int (i.fdiv 512))) "head" (.int (i.fmod 512))) (b:=zqC) (t:=zgM "tail" "head") (Inv:=fun l s=>∃ d a kept,d++l=made∧zmN nm tm (gC d) l.length s a kept) (l:=made) (s:=upd (upd (par ["names","times","made"] [zR nm,qf tm,iL made]) "book" (.dS [])) "kept" (.list []))
  (.X (.lc (.FM (.X (.V rfl) (zf _)) (fun z z z=>rfl) fun i z=>.E (.C (.V rfl) (.C .C .N)) ((zya _ _).trans (zjy i))) (cpM hl)) rfl) (fun z z=>rfl)
  (fun i l s q=>X32 q fun d a kept e A=>
   have hm:i∈made:=e▸mem_append_right _ (mem_cons_self ..)
   (zxO N (M.tail i hm) (M.head i hm) (qi d) A).on fun s' f r q=>.mk r ⟨q.1,X21 q.2 fun a k A=>⟨d++[i],a,k,(append_assoc ..).trans e,zxA d i▸A⟩⟩)
  ⟨[],[],[],rfl,rfl,rfl,rfl,rfl,bY,fun z m=>absurd m not_mem_nil,(zero_add _).symm▸le_trans (mul_le_mul_left 2 hl) (by decide)⟩ fun s' h1 h2=>X32 h2 fun d a kept e A=>
  have e:d=made:=(append_nil d).symm.trans e
  ⟨a,zfY (.Q (.Ds (.C .C (.C (.L .N) .N))) (.Q h1 (zxI N (qi d) A.h3 A.h4 A.B A.hk))),e▸A.B⟩
end
end
section
section
variable {nm:Int→Str} {tm:Int→Int}
noncomputable def zqh(c:Int→Int)(t m:Int):Int→Int:=fun x=>if x=t then m else c x
theorem zm.set(N:zZ nm){h t m:Int}{cnt:Int→Int}{a:KV}(x:zm nm tm h cnt a)(ht:t∈zy)(h0:0<m):
  zm nm tm h (zqh cnt t m) (qc (qc a (nm t) (.int m)) (bg nm t) (bQ tm t h m)) where
 nodup:=zT (zT x.nodup)
 look:=fun k=>by
  rw [zo,zo,x.look];unfold zN;by_cases k1:bg nm t=k
  ·subst k1;rw [if_pos rfl,wY fun b hb=>N.bang b hb t ht,qj N.bangInj ht];simp only [zqh,if_true];rw [if_pos h0]
  ·rw [if_neg k1];by_cases k2:nm t=k
   ·subst k2;rw [if_pos rfl,qj N.inj ht];simp only [zqh,if_true];rw [if_pos h0]
   ·rw [if_neg k2];cases e1:zy.find? (fun t=>nm t=k) with
    |some u=>
     have:u≠t:=fun q=>k2 (q▸(zF e1).2);simp only [zqh,if_neg this]
    |none=>
     dsimp only;cases e2:zy.find? (fun t=>bg nm t=k) with
     |some u=>
      have:u≠t:=fun q=>k1 (q▸(zF e2).2);simp only [zqh,if_neg this]
     |none=>rfl
theorem zuW(g c:Int→Int){t m:Int}(ht:t∈zy)(h0:c t=0):ya g (zqh c t m)=ya g c+m *g t:=by
 simp only [zy,mem_cons,not_mem_nil,or_false] at ht;rcases ht with rfl|rfl|rfl|rfl|rfl<;>simp [ya,zy,zqh,h0]<;>lia
noncomputable abbrev TM:=Int × Int
noncomputable def zuV(c:Int→Int):List TM→Int→Int
 |[]=>c
 |(t,m)::r=>zuV (zqh c t m) r
noncomputable def xh(nm:Int→Str)(tm:Int→Int)(h:Int)(l:List TM):KV:=l.flatMap fun p=>[(nm p.1,.int p.2),(bg nm p.1,bQ tm p.1 h p.2)]
theorem wK(N:zZ nm){h:Int}:∀ {l:List TM} {c:Int→Int} {a:KV},zm nm tm h c a→(∀ p∈l,p.1∈zy∧0<p.2)→zm nm tm h (zuV c l) (zD a (xh nm tm h l))
 |[],_,_,x,_=>x
 |(t,m)::r,c,a,x,hp=>by
  have h1:=hp (t,m) (mem_cons_self ..);exact wK N (l:=r) (c:=zqh c t m) (a:=qc (qc a (nm t) (.int m)) (bg nm t) (bQ tm t h m)) (x.set N h1.1 h1.2) fun p q=>hp p (mem_cons_of_mem _ q)
theorem zwz(g:Int→Int):∀ {l:List TM} {c:Int→Int},(∀ p∈l,p.1∈zy)→(∀ p∈l,c p.1=0)→(l.map (fun z=>z.1)).Nodup→ya g (zuV c l)=ya g c+(l.map fun p=>p.2 *g p.1).sum
 |[],c,_,_,_=>(add_zero _).symm
 |(t,m)::r,c,hp,hz,hn=>by
  simp only [map_cons,nodup_cons] at hn
  show ya g (zuV (zqh c t m) r)=_
  rw [map_cons,sum_cons];rw [zwz g (fun p q=>hp p (mem_cons_of_mem _ q)) (fun p q=>?_) hn.2,zuW g c (hp (t,m) (mem_cons_self ..)) (hz (t,m) (mem_cons_self ..))]
  ·dsimp only;lia
  ·have:p.1≠t:=fun e=>hn.1 (mem_map.mpr ⟨p,q,e⟩);simp only [zqh,if_neg this];exact hz p (mem_cons_of_mem _ q)
theorem yB:∀ {l:List TM} {c:Int→Int},(l.map (fun z=>z.1)).Nodup→(∀ p∈l,zuV c l p.1=p.2)∧∀ x,(∀ p∈l,p.1≠x)→zuV c l x=c x
 |[],c,_=>⟨fun z h=>(nomatch h),fun z z=>rfl⟩
 |(t,m)::r,c,hn=>by
  simp only [map_cons,nodup_cons] at hn;have ih:=yB (l:=r) (c:=zqh c t m) hn.2;refine ⟨fun p hp=>?_,fun x hx=>?_⟩
  ·rcases mem_cons.mp hp with rfl|hp
   ·show zuV (zqh c t m) r t=m
    rw [ih.2 _ fun q hq e=>hn.1 (mem_map.mpr ⟨q,hq,e⟩)];simp [zqh]
   ·exact ih.1 p hp
  ·show zuV (zqh c t m) r x=c x
   rw [ih.2 x fun q hq=>hx q (mem_cons_of_mem _ hq)];have:=hx (t,m) (mem_cons_self ..);simp only [zqh];rw [if_neg (fun e=>this e.symm)]
theorem ze.put(N:zZ nm){c:Int→Int→Int}{a:KV}(x:ze nm tm c a){h:Int}(hh:h∈zy){f:Int→Int}{cs:KV}(hcs:zm nm tm h f cs)(hf:∃ t∈zy,0<f t):
  ze nm tm (fun y=>if y=h then f else c y) (qc a (nm h) (kf tm h f cs)) where
 nodup:=zT x.nodup
 out:=fun k hk=>by rw [zo,if_neg (hk h hh)];exact x.out k hk
 zero:=fun u hu hz=>by
  by_cases e:u=h
  ·subst e
   (refine X12 hf fun t ht h0=>?_;try clear hf)
   have:=hz t ht;simp only [if_true] at this;lia
  ·rw [zo,if_neg (fun q=>e (N.inj h hh u hu q).symm)];exact x.zero u hu fun t ht=>by have:=hz t ht;simpa only [if_neg e] using this
 line:=fun u hu hp=>by
  by_cases e:u=h
  ·subst e;refine ⟨cs,?_,?_⟩
   ·rw [zo,if_pos rfl];simp only [if_true]
   ·simpa only [if_true] using hcs
  ·simp only [if_neg e] at hp ⊢;rw [zo,if_neg (fun q=>e (N.inj h hh u hu q).symm)];exact x.line u hu hp
theorem ze.same{c c':Int→Int→Int}{a:KV}(x:ze nm tm c a)(h:∀ u∈zy,∀ t∈zy,c u t=c' u t):ze nm tm c' a where
 nodup:=x.nodup
 out:=x.out
 zero:=fun u hu hz=>x.zero u hu fun t ht=>by rw [h u hu t ht];exact hz t ht
 line:=fun u hu hq=>X12 hq fun t ht h0=>by
  refine X12 (x.line u hu ⟨t,ht,by rw [h u hu t ht];exact h0⟩) fun cs h1 h2=>?_;have hs:∀ g,ya g (c u)=ya g (c' u):=fun g=>kT (h u hu);refine ⟨cs,?_,h2.nodup,fun k=>?_⟩
  ·rw [h1];unfold kf;rw [hs,hs,hs,hs]
  ·rw [h2.look];unfold zN;cases e1:zy.find? (fun t=>nm t=k) with
   |some t=>dsimp only;rw [h u hu t (zF e1).1]
   |none=>
    dsimp only;cases e2:zy.find? (fun t=>bg nm t=k) with
    |some t=>dsimp only;rw [h u hu t (zF e2).1]
    |none=>rfl
noncomputable def jX(made ring:List Int)(s:Int):Int:=((made.filter (· ==s)).length:Int) - ((ring.filter (· ==s)).length:Int)+((ring.filter (· == -s)).length:Int)
theorem zzj(d:D):x19.call "len" [d]=gx d:=by kernel_rfl
theorem zbZ(d:D):x19.call "sum" [d]=zd8 d:=by kernel_rfl
theorem zwj(d:D):x19.call "tuple" [d]=xC d:=by kernel_rfl
noncomputable def tmD(p:TM):D:=.tup [.int p.1,.int p.2]
noncomputable def zzy(steps made ring:List Int)(h:Int):List TM:=(steps.filter fun s=>s.fmod 512==h).map fun s=>(s.fdiv 512,jX made ring s)
end
end
section
section
variable {nm:Int→Str} {tm:Int→Int}
noncomputable def zfB(nm:Int→Str)(tm:Int→Int)(h:Int)(p:TM):D:=.tup [.str (nm p.1),bQ tm p.1 h p.2]
theorem zyi(l:List Int):yi (l.map D.int)=some l:=by
 induction l with
 |nil=>rfl
 |cons a l ih=>exact congrArg (Option.map (a:: ·)) ih
theorem zwy(kv:KV):qp zp1 (kv.map fun q=>(D.str q.1,q.2))=some kv:=by
 induction kv with
 |nil=>rfl
 |cons a l ih=>show qp zp1 ((D.str a.1,a.2)::l.map fun q=>(D.str q.1,q.2))=_;exact jF rfl ih
theorem bX(kv:KV):qV (kv.map fun q=>(D.str q.1,q.2))=some (.dS (zD [] kv)):=by
 unfold qV;rw [zwy]
theorem zjk{l:List Int}(hl:l.length≤1000)(h:∀ i∈l,zO i=true):zd8 (.list (l.map D.int))=some (.int l.sum):=
 (bK (zyi l)).trans (if_pos ⟨cpN hl,all_eq_true.mpr h⟩)
structure zwk(tm:Int→Int):Prop where
 b:∀ t∈zy,0≤tm t∧tm t≤100
theorem jL{i:Int}(h:0≤i)(h2:i≤2 ^ 40):zO i=true:=and_eq_true_iff.mpr ⟨decide_eq_true (Int.le_trans (by decide) h),decide_eq_true h2⟩
theorem zy0(T:zwk tm){t h m:Int}(ht:t∈zy)(hh:h∈zy)(hm:0<m∧m≤100000):∀ i∈zyc tm t h m,zO i=true:=by
 have b1:=T.b t ht;have b2:=T.b h hh;have m0:=Int.le_of_lt hm.1;have mb:m≤2 ^ 40:=Int.le_trans hm.2 (by decide);have go {x:Int} (h0:0≤x) (h1:x≤200):zO (m *x)=true:=jL (Int.mul_nonneg m0 h0) (Int.le_trans (Int.mul_le_mul hm.2 h1 h0 (by decide)) (by decide));intro i hi;rcases mem_cons.mp hi with rfl|hi
 ·exact if e:t=h then (if_pos e).symm▸rfl else (if_neg e).symm▸jL m0 mb
 ·rcases mem_cons.mp hi with rfl|hi
  ·exact jL m0 mb
  ·rcases mem_cons.mp hi with rfl|hi
   ·exact go b2.1 (Int.le_trans b2.2 (by decide))
   ·exact mem_singleton.mp hi▸go (Int.add_nonneg b1.1 b2.1) (Int.add_le_add b1.2 b2.2)
structure zbJ(nm:Int→Str)(tm:Int→Int)(steps made ring:List Int)(a:KV)(s:Sg):Prop where
 h1:s "names"=some (zR nm)
 h2:s "times"=some (qf tm)
 h3:s "steps"=some (iL steps)
 h4:s "made"=some (iL made)
 h5:s "ring"=some (iL ring)
 h6:s "due"=some (.dS a)
theorem Rn.many{C:Cx}(hc:∀ d,C.call "len" [d]=gx d){s:Sg}{x:Str}{l:List Int}{i:Int}{e:Ex}(h:s x=some (iL l))(hl:l.length≤4000)(he:∀ z,Rn e (upd s "one" (.int z)) (.int i)):Rn (CE C "len" (cL (LE (f1C "one" (xI (vE x)) (iC (qT .Eq (vE "one") e) (mC (vE "one"))))) nL)) s (.int ((l.filter (· ==i)).length:Int)):=
 have hf:(l.filter (· ==i)).length≤4000:=le_trans (length_filter_le ..) hl
 .E (.C (.lc (.FI (p:=(· ==i)) (g:=D.int) (.X (.V h) (zf l)) (fun y y y=>rfl) (fun z y=>.Q (.V rfl) (he z) rfl) fun y y y=>.V rfl) (cpM hf)) .N) ((hc _).trans ((gN (cpM hf)).trans (by rw [length_map])))
theorem zmR{s:Sg}{h:Int}{steps made ring:List Int}{a:KV}(A:zbJ nm tm steps made ring a s)(h7:s "node"=some (.int h))(S:zH steps)(hs:steps.length≤40)(hm:made.length≤4000)(hr:ring.length≤1000):
  RS rd0 s (upd s "rows" (.list ((zzy steps made ring h).map tmD))) .next:=
 have hr:ring.length≤4000:=le_trans hr (by decide)
 have main:RS rd0 s (upd s "rows" (.list ((steps.filter fun i=>i.fmod 512==h).map fun i=>tmD (i.fdiv 512,jX made ring i)))) .next:=
  .A (.lc (.FI (.X (.V A.h3) (zf _)) (fun y y y=>rfl) (fun i y=>.Q (.O (.V rfl) .C zdK) (.V h7) rfl)
  fun i m y=>.T (.C (.O (.V rfl) .C (zgA (S.small i m))) (.C (.O (.O (.many zzj A.h4 hm fun y=>.V rfl) (.many zzj A.h5 hr fun y=>.V rfl) rfl) (.many zzj A.h5 hr fun y=>.M (.V rfl)) rfl) .N))) (cpM (le_trans (length_filter_le ..) hs)))
 rwR (P:=fun z=>RS rd0 s (upd s "rows" (.list z)) .next) map_map main
theorem zmS{s:Sg}{h:Int}(hh:h∈zy){steps made ring:List Int}{a:KV}{L:List TM}(A:zbJ nm tm steps made ring a s)(h7:s "node"=some (.int h))(hrows:s "rows"=some (.list (L.map tmD)))(hLl:L.length≤40)(hLn:∀ p∈L,p.1∈zy∧p.2≤100000):
  RS rd1 s (upd s "rows" (.list ((L.filter fun p=>decide (0<p.2)).map (zfB nm tm h)))) .next:=
 .A (.lc (.FI (emb:=tmD) (.X (.V hrows) rfl) (fun z z z=>rfl) (fun p z=>.Q (.V rfl) .C rfl) fun p m q=>
  have hc:zK p.2=true:=za.cap ⟨lt_trans (by decide) (of_decide_eq_true q),Int.lt_of_le_of_lt (hLn p m).2 (by decide)⟩
  .T (.C (.I (.V A.h1) (.V rfl) (qz (hLn p m).1)) (.C (.T (.C (.ne (.V rfl) (.V h7) (.V rfl) .C) (.C (.V rfl) (.C (.O (.V rfl) (.I (.V A.h2) (.V h7) (yn hh)) (gH hc)) (.C (.O (.V rfl) (.O (.I (.V A.h2) (.V rfl) (yn (hLn p m).1)) (.I (.V A.h2) (.V h7) (yn hh)) rfl) (gH hc)) .N))))) .N))) (cpM (le_trans (length_filter_le ..) hLl)))
theorem zbY{l:List D}{k:Int}{d:D}(h0:0≤k)(h1:k<1000000)(h:l[k.toNat]? =some d):zY (.tup l) (.int k)=some d:=
 (if_pos (za.cap ⟨Int.lt_of_lt_of_le (by decide) h0,h1⟩)).trans ((bK (vP h0 (List.getElem?_eq_some_iff.mp h).1)).trans h)
theorem zpk{t h m:Int}{j:Nat}(hj:j<4):(zyc tm t h m)[j]? =some ((zyc tm t h m)[j]?.getD 0):=by
 have:j<(zyc tm t h m).length:=hj;simp [this]
noncomputable def zjx(tm:Int→Int)(h:Int)(L2:List TM)(j:Nat):Int:=(L2.map fun p=>(zyc tm p.1 h p.2)[j]?.getD 0).sum
noncomputable def zfD(nm:Int→Str)(tm:Int→Int)(h:Int)(L:List TM)(a:KV):KV:=if L=[] then a else qc a (nm h) (.tup [.int (zjx tm h L 0),.int (zjx tm h L 1),.int (zjx tm h L 2),.int (zjx tm h L 3),.dS (zD [] (xh nm tm h L))])
theorem zbK{n:Nat}{a b:List D}(h:a.length≠b.length):eqD (n+1) (.list a) (.list b)=some false:=if_neg h
theorem zmT(N:zZ nm)(T:zwk tm){s:Sg}{h:Int}(hh:h∈zy){steps made ring:List Int}{a:KV}{L:List TM}(A:zbJ nm tm steps made ring a s)(h7:s "node"=some (.int h))(hrows:s "rows"=some (.list (L.map (zfB nm tm h))))(ha:a.length≤5)
  (hp:∀ p∈L,p.1∈zy∧0<p.2∧p.2≤100000)(hl:L.length≤40):To rd2 s fun s f=>f= .next∧zbJ nm tm steps made ring (zfD nm tm h L a) s:=
 if hne:L=[] then .mk (.If (.Q (.V (hne▸hrows)) (.L .N) rfl) .P) ⟨rfl,rwR (P:=fun a=>zbJ nm tm steps made ring a s) (if_pos hne:zfD nm tm h L a=a) A⟩ else
 have hpl:(xh nm tm h L).length≤80:=by
  unfold xh;rw [List.length_flatMap]
  show (L.map fun y=>2).sum≤80
  rw [List.map_const',List.sum_replicate_nat];exact Nat.mul_le_mul_right 2 hl
 have call:RC (f2C "name" "row" (xI (vE "rows")) (f2C "key" "what" (xI (tE (cL (tE (cL (vE "name") (cL (jE (vE "row") (nE 1)) nL))) (cL (tE (cL (oE .Add (vE "name") (sE "!")) (cL (vE "row") nL))) nL)))) (kC (vE "key") (vE "what")))) s ((xh nm tm h L).map fun q=>(D.str q.1,q.2)):=
  rwR (P:=RC _ s) map_flatMap (.F (emb:=zfB nm tm h) (.X (.V hrows) rfl) (fun y y y=>rfl) fun p m=>.FK (n:=[(D.str (nm p.1),D.int p.2),(D.str (bg nm p.1),bQ tm p.1 h p.2)]) (emb:=fun q=>.tup [q.1,q.2]) (g:=(fun z=>z.1)) (k:=(fun z=>z.2))
   (.X (.T (.C (.T (.C (.V rfl) (.C (.I (.V rfl) .C rfl) .N))) (.C (.T (.C (.O (.V rfl) .C (zzz (le_trans (succ_le_succ (N.len p.1 (hp p m).1)) (by decide)))) (.C (.V rfl) .N))) .N))) rfl) (fun y y y=>rfl) (fun y y=>.V rfl) fun y y=>.V rfl)
 have sums {s:Sg} (hrows:s "rows"=some (.list (L.map (zfB nm tm h)))):RC (f1C "spot" (rI (cL (nE 4) nL)) (mC (CE x19 "sum" (cL (LE (f1C "row" (xI (vE "rows")) (mC (jE (jE (vE "row") (nE 1)) (vE "spot"))))) nL)))) s ((List.range 4).map fun j=>.int (zjx tm h L j)):=
  .FM (emb:=fun i:Nat=>D.int (0+(i:Int))) (.R (.C .C .N) rfl) (fun y y y=>rfl) fun j mj=>
   have hj:j<4:=mem_range.mp mj
   .E (.C (.lc (.FM (emb:=zfB nm tm h) (g:=fun p=>.int ((zyc tm p.1 h p.2)[j]?.getD 0)) (.X (.V hrows) rfl) (fun y y y=>rfl) fun p m=>.I (.I (.V rfl) .C rfl) (.V rfl) (zbY (k:=0+(j:Int)) (by omega) (by omega) (by rw [Int.zero_add,toNat_natCast,getElem?_map,zpk hj];rfl))) (cpM hl)) .N)
    ((zbZ _).trans ((congrArg (fun l=>zd8 (.list l)) (map_map (l:=L) (g:=D.int)).symm).trans (zjk (lnM (le_trans hl (by decide))) fun i hi=>X12 (mem_map.mp hi) fun p m e=>e▸zy0 T (hp p m).1 hh (hp p m).2 _ (mem_of_getElem? (zpk hj)))))
 .mk (.It (.Q (.V hrows) (.L .N) (congrArg (·.map (!·)) (zbK fun q=>hne (List.eq_nil_of_length_eq_zero ((length_map ..).symm.trans q))))) (.Q (.A (.dc call (cpM hpl) (bX _)))
  (.X (.O (.E (.C (.lc (sums hrows) (le_of_ble_eq_true rfl)) .N) ((zwj _).trans rfl)) (.T (.C (.V rfl) .N)) rfl) (.I (.V A.h1) (.V h7) (qz hh)) A.h6 (gR (le_trans ha (by decide))))))
  ⟨rfl,A.h1,A.h2,A.h3,A.h4,A.h5,congrArg (fun z=>some (D.dS z)) (if_neg hne:zfD nm tm h L a=_).symm⟩
end
end
section
theorem kL(s:Int):s=512 *s.fdiv 512+s.fmod 512:=by
 have:=Int.mul_fdiv_add_fmod s 512;exact Eq.symm ‹_›
section
variable {nm:Int→Str} {tm:Int→Int}
noncomputable def jC(steps made ring:List Int)(h:Int):List TM:=(zzy steps made ring h).filter fun p=>decide (0<p.2)
noncomputable def zqm(steps made ring:List Int)(h:Int):Int→Int:=zuV (fun z=>0) (jC steps made ring h)
theorem zwx{steps made ring:List Int}(hn:steps.Nodup)(h:Int):((zzy steps made ring h).map (fun z=>z.1)).Nodup:=by
 unfold zzy;rw [map_map];have:(steps.filter fun s=>s.fmod 512==h).Nodup:=hn.filter _;rw [List.nodup_iff_pairwise_ne] at this ⊢;rw [List.pairwise_map];refine this.imp_of_mem fun {a b} ha hb hne e=>hne ?_;have h1:=(mem_filter.mp ha).2;have h2:=(mem_filter.mp hb).2;simp only [beq_iff_eq] at h1 h2;simp only [Function.comp] at e;rw [kL a,kL b,h1,h2,e]
theorem kh{steps made ring:List Int}(hn:steps.Nodup)(h:Int):((jC steps made ring h).map (fun z=>z.1)).Nodup:=(zwx hn h).sublist (List.filter_sublist.map _)
theorem zbX(h:Int)(L:List TM):zjx tm h L 0=(L.map fun p=>p.2 *g0 h p.1).sum∧zjx tm h L 1=(L.map fun p=>p.2 *1).sum∧zjx tm h L 2=(L.map fun p=>p.2 *tm h).sum∧zjx tm h L 3=(L.map fun p=>p.2 *(tm p.1+tm h)).sum:=by
 refine ⟨?_,?_,?_,?_⟩<;>unfold zjx<;>congr 1<;>refine map_congr_left fun p z=>?_
 ·simp only [zyc,g0];by_cases e:p.1=h<;>simp [e]
 all_goals simp [zyc]
theorem zbW{steps made ring:List Int}(hm:made.length≤4000)(hr:ring.length≤1000)(i:Int):jX made ring i≤100000:=by
 have a1:(made.filter (· ==i)).length≤4000:=le_trans (length_filter_le ..) hm;have a2:(ring.filter (· == -i)).length≤1000:=le_trans (length_filter_le ..) hr;clear hm hr;unfold jX;omega
noncomputable def zpx(steps made ring d:List Int)(h:Int):Int→Int:=if h∈d then zqm steps made ring h else fun z=>0
theorem zuU(N:zZ nm){steps made ring d:List Int}{a:KV}{h:Int}(hh:h∈zy)(hn:steps.Nodup)(hpos:∀ p∈jC steps made ring h,p.1∈zy∧0<p.2)(B:ze nm tm (zpx steps made ring d) a):ze nm tm (zpx steps made ring (d++[h])) (zfD nm tm h (jC steps made ring h) a):=by
 have off {u:Int} (e:u≠h):zpx steps made ring (d++[h]) u=zpx steps made ring d u:=by
  unfold zpx;by_cases e1:u∈d
  ·rw [if_pos e1,if_pos (mem_append_left _ e1)]
  ·rw [if_neg e1,if_neg fun m=>(mem_append.mp m).elim e1 fun m=>e (mem_singleton.mp m)]
 have on:zpx steps made ring (d++[h]) h=zqm steps made ring h:=if_pos (mem_append_right _ (mem_singleton.mpr rfl));unfold zfD;by_cases hz:jC steps made ring h=[]
 ·rw [if_pos hz];refine B.same fun u y t y=>?_;by_cases e:u=h
  ·rw [e,on];have z:zqm steps made ring h=fun y=>0:=by unfold zqm;rw [hz];rfl
   unfold zpx
   split
   ·rfl
   ·rw [z]
  ·rw [off e]
 ·rw [if_neg hz]
  have hc:zm nm tm h (zqm steps made ring h) (zD [] (xh nm tm h (jC steps made ring h))):=
   wK N (xf (c:=fun y=>0) fun y y=>rfl) hpos
  have hnd:=kh (made:=made) (ring:=ring) hn h
  have hsum (g:Int→Int):ya g (zqm steps made ring h)=((jC steps made ring h).map fun p=>p.2 *g p.1).sum:=
   (zwz g (fun p hp=>(hpos p hp).1) (fun y y=>rfl) hnd).trans ((congrArg (· +_) (bJ fun y y=>rfl)).trans (Int.zero_add _))
  refine X11 (List.exists_mem_of_ne_nil _ hz) fun p hp=>?_;have hb:=B.put N hh hc ⟨p.1,(hpos p hp).1,by unfold zqm;rw [(yB (c:=fun y=>0) hnd).1 p hp];exact (hpos p hp).2⟩;refine X04 (zbX (tm:=tm) h (jC steps made ring h)) fun e0 e1 e2 e3=>?_
  have hline:(D.tup [.int (zjx tm h (jC steps made ring h) 0),.int (zjx tm h (jC steps made ring h) 1),.int (zjx tm h (jC steps made ring h) 2),.int (zjx tm h (jC steps made ring h) 3),.dS (zD [] (xh nm tm h (jC steps made ring h)))])=kf tm h (zqm steps made ring h) (zD [] (xh nm tm h (jC steps made ring h))):=by
   unfold kf;rw [hsum,hsum,hsum,hsum,e0,e1,e2,e3]
  rw [hline];refine hb.same fun u y t y=>?_;by_cases e:u=h
  ·rw [e,on];exact congrFun (if_pos rfl) t
  ·rw [off e];exact congrFun (if_neg e) t
theorem zbV(N:zZ nm)(T:zwk tm){steps made ring:List Int}(S:zH steps)(hn:steps.Nodup)(hs:steps.length≤40)(hm:made.length≤4000)(hr:ring.length≤1000):
  ∃ kvs,fnC x19 202 ["names","times","steps","made","ring"] ["due"] [zR nm,qf tm,iL steps,iL made,iL ring]=some (.dS kvs)∧ze nm tm (zqm steps made ring) kvs:=
 have tms (h:Int) (p:TM) (hp:p∈zzy steps made ring h):p.1∈zy∧p.2≤100000:=X12 (mem_map.mp hp) fun i hi e=>e▸⟨S.tail i (mem_filter.mp hi).1,zbW (steps:=steps) hm hr i⟩
 have hL (h:Int):(zzy steps made ring h).length≤40:=lnM (le_trans (length_filter_le ..) hs)
 RS.loop (emb:=D.int) (bd:=fun h s=>upd s "node" (.int h)) (b:=zgC) (t:=.Name "node" default) (i:=xI (vE "names")) (Inv:=fun l s=>∃ d a,d++l=zy∧zbJ nm tm steps made ring a s∧ze nm tm (zpx steps made ring d) a) (l:=zy) (s:=upd (par ["names","times","steps","made","ring"] [zR nm,qf tm,iL steps,iL made,iL ring]) "due" (.dS []))
  (.X (.V rfl) rfl) (fun z z=>rfl) (fun h l s i=>X23 i fun d a e A B=>
   have hh:h∈zy:=e▸mem_append_right _ (mem_cons_self ..);have pos (p:TM) (hp:p∈jC steps made ring h):p.1∈zy∧0<p.2∧p.2≤100000:=X02 (mem_filter.mp hp) fun q1 q2=>⟨(tms h p q1).1,of_decide_eq_true q2,(tms h p q1).2⟩
   have A0:zbJ nm tm steps made ring a (upd s "node" (.int h)):=⟨A.h1,A.h2,A.h3,A.h4,A.h5,A.h6⟩
   .S (zmR A0 rfl S hs hm hr) (.S (zmS hh ⟨A.h1,A.h2,A.h3,A.h4,A.h5,A.h6⟩ rfl rfl (hL h) (tms h))
    (.imp (zmT (L:=jC steps made ring h) N T hh ⟨A.h1,A.h2,A.h3,A.h4,A.h5,A.h6⟩ rfl rfl B.len pos (le_trans (length_filter_le ..) (hL h))) fun s' f q=>⟨q.1,d++[h],_,(append_assoc ..).trans e,q.2,zuU N hh hn (fun p hp=>⟨(pos p hp).1,(pos p hp).2.1⟩) B⟩)))
  ⟨[],[],rfl,⟨rfl,rfl,rfl,rfl,rfl,rfl⟩,bY⟩ fun s' h1 h2=>X23 h2 fun d a e A B=>
  ⟨a,zm7 (.Q (.A .C) (.Q h1 (.R (.V A.h6)))),B.same fun u hu z z=>congrFun (if_pos (((append_nil d).symm.trans e).symm▸hu)) _⟩
end
end
section
noncomputable def cnt(l:List Int)(x:Int):Int:=((l.filter (· ==x)).length:Nat)
theorem yD(x:Int):cnt [] x=0:=rfl
theorem kO(a b:List Int)(x:Int):cnt (a++b) x=cnt a x+cnt b x:=by simp [cnt]
theorem km(a:Int)(b:List Int)(x:Int):cnt (a::b) x=(if a=x then 1 else 0)+cnt b x:=by
 unfold cnt;by_cases h:a=x
 ·simp [h];lia
 ·have:(a==x)=false:=by simpa using h
  simp [h,this]
theorem zzk(a:List Int)(x:Int):cnt a.reverse x=cnt a x:=by simp [cnt]
theorem zbU(a:List Int)(x:Int):cnt (a.map (- ·)) x=cnt a (-x):=by
 induction a with
 |nil=>rfl
 |cons b a ih=>
  rw [map_cons,km,km,ih];have:(-b=x)↔(b= -x):=by lia
  simp only [this]
theorem zy1(l:List Int)(x:Int):0≤cnt l x:=natCast_nonneg _
theorem zzx(made ring:List Int)(s:Int):jX made ring s=cnt made s - cnt ring s+cnt ring (-s):=rfl
theorem bW(made:List Int)(s:Int):gC made (s.fmod 512) (s.fdiv 512)=cnt made s:=by
 unfold gC cnt
 congr 2
 refine List.filter_congr fun x z=>?_
 have:(x.fmod 512=s.fmod 512∧x.fdiv 512=s.fdiv 512)↔x=s:=by
  constructor
  ·intro ⟨h1,h2⟩;rw [kL x,kL s,h1,h2]
  ·rintro rfl;exact ⟨rfl,rfl⟩
 simp only [this];by_cases h:x=s<;>simp [h]
theorem zww{made:List Int}{h t:Int}(hn:∀ s∈made,¬ (s.fmod 512=h∧s.fdiv 512=t)):gC made h t=0:=by
 unfold gC;rw [List.filter_eq_nil_iff.mpr fun s hs=>by simpa using hn s hs];rfl
theorem zbG{steps made ring:List Int}(hn:steps.Nodup){s:Int}(hs:s∈steps)(h0:0≤jX made ring s):zqm steps made ring (s.fmod 512) (s.fdiv 512)=jX made ring s:=by
 have hnd:=kh (made:=made) (ring:=ring) hn (s.fmod 512);have hm:(s.fdiv 512,jX made ring s)∈zzy steps made ring (s.fmod 512):=mem_map.mpr ⟨s,mem_filter.mpr ⟨hs,by simp⟩,rfl⟩;unfold zqm;by_cases hp:0<jX made ring s
 ·exact (yB (c:=fun z=>0) hnd).1 _ (mem_filter.mpr ⟨hm,by simpa using hp⟩)
 ·rewrite [(yB (c:=fun z=>0) hnd).2 _ fun p hp' e=>?_]
  ·lia
  ·refine X02 (mem_filter.mp hp') fun q1 q2=>?_
   (refine X12 (mem_map.mp q1) fun i hi z12=>?_;subst z12)
   have hi2:=(mem_filter.mp hi).2;simp only [beq_iff_eq] at hi2;dsimp only at e;have:i=s:=by rw [kL i,kL s,hi2,e]
   subst this;simp at q2;exact hp q2
theorem zuG{steps made ring:List Int}(hn:steps.Nodup){h t:Int}(ho:∀ s∈steps,¬ (s.fmod 512=h∧s.fdiv 512=t)):zqm steps made ring h t=0:=by
 have hnd:=kh (made:=made) (ring:=ring) hn h;unfold zqm;refine (yB (c:=fun z=>0) hnd).2 _ fun p hp e=>?_;refine X02 (mem_filter.mp hp) fun q1 z=>?_
 (refine X12 (mem_map.mp q1) fun i hi z11=>?_;subst z11)
 have hi2:=mem_filter.mp hi;simp only [beq_iff_eq] at hi2;exact ho i hi2.1 ⟨hi2.2,e⟩
theorem zH.sub{steps made:List Int}(S:zH steps)(h:∀ s∈made,s∈steps):zH made:=⟨fun s m=>S.small s (h s m),fun s m=>S.tail s (h s m),fun s m=>S.head s (h s m)⟩
theorem yF{steps made made' ring:List Int}(hn:steps.Nodup)(h:∀ s∈made',s∈steps)(hc:∀ s∈steps,cnt made' s=jX made ring s)(u t:Int):gC made' u t=zqm steps made ring u t:=by
 by_cases he:∃ s∈steps,s.fmod 512=u∧s.fdiv 512=t
 ·(refine X13 he fun s hs z9 z10=>?_;subst z9;subst z10;try clear he)
  rw [bW,zbG hn hs (by rw [←hc s hs];exact zy1 _ _),hc s hs]
 ·have he:∀ s∈steps,¬ (s.fmod 512=u∧s.fdiv 512=t):=fun s hs q=>he ⟨s,hs,q⟩;rw [zuG hn he,zww fun s hs=>he s (h s hs)]
theorem yH{steps made ring:List Int}(hn:steps.Nodup)(u t:Int):0≤zqm steps made ring u t:=by
 have hnd:=kh (made:=made) (ring:=ring) hn u;unfold zqm;by_cases he:∃ p∈jC steps made ring u,p.1=t
 ·(refine X12 he fun p hp z8=>?_;subst z8;try clear he)
  rw [(yB (c:=fun z=>0) hnd).1 p hp];have:=(mem_filter.mp hp).2;simp at this;exact Int.le_of_lt ‹_›
 ·rw [(yB (c:=fun z=>0) hnd).2 t fun p hp e=>he ⟨p,hp,e⟩];exact natCast_nonneg _
noncomputable def zuP(c:Int):Int:=if 0<c then c.fdiv 512 else (-c).fmod 512
noncomputable def zwv(c:Int):Int:=if 0<c then c.fmod 512 else (-c).fdiv 512
inductive jO(codes:List Int):Int→List Int→Int→Prop
 |nil (u:Int):jO codes u [] u
 |snoc {u v:Int} {p:List Int} {c:Int}:jO codes u p v→c∈codes→zuP c=v→jO codes u (p++[c]) (zwv c)
theorem zuB{codes p:List Int}{u v:Int}(h:jO codes u p v)(K:Int→Int):(p.map fun c=>K (zwv c) - K (zuP c)).sum=K v - K u:=by
 induction h with
 |nil=>simp
 |snoc h1 h2 h3 ih=>
  rw [map_append,List.sum_append,ih];simp only [map_cons,map_nil,sum_cons,List.sum_nil,h3];lia
theorem zjw{codes p:List Int}{u v:Int}(h:jO codes u p v):∀ c∈p,c∈codes:=by
 induction h with
 |nil=>simp
 |snoc h1 h2 h3 ih=>
  intro c hc;rcases mem_append.mp hc with hc|hc
  ·exact ih c hc
  ·simp at hc;subst hc;exact h2
noncomputable def jw(steps sides:List Int):List Int:=steps.flatMap fun s=>sides.map fun d=>if d=1 then s else -s
theorem zuD{steps sides:List Int}(hp:∀ s∈steps,0<s){a:Arc}(ha:a∈jf steps sides):a.2.2∈jw steps sides∧zuP a.2.2=a.1∧zwv a.2.2=a.2.1:=by
 unfold jf at ha;refine X12 (mem_flatMap.mp ha) fun s hs ha=>?_
 (refine X12 (mem_map.mp ha) fun d hd z7=>?_;subst z7)
 have h0:=hp s hs;unfold jw;by_cases h1:d=1
 ·simp only [if_pos h1];exact ⟨mem_flatMap.mpr ⟨s,hs,mem_map.mpr ⟨d,hd,by rw [if_pos h1]⟩⟩,by simp [zuP,h0],by simp [zwv,h0]⟩
 ·simp only [if_neg h1];have:¬ 0< -s:=by lia
  exact ⟨mem_flatMap.mpr ⟨s,hs,mem_map.mpr ⟨d,hd,by rw [if_neg h1]⟩⟩,by simp only [zuP,if_neg this,Int.neg_neg],by simp only [zwv,if_neg this,Int.neg_neg]⟩
set_option tactic.hygienic true in
theorem wX{steps sides:List Int}(hp:∀ s∈steps,0<s)(start:Int):∀ q∈zv steps start sides,jO (jw steps sides) start q.2 q.1:=by
 unfold zv
 have hA:∀ a∈(replicate 4 (jf steps sides)).flatten,a∈jf steps sides:=fun a ha=>by
  refine X12 (mem_flatten.mp ha) fun l hl ha=>?_;rw [List.eq_of_mem_replicate hl] at ha;exact ha
 generalize (replicate 4 (jf steps sides)).flatten=L at hA
 have:∀ (L:List Arc) (r:zx),(∀ a∈L,a∈jf steps sides)→(∀ q∈r,jO (jw steps sides) start q.2 q.1)→∀ q∈L.foldl qd r,jO (jw steps sides) start q.2 q.1:=by
  intro L
  induction L with
  |nil=>intro r _ h;exact h
  |cons a L ih=>
   intro r hL h;refine ih (qd r a) (fun b m=>hL b (mem_cons_of_mem _ m)) fun q hq=>?_;unfold qd at hq
   split at hq
   ·rename_i p hpp
    split at hq
    ·exact h q hq
    ·rcases mem_append.mp hq with hq|hq
     ·exact h q hq
     ·simp at hq;subst hq
      (refine X13 (qZ hpp) fun q0 m0 e0 z6=>?_;subst z6)
      refine X03 (zuD hp (hL a (mem_cons_self ..))) fun c1 c2 c3=>?_;have:=jO.snoc (h q0 m0) c1 (c2.trans e0.symm);rw [c3] at this;exact this
   ·exact h q hq
 refine this L _ hA fun q hq=>?_;simp at hq;subst hq;exact .nil _
end
section
theorem bV{steps sides:List Int}{start:Int}(hs:∀ i∈steps,za i)(hn:steps.length≤40)(hm:sides.length≤2):
  x21.call "_law_roads" [iL steps,.int start,.tup (sides.map D.int)]=some (zt (zv steps start sides)):=
 (show _=fnC x16 187 ["steps","start","sides"] ["roads"] [iL steps,.int start,.tup (sides.map D.int)] by kernel_rfl).trans (zxM hs hn hm)
theorem zzw(d:D):x21.call "abs" [d]=zdN d:=by kernel_rfl
theorem zuF(u v x:D):x21.call "_law_book" [u,v,x]=fnC x18 197 ["names","times","made"] ["book","kept"] [u,v,x]:=by kernel_rfl
theorem zbP(u v x y z:D):x21.call "_law_due" [u,v,x,y,z]=fnC x19 202 ["names","times","steps","made","ring"] ["due"] [u,v,x,y,z]:=by kernel_rfl
noncomputable def jA(c:Int):Int:=if c<0 then -c else c
noncomputable def th(T:zx)(t:Int):List Int:=(zr T t).getD []
noncomputable def along(T H:zx)(c:Int):List Int:=th T ((jA c).fdiv 512)++[jA c]++((th H ((jA c).fmod 512)).map (- ·)).reverse
noncomputable def past(T H:zx)(c:Int):List Int:=th T ((jA c).fdiv 512)++((th H ((jA c).fdiv 512)).map (- ·)).reverse
noncomputable def jo(T H:zx)(m:List Int × List Int)(c:Int):List Int × List Int:=
 if 0<c then (m.1++along T H c,m.2++past T H c) else (m.1++past T H c,m.2++along T H c)
noncomputable def zy2(T H:zx)(ring:List Int):List Int × List Int:=ring.foldl (jo T H) ([],[])
structure qJ(T:zx):Prop where
 at_:∀ t∈zy,∃ p,zr T t=some p∧p.length≤20
theorem qJ.th{T:zx}(h:qJ T){t:Int}(m:t∈zy):zr T t=some (th T t)∧(th T t).length≤20:=X12 (h.at_ t m) fun p e b=>by unfold Mine.Internal.th;rw [e];exact ⟨rfl,b⟩
theorem zmL(l:List Int)(h:l.length≤1000):jU (iL l) none none (some (-1))=some (iL l.reverse):=by
 exact (if_pos ⟨cpM h,rfl,rfl,rfl⟩).trans (congrArg (fun l=>some (D.list l)) map_reverse.symm)
theorem zbB:kJ (.int (-1))=some (some (-1)):=by unfold kJ;exact if_pos (by decide)
theorem zuH(c:Int):zdN (.int c)=some (.int (jA c)):=rfl
theorem zuM(T H:zx)(m:List Int × List Int)(c:Int):jo T H m c=(m.1++(if 0<c then along T H c else past T H c),m.2++if 0<c then past T H c else along T H c):=by
 unfold jo;split<;>rfl
theorem zpw{T H:zx}{c:Int}(hT:qJ T)(hH:qJ H)(ht:(jA c).fdiv 512∈zy)(hh:(jA c).fmod 512∈zy):(along T H c).length≤41∧(past T H c).length≤41:=by
 have a:=(hT.th ht).2;have b:=(hH.th hh).2;have d:=(hH.th ht).2;unfold along past;rw [length_append,length_append,length_append,length_reverse,length_reverse,length_map,length_map];exact ⟨add_le_add (succ_le_succ a) b,le_succ_of_le (add_le_add a d)⟩
theorem zwu{T H:zx}{c:Int}{m:List Int × List Int}(hT:qJ T)(hH:qJ H)(ht:(jA c).fdiv 512∈zy)(hh:(jA c).fmod 512∈zy):(jo T H m c).1.length≤m.1.length+41∧(jo T H m c).2.length≤m.2.length+41:=
 X02 (zpw hT hH ht hh) fun a p=>by
 unfold jo
 split<;>exact ⟨length_append▸add_le_add_left (by assumption) _,length_append▸add_le_add_left (by assumption) _⟩
section
variable {nm:Int→Str} {tm:Int→Int}
structure zmC(nm:Int→Str)(tm:Int→Int)(steps ring:List Int)(T H:zx)(n:Nat)(m:List Int × List Int)(s:Sg):Prop where
 h1:s "there"=some (zt T)
 h2:s "home"=some (zt H)
 h3:s "made"=some (.list [iL m.1,iL m.2])
 h4:s "names"=some (zR nm)
 h5:s "times"=some (qf tm)
 h6:s "steps"=some (iL steps)
 h7:s "ring"=some (iL ring)
 l1:m.1.length+41 *n≤1000
 l2:m.2.length+41 *n≤1000
theorem Rn.neg{s:Sg}{e f:Ex}{T:zx}{t:Int}{p:List Int}(h1:Rn e s (zt T))(h2:Rn f s (.int t))(h:zr T t=some p)(hl:p.length≤20):Rn (zE (LE (f1C "one" (xI (jE e f)) (mC (mE (vE "one"))))) nP nP (eP (nE (-1)))) s (iL (p.map (- ·)).reverse):=
 .Z (.lc (.FM (.X (.I h1 h2 (qe h)) (zf p)) (fun z z z=>rfl) fun i z=>.M (.V rfl)) (cpM hl)) .N .N (.E .C zbB) ((congrArg (fun l=>jU (.list l) none none (some (-1))) map_map.symm).trans (zmL (p.map (- ·)) (lnM (le_trans hl (by decide)))))
noncomputable def bdA(c:Int)(s:Sg):Sg:=upd (upd (upd s "step" (.int c)) "tail" (.int ((jA c).fdiv 512))) "head" (.int ((jA c).fmod 512))
theorem zy3{s:Sg}{T H:zx}{c:Int}{n:Nat}{steps ring:List Int}{m:List Int × List Int}(hT:qJ T)(hH:qJ H)(ht:(jA c).fdiv 512∈zy)(hh:(jA c).fmod 512∈zy)(A:zmC nm tm steps ring T H (n+1) m s):
  To gF (bdA c s) fun s f=>f= .next∧zmC nm tm steps ring T H n (jo T H m c) s:=
 X02 (hT.th ht) fun e1 b1=>X02 (hH.th hh) fun e2 b2=>X02 (hH.th ht) fun e3 b3=>X02 (zpw hT hH ht hh) fun la lp=>X02 (zwu (m:=m) hT hH ht hh) fun n1 n2=>
 have cap {l x:List Int} (h:l.length+41 *(n+1)≤1000) (hx:x.length≤41):l.length+x.length≤zz:=le_trans (add_le_add_left hx _) (le_trans (le_trans (add_le_add_left (Nat.le_mul_of_pos_right 41 (succ_pos n)) _) h) (by decide));have step {l k:List Int} (h:l.length+41 *(n+1)≤1000) (hk:k.length≤l.length+41):k.length+41 *n≤1000:=le_trans (add_le_add_right hk _) (by rw [add_assoc,add_comm 41];exact h)
 have sel {s:Sg} {a b:Str} {u v:List Int} (e:s "step"=some (.int c)) (ha:s a=some (iL u)) (hb:s b=some (iL v)):Rn (fE (qT .Gt (vE "step") (nE 0)) (vE a) (vE b)) s (iL (if 0<c then u else v)):=
  .F (p:=decide (c>0)) (.Q (.V e) .C rfl) (fun q=>rwR (P:=fun z=>Rn _ s (iL z)) (if_pos (of_decide_eq_true q)) (.V ha)) fun q=>rwR (P:=fun z=>Rn _ s (iL z)) (if_neg (of_decide_eq_false q)) (.V hb)
 have len {u v:List Int} (hu:u.length≤41) (hv:v.length≤41):(if 0<c then u else v).length≤41:=by split<;>assumption
 have there:Rn (jE (vE "there") (vE "tail")) (bdA c s) (iL (th T ((jA c).fdiv 512))):=.I (.V A.h1) (.V rfl) (qe e1)
 .mk (.Q (.Ds (.C (.O (.O there (.L (.C (.E (.C (.V rfl) .N) ((zzw _).trans (zuH c))) .N)) (jK (b:=[jA c]) (cpN (succ_le_succ b1)))) (.neg (.V A.h2) (.V rfl) e2 b2) (jK (cpN (m:=41) (by rw [length_append,length_reverse,length_map];exact add_le_add (succ_le_succ b1) b2))))
   (.C (.O there (.neg (.V A.h2) (.V rfl) e3 b3) (jK (cpN (m:=40) (by rw [length_reverse,length_map];exact add_le_add b1 b3)))) .N)))
  (.A (.L (.C (.O (.I (.V A.h3) .C rfl) (sel rfl rfl rfl) (jK (cap A.l1 (len la lp)))) (.C (.O (.I (.V A.h3) .C rfl) (sel rfl rfl rfl) (jK (cap A.l2 (len lp la)))) .N)))))
  ⟨rfl,A.h1,A.h2,congrArg (fun p:List Int × List Int=>some (D.list [iL p.1,iL p.2])) (zuM T H m c).symm,A.h4,A.h5,A.h6,A.h7,step A.l1 n1,step A.l2 n2⟩
theorem zbD(N:zZ nm)(Tm:zwk tm){steps ring:List Int}(S:zH steps)(hn:steps.Nodup)(hs:steps.length≤40)(hr:ring.length≤20)(hring:∀ c∈ring,jA c∈steps)(hT:qJ (zv steps 0 [1]))(hH:qJ (zv steps 0 [-1]))
  (m0:∀ s∈(zy2 (zv steps 0 [1]) (zv steps 0 [-1]) ring).1,s∈steps)(m1:∀ s∈(zy2 (zv steps 0 [1]) (zv steps 0 [-1]) ring).2,s∈steps)
  (hc:∀ s∈steps,cnt (zy2 (zv steps 0 [1]) (zv steps 0 [-1]) ring).2 s=jX (zy2 (zv steps 0 [1]) (zv steps 0 [-1]) ring).1 ring s):
  fnC x21 212 ["names","times","steps","ring"] [] [zR nm,qf tm,iL steps,iL ring]=some (.bool true):=by
 have e1:=bV (start:=0) (sides:=[1]) S.small hs (by decide);have e2:=bV (start:=0) (sides:=[-1]) S.small hs (by decide);generalize zv steps 0 [1]=T at hT m0 m1 hc e1;generalize zv steps 0 [-1]=H at hH m0 m1 hc e2
 refine RS.loop (emb:=fun c=>D.tup [.int c,.int ((jA c).fdiv 512),.int ((jA c).fmod 512)]) (bd:=bdA) (b:=gF) (t:=zm5 "step" "tail" "head") (i:=xI (LE (f1C "step" (xI (vE "ring")) (mC (tE (cL (vE "step") (cL (oE .FloorDiv (CE x21 "abs" (cL (vE "step") nL)) (nE 512)) (cL (oE .Mod (CE x21 "abs" (cL (vE "step") nL)) (nE 512)) nL)))))))) (Inv:=fun l s=>∃ d m,d++l=ring∧d.foldl (jo T H) ([],[])=m∧zmC nm tm steps ring T H l.length m s) (l:=ring)
  (s:=upd (upd (upd (par ["names","times","steps","ring"] [zR nm,qf tm,iL steps,iL ring]) "there" (zt T)) "home" (zt H)) "made" (.list [.list [],.list []]))
  (.X (.lc (.FM (.X (.V rfl) (zf ring)) (fun v v v=>rfl) fun c m=>.T (.C (.V rfl) (.C (.O (.E (.C (.V rfl) .N) ((zzw _).trans (zuH c))) .C (zgA (S.small _ (hring c m)))) (.C (.O (.E (.C (.V rfl) .N) ((zzw _).trans (zuH c))) .C zdK) .N)))) (cpM hr)) rfl) (fun v v=>rfl)
  (fun c l s i=>X23 i fun d m e1 e2 A=>
   have hm:jA c∈steps:=hring c (e1▸mem_append_right _ (mem_cons_self ..))
   .imp (zy3 hT hH (S.tail _ hm) (S.head _ hm) A) fun s f q=>⟨q.1,d++[c],_,(append_assoc ..).trans e1,(foldl_append ..).trans (congrArg (fun z=>jo T H z c) e2),q.2⟩)
  ⟨[],([],[]),rfl,rfl,rfl,rfl,rfl,rfl,rfl,rfl,rfl,by rw [length_nil,zero_add];exact le_trans (mul_le_mul_left 41 hr) (by decide),by rw [length_nil,zero_add];exact le_trans (mul_le_mul_left 41 hr) (by decide)⟩ fun s' j1 j2=>?_
 refine X23 j2 fun d m i1 i2 A=>?_;have em:m=zy2 T H ring:=i2.symm.trans (congrArg (foldl (jo T H) ([],[])) ((append_nil d).symm.trans i1));rw [←em] at m0 m1 hc;have l1:m.1.length≤1000:=A.l1;have l2:m.2.length≤1000:=A.l2;refine X12 (zwq N (S.sub m0) (tm:=tm) (le_trans l1 (by decide))) fun b0 k0 F0=>?_;refine X12 (zwq N (S.sub m1) (tm:=tm) (le_trans l2 (by decide))) fun b1 k1 F1=>?_;refine X12 (zbV N Tm (ring:=[]) (made:=m.1) S hn hs (le_trans l1 (by decide)) (zero_le _)) fun d0 k2 U0=>?_;refine X12 (zbV N Tm (ring:=ring) (made:=m.1) S hn hs (le_trans l1 (by decide)) (le_trans hr (by decide))) fun d1 k3 U1=>?_;have q0:eqD 7 (.dS b0) (.dS d0)=some true:=F0.eq U0 (qi _) (yH hn) fun u v t v=>yF hn m0 (fun s hs=>by rw [zzx];simp [yD]) u t;have q1:eqD 7 (.dS b1) (.dS d1)=some true:=F1.eq U1 (qi _) (yH hn) fun u v t v=>yF hn m1 hc u t
 have q:eqD 8 (.list [.dS b0,.dS b1]) (.list [.dS d0,.dS d1])=some true:=zjz (a:=[.dS b0,.dS b1]) (b:=[.dS d0,.dS d1]) rfl fun i x y a1 a2=>match i,a1,a2 with
   |0,a1,a2=>sj a1▸sj a2▸q0
   |1,a1,a2=>sj a1▸sj a2▸q1
   |_+2,a1,_=>zq a1
 refine zb3 (.Q (.Ds (.C (.E (.C (.V rfl) (.C .C (.C (.T (.C .C .N)) .N))) e1) (.C (.E (.C (.V rfl) (.C .C (.C (.T (.C .C .N)) .N))) e2) (.C (.L (.C (.L .N) (.C (.L .N) .N))) .N)))) (.Q j1 (.R (.Q (.Q
  (.lc (.FM (emb:=fun b:Bool=>if b then iL m.2 else iL m.1) (g:=fun b:Bool=>if b then D.dS b1 else .dS b0) (n:=[false,true]) (.X (.V A.h3) rfl) (fun v v v=>rfl) fun b v=>.E (.C (.V A.h4) (.C (.V A.h5) (.C (.V rfl) .N))) ((zuF _ _ _).trans (by cases b;exact k0;exact k1))) (le_of_ble_eq_true rfl))
  (.lc (.FM (emb:=fun b:Bool=>if b then iL ring else iL []) (g:=fun b:Bool=>if b then D.dS d1 else .dS d0) (n:=[false,true]) (.X (.T (.C (.L .N) (.C (.V A.h7) .N))) rfl) (fun v v v=>rfl) fun b v=>.E (.C (.V A.h4) (.C (.V A.h5) (.C (.V A.h6) (.C (.I (.V A.h3) .C rfl) (.C (.V rfl) .N))))) ((zbP _ _ _ _ _).trans (by cases b;exact k2;exact k3))) (le_of_ble_eq_true rfl)) q)))))
end
end
section
theorem zpv(steps:List Int):∀ c∈jw steps [1],c∈steps:=fun c hc=>by
 refine X12 (mem_flatMap.mp hc) fun s hs h=>?_;simp at h;subst h;exact hs
theorem zwg(steps:List Int):∀ c∈jw steps [-1], -c∈steps:=fun c hc=>by
 refine X12 (mem_flatMap.mp hc) fun s hs h=>?_;simp at h;subst h;simpa using hs
theorem zfF{steps:List Int}(hp:∀ s∈steps,0<s):∀ c∈jw steps [1, -1],jA c∈steps∧c≠0:=fun c hc=>by
 refine X12 (mem_flatMap.mp hc) fun s hs h=>?_;have:=hp s hs;simp at h;rcases h with h|h
 ·subst h;have:¬ c<0:=by lia
  exact ⟨by unfold jA;rw [if_neg this];exact hs,by lia⟩
 ·subst h;have: -s<0:=by lia
  exact ⟨by unfold jA;rw [if_pos this];simpa using hs,by lia⟩
theorem zjv{steps sides:List Int}(hp:∀ s∈steps,0<s){t:Int}:∀ c∈th (zv steps 0 sides) t,c∈jw steps sides:=fun c hc=>by
 unfold th at hc;cases e:zr (zv steps 0 sides) t with
 |none=>rw [e] at hc;cases hc
 |some p=>
  rw [e] at hc
  (refine X13 (qZ e) fun q hq z z1=>?_;subst z1)
  exact zjw (wX hp 0 q hq) c hc
theorem bU{steps:List Int}(hp:∀ s∈steps,0<s){c:Int}(hc:jA c∈steps):∀ s∈along (zv steps 0 [1]) (zv steps 0 [-1]) c,s∈steps:=fun s hs=>by
 unfold along at hs;simp only [mem_append,mem_cons,not_mem_nil,or_false,mem_reverse,mem_map] at hs;rcases hs with (hs|rfl)|⟨x,hx,rfl⟩
 ·exact zpv steps s (zjv hp s hs)
 ·exact hc
 ·exact zwg steps x (zjv hp x hx)
theorem zju{steps:List Int}(hp:∀ s∈steps,0<s){c:Int}:∀ s∈past (zv steps 0 [1]) (zv steps 0 [-1]) c,s∈steps:=fun s hs=>by
 unfold past at hs;simp only [mem_append,mem_reverse,mem_map] at hs;rcases hs with hs|⟨x,hx,rfl⟩
 ·exact zpv steps s (zjv hp s hs)
 ·exact zwg steps x (zjv hp x hx)
theorem zjg{steps:List Int}(hp:∀ s∈steps,0<s):∀ (ring:List Int) (m:List Int × List Int),(∀ c∈ring,jA c∈steps)→(∀ s∈m.1,s∈steps)→(∀ s∈m.2,s∈steps)→
  (∀ s∈(ring.foldl (jo (zv steps 0 [1]) (zv steps 0 [-1])) m).1,s∈steps)∧∀ s∈(ring.foldl (jo (zv steps 0 [1]) (zv steps 0 [-1])) m).2,s∈steps
 |[],m,_,h1,h2=>⟨h1,h2⟩
 |c::ring,m,hr,h1,h2=>by
  simp only [foldl_cons];have h0:=hr c (mem_cons_self ..);refine zjg hp ring _ (fun x q=>hr x (mem_cons_of_mem _ q)) ?_ ?_
  ·unfold jo;intro s hs
   split at hs
   ·rcases mem_append.mp hs with hs|hs
    ·exact h1 s hs
    ·exact bU hp h0 s hs
   ·rcases mem_append.mp hs with hs|hs
    ·exact h1 s hs
    ·exact zju hp s hs
  ·unfold jo;intro s hs
   split at hs
   ·rcases mem_append.mp hs with hs|hs
    ·exact h2 s hs
    ·exact zju hp s hs
   ·rcases mem_append.mp hs with hs|hs
    ·exact h2 s hs
    ·exact bU hp h0 s hs
theorem zwp(T H:zx)(c s:Int):cnt (along T H c) s - cnt (past T H c) s=(if jA c=s then 1 else 0)+cnt (th H ((jA c).fmod 512)) (-s) - cnt (th H ((jA c).fdiv 512)) (-s):=by
 unfold along past;simp only [kO,zzk,zbU,km,yD];lia
theorem zuN(T H:zx)(m:List Int × List Int){c s:Int}(hc:c≠0)(hs:0<s):cnt (jo T H m c).1 s - cnt (jo T H m c).2 s=(cnt m.1 s - cnt m.2 s)+((if c=s then 1 else 0) - (if c= -s then 1 else 0))+(cnt (th H (zwv c)) (-s) - cnt (th H (zuP c)) (-s)):=by
 have h:=zwp T H c s;unfold jo zuP zwv;by_cases h0:0<c
 ·have ha:jA c=c:=by unfold jA;rw [if_neg (by lia)]
  rw [ha] at h;simp only [if_pos h0,kO];have:¬ c= -s:=by lia
  rw [if_neg this];lia
 ·have ha:jA c= -c:=by unfold jA;rw [if_pos (by lia)]
  rw [ha] at h;simp only [if_neg h0,kO];have h1:¬ c=s:=by lia
  rw [if_neg h1];have h2:(-c=s)↔(c= -s):=by lia
  simp only [h2] at h;lia
theorem zjp(T H:zx){s:Int}(hs:0<s):∀ (ring:List Int) (m:List Int × List Int),(∀ c∈ring,c≠0)→
  cnt (ring.foldl (jo T H) m).1 s - cnt (ring.foldl (jo T H) m).2 s=(cnt m.1 s - cnt m.2 s)+(cnt ring s - cnt ring (-s))+(ring.map fun c=>cnt (th H (zwv c)) (-s) - cnt (th H (zuP c)) (-s)).sum
 |[],m,_=>by simp [yD]
 |c::ring,m,hr=>by
  have h0:=hr c (mem_cons_self ..);have ih:=zjp T H hs ring (jo T H m c) fun x q=>hr x (mem_cons_of_mem _ q);have h1:=zuN T H m h0 hs;simp only [foldl_cons,map_cons,sum_cons,km];lia
section
variable {nm:Int→Str} {tm:Int→Int}
theorem zy4(N:zZ nm)(Tm:zwk tm){steps ring:List Int}(S:zH steps)(hn:steps.Nodup)(hs:steps.length≤40)(hp:∀ s∈steps,0<s)(hT:qJ (zv steps 0 [1]))(hH:qJ (zv steps 0 [-1]))
  (hr:ring.length≤20){v:Int}(hring:jO (jw steps [1, -1]) v ring v):fnC x21 212 ["names","times","steps","ring"] [] [zR nm,qf tm,iL steps,iL ring]=some (.bool true):=by
 have hc:=fun c hc=>zfF hp c (zjw hring c hc);have hm:=zjg hp ring ([],[]) (fun c m=>(hc c m).1) (by simp) (by simp);refine zbD N Tm S hn hs hr (fun c m=>(hc c m).1) hT hH hm.1 hm.2 fun s hs'=>?_;have h1:=zjp (zv steps 0 [1]) (zv steps 0 [-1]) (hp s hs') ring ([],[]) fun c m=>(hc c m).2;have h2:=zuB hring fun n=>cnt (th (zv steps 0 [-1]) n) (-s);rw [h2] at h1;simp only [yD] at h1;rw [zzx];unfold zy2;lia
end
end
section
noncomputable def zwb:D→Int
 | .int i=>i
 |_=>0
theorem zjb(i:Int):zwb (.int i)=i:=rfl
noncomputable def xe(kv:KV):Int:=(kv.map fun p=>zwb p.2).sum
structure zuR(kv:KV):Prop where
 nodup:(kv.map (fun z=>z.1)).Nodup
 allI:∀ p∈kv,p.2= .int (zwb p.2)
theorem vB{k:Str}{j:Int}:∀ {kv:KV},k∉kv.map (fun z=>z.1)→(kv.map fun p=>if p.1=k then (p.1,D.int j) else p)=kv
 |[],_=>rfl
 |(q,d)::kv,h=>by
  simp only [map_cons,mem_cons,not_or] at h;have:¬ q=k:=fun e=>h.1 e.symm;rw [map_cons,vB h.2];simp [this]
theorem zjd{k:Str}{i j:Int}:∀ {kv:KV},(kv.map (fun z=>z.1)).Nodup→zd kv k=some (.int i)→xe (qc kv k (.int j))=xe kv - i+j
 |[],_,h=>by simp [zd] at h
 |(q,d)::kv,hn,h=>by
  simp only [map_cons,nodup_cons] at hn
  have hany:((q,d)::kv).any (fun kv=>kv.1=k)=true:=by
   have:=jx h;exact any_eq_true.mpr ⟨_,this,by simp⟩
  unfold qc;rw [if_pos hany];rw [qB] at h;by_cases e:q=k
  ·subst e;rw [if_pos rfl] at h;cases h;rw [map_cons,vB hn.1];simp [xe,zjb];lia
  ·rw [if_neg e] at h;have ih:=zjd (j:=j) hn.2 h;have hany2:kv.any (fun kv=>kv.1=k)=true:=any_eq_true.mpr ⟨_,jx h,by simp⟩;unfold qc at ih;rw [if_pos hany2] at ih;simp only [map_cons,if_neg e,xe,sum_cons] at ih ⊢;lia
theorem zuS{kv:KV}(h:zuR kv)(k:Str)(v:Int):∃ kv',zvn kv [(k,.int v)]=some kv'∧zuR kv'∧xe kv'=xe kv+v∧kv'.length≤kv.length+1:=by
 unfold zvn zvm;dsimp only;cases e:zd kv k with
 |none=>
  refine ⟨qc kv k (.int v),rfl,⟨zT h.nodup,?_⟩,?_,j9 ..⟩
  ·rw [xP (qD.mp e)];intro p hp;rcases mem_append.mp hp with hp|hp
   ·exact h.allI p hp
   ·simp at hp;subst hp;rfl
  ·rw [xP (qD.mp e)];simp [xe,zjb]
 |some o=>
  have hm:=jx e;have ho:=h.allI _ hm;dsimp only at ho;refine ⟨qc kv k (.int (zwb o+v)),by dsimp only;rw [ho];rfl,⟨zT h.nodup,?_⟩,?_,j9 ..⟩
  ·intro p hp;have hl:=jk (zT (d:=.int (zwb o+v)) (k:=k) h.nodup) hp;rw [zo] at hl
   split at hl
   ·have hl:=sj hl;rw [←hl];rfl
   ·exact h.allI (p.1,p.2) (jx hl)
  ·rw [zjd h.nodup (by rw [e, ←ho])];lia
theorem zy5(a b:D):x20.call "divmod" [a,b]=xL a b:=by kernel_rfl
theorem zuT{a b r:KV}(hn:(a.map (fun z=>z.1)).Nodup)(hl:a.length+b.length≤900)(h:zvn a b=some r):x20.call "add_callers" [.dS a,.dS b]=some (.dS r):=
 (show _=fnC x7 70 ["target","source"] ["new_callers"] [.dS a,.dS b] by kernel_rfl).trans (zpz hn hl h)
theorem zwd{kvs:KV}{ns:List Int}(h:kvs.map (fun z=>z.2)=ns.map D.int):x20.call "count_calls" [.dS kvs]=some (.int ns.sum):=
 (show _=fnC x8 77 ["callers"] [] [.dS kvs] by kernel_rfl).trans (zb8 h)
theorem zbF(d:D):x20.call "str" [d]=zyD d:=by kernel_rfl
theorem zbH{i:Int}(h:zK i=true):zyD (.int i)=some (.str (ofString (toString i))):=if_pos h
theorem gO(k:Str)(d:D):qV [(.str k,d)]=some (.dS [(k,d)]):=rfl
theorem xm:∀ {kv acc:KV},((acc++kv).map (fun z=>z.1)).Nodup→zD acc kv=acc++kv
 |[],acc,_=>(append_nil acc).symm
 |(k,d)::kv,acc,h=>by
  have hk:k∉acc.map (fun z=>z.1):=by
   rw [map_append] at h;exact fun m=>(nodup_append.mp h).2.2 _ m _ (mem_cons_self ..) rfl
  show zD (qc acc k d) kv=_
  rw [xP hk,xm (by rw [append_assoc];exact h),append_assoc];rfl
section
variable {nm:Int→Str} {tm:Int→Int}
noncomputable def wW(I:Int→Bool)(c:Int→Int→Int)(s:Int):Int:=if I (s.fdiv 512)=true then c (s.fmod 512) (s.fdiv 512) else - c (s.fmod 512) (s.fdiv 512)
noncomputable def yr(I:Int→Bool)(counters:List Int):List Int:=counters.filter fun s=>I (s.fdiv 512) !=I (s.fmod 512)
theorem zm.get{h t:Int}{cn:Int→Int}{a:KV}(N:zZ nm)(x:zm nm tm h cn a)(ht:t∈zy)(h0:0≤cn t):(zd a (nm t)).getD (.int 0)= .int (cn t):=by
 rw [x.look];unfold zN;rw [qj N.inj ht];dsimp only
 split
 ·rfl
 ·have:cn t=0:=by lia
  rw [this];rfl
structure zmO(nm:Int→Str)(book:KV)(inside:zx)(c:Int→Int→Int)(tot:Int)(l:List Int)(flow:KV)(s:Sg):Prop where
 h1:s "names"=some (zR nm)
 h2:s "book"=some (.dS book)
 h3:s "inside"=some (zt inside)
 h4:s "flow"=some (.dS flow)
 F:zuR flow
 sum:xe flow+(l.map (wW (fun n=>(zr inside n).isSome) c)).sum=tot
 len:flow.length+l.length≤100
theorem zwf(N:zZ nm){s:Sg}{u:Int}{c:Int→Int→Int}(hc:∀ h t,0≤c h t){book flow:KV}{inside:zx}{tot:Int}{l:List Int}(B:ze nm tm c book)(ht:u.fdiv 512∈zy)(hh:u.fmod 512∈zy)(A:zmO nm book inside c tot (u::l) flow s):
  To zqO (upd (upd s "tail" (.int (u.fdiv 512))) "head" (.int (u.fmod 512))) fun s f=>f= .next∧∃ flow,zmO nm book inside c tot l flow s:=
 X12 (B.get hc hh) fun cs g1 g2=>X14 (zuS A.F (nm (u.fdiv 512)) (wW (fun n=>(zr inside n).isSome) c u)) fun flow' f1 f2 f3 f4=>
 have hl:flow.length+1+l.length≤100:=by rw [add_assoc,add_comm 1];exact A.len
 .mk (.Q (.A (.get (.I (.get (.V A.h2) (.C (.I (.V A.h1) (.V rfl) (qz hh)) (.C (.T (.C .C (.C .C (.C .C (.C .C (.C .C .N)))))) .N)) g1) .C rfl) (.C (.I (.V A.h1) (.V rfl) (qz ht)) (.C .C .N)) (g2.get N ht (hc _ _))))
  (.A (.E (.C (.V A.h4) (.C (.Di (.C (.I (.V A.h1) (.V rfl) (qz ht)) .N) (.C (.F (d:=.int (wW (fun n=>(zr inside n).isSome) c u)) (.Q (.V rfl) (.V A.h3) jy) (fun q=>.V (congrArg (fun z=>some (D.int z)) (if_pos q).symm)) fun q=>rwR (P:=fun z=>Rn _ _ (.int z)) (if_neg (ne_true_of_eq_false q)) (.M (.V rfl))) .N) (gO _ _)) .N))
   (zuT A.F.nodup (le_trans (le_of_add_right_le hl) (by decide)) f1))))
  ⟨rfl,flow',A.h1,A.h2,A.h3,rfl,f2,by rw [f3,Int.add_assoc];exact A.sum,le_trans (add_le_add_right f4 _) hl⟩
theorem zwh{flow:KV}{tot:Int}(F:zuR flow)(hl:flow.length≤100)(et:xe flow=tot)(hcap:za tot){s:Sg}{sg:Int}(hsg:sg=1∨sg= -1)(h:s "sign"=some (.int sg))(h2:s "flow"=some (.dS flow)):
  Rn (CE x20 "str" (cL (CE x20 "count_calls" (cL (DE (f2C "name" "many" (pI (vE "flow")) (kC (vE "name") (oE .Mult (vE "sign") (vE "many"))))) nL)) nL)) s (.str (ofString (toString (sg *tot)))):=by
 subst et;have hc:zK sg=true:=hsg.elim (fun e=>e▸rfl) fun e=>e▸rfl;have hc2:zK (sg *xe flow)=true:=za.cap (hsg.elim (fun e=>by rw [e,one_mul];exact hcap) fun e=>by rw [e];exact ⟨by have:=hcap.2;lia,by have:=hcap.1;lia⟩)
 have hsum (f:KV):(f.map fun p=>sg *zwb p.2).sum=sg *xe f:=by
  induction f with
  |nil=>exact (Int.mul_zero sg).symm
  |cons p f ih=>rw [map_cons,sum_cons,ih, ←mul_add];rfl
 have ek:(flow.map fun p=>(D.str p.1,D.int (sg *zwb p.2)))=(flow.map fun p=>(p.1,D.int (sg *zwb p.2))).map fun q=>(D.str q.1,q.2):=by rw [map_map];rfl
 have hn:((([]:KV)++flow.map fun p=>(p.1,D.int (sg *zwb p.2))).map (fun z=>z.1)).Nodup:=by rw [List.nil_append,map_map];exact F.nodup
 have hv:(([]:KV)++flow.map fun p=>(p.1,D.int (sg *zwb p.2))).map (fun z=>z.2)=(flow.map fun p=>sg *zwb p.2).map D.int:=by rw [List.nil_append,map_map,map_map];rfl
 exact .E (.C (.E (.C (.dc (.FK (emb:=b8) (.P (.V h2) rfl) (fun y y y=>rfl) (fun y y=>.V rfl) fun p m=>.O (.V h) (.V rfl) ((congrArg (yQ .Mult (.int sg)) (F.allI p m)).trans (gH hc))) (cpM hl) ((congrArg qV ek).trans ((bX _).trans (congrArg (fun z=>some (D.dS z)) (xm hn))))) .N) (zwd hv)) .N)
  ((zbF _).trans ((congrArg (fun z=>zyD (.int z)) (hsum flow)).trans (zbH hc2)))
theorem zfH(N:zZ nm){c:Int→Int→Int}(hc:∀ h t,0≤c h t){book:KV}{inside:zx}(B:ze nm tm c book){counters:List Int}(S:zH counters)(hl:counters.length≤40)
  {tot:Int}(htot:((yr (fun n=>(zr inside n).isSome) counters).map (wW (fun n=>(zr inside n).isSome) c)).sum=tot)(hcap:za tot):
  fnC x20 207 ["names","book","counters","inside"] [] [zR nm,.dS book,iL counters,zt inside]=some (.list [.str (ofString (toString (1 *tot))),.str (ofString (toString (-1 *tot)))]):=
 have q3 (a b:Bool):xJ .NotEq (.bool a) (.bool b)=some (a !=b):=by cases a<;>cases b<;>rfl
 have hcl:(yr (fun n=>(zr inside n).isSome) counters).length≤40:=le_trans (length_filter_le ..) hl
 RS.loop (emb:=zbQ) (bd:=fun i s=>upd (upd s "tail" (.int (i.fdiv 512))) "head" (.int (i.fmod 512))) (b:=zqO) (t:=zgM "tail" "head") (l:=yr (fun n=>(zr inside n).isSome) counters)
  (i:=xI (LE (f1C "step" (xI (vE "counters")) (iC (qT .NotEq (qE (qT .In (oE .FloorDiv (vE "step") (nE 512)) (vE "inside"))) (qE (qT .In (oE .Mod (vE "step") (nE 512)) (vE "inside")))) (mC (CE x20 "divmod" (cL (vE "step") (cL (nE 512) nL))))))))
  (Inv:=fun l s=>(∀ u∈l,u∈counters)∧∃ flow,zmO nm book inside c tot l flow s) (s:=upd (par ["names","book","counters","inside"] [zR nm,.dS book,iL counters,zt inside]) "flow" (.dS []))
  (.X (.lc (.FI (p:=fun u=>(zr inside (u.fdiv 512)).isSome !=(zr inside (u.fmod 512)).isSome) (.X (.V rfl) (zf _)) (fun z z z=>rfl) (fun u m=>.Q (.Q (.Q (.O (.V rfl) .C (zgA (S.small u m))) (.V rfl) jy)) (.Q (.Q (.O (.V rfl) .C zdK) (.V rfl) jy)) (q3 _ _)) fun u z z=>.E (.C (.V rfl) (.C .C .N)) ((zy5 _ _).trans (zjy u))) (cpM hcl)) rfl) (fun z z=>rfl)
  (fun u l s i=>X02 i fun im i=>X11 i fun flow A=>have hu:=im u (mem_cons_self ..);.imp (zwf N hc B (S.tail u hu) (S.head u hu) A) fun s f q=>⟨q.1,fun v m=>im v (mem_cons_of_mem _ m),q.2⟩)
  ⟨fun u m=>(mem_filter.mp m).1,[],rfl,rfl,rfl,rfl,⟨.nil,fun z h=>absurd h not_mem_nil⟩,(Int.zero_add _).trans htot,(zero_add _).symm▸le_trans hcl (by decide)⟩ fun s' j1 j2=>X11 j2.2 fun flow A=>
 have et:xe flow=tot:=(add_zero _).symm.trans A.sum
 zfX (.Q (.A .C) (.Q j1 (.R (.lc (.FM (emb:=D.int) (n:=[1, -1]) (.X (.T (.C .C (.C .C .N))) rfl) (fun z z z=>rfl) fun i m=>zwh (s:=upd s' "sign" (.int i)) A.F A.len et hcap ((mem_cons.mp m).imp id mem_singleton.mp) rfl A.h4) (le_of_ble_eq_true rfl)))))
end
end
section
noncomputable def has(r:zx)(k:Int):Bool:=(zr r k).isSome
theorem jI{r:zx}{k:Int}:has r k=true↔k∈r.map (fun z=>z.1):=by
 unfold has;constructor
 ·intro h;refine X11 (isSome_iff_exists.mp h) fun p hp=>?_;refine X13 (qZ hp) fun q hq e z=>?_;exact mem_map.mpr ⟨q,hq,e⟩
 ·intro h;cases e:zr r k with
  |some z=>rfl
  |none=>
   refine X12 (mem_map.mp h) fun q hq e2=>?_;exact absurd e2 (vG e q hq)
theorem qL(r:zx)(a:Arc):(qd r a=r∧(has r a.1=true→has r a.2.1=true))∨(∃ p,qd r a=r++[(a.2.1,p)]∧has r a.1=true∧has r a.2.1=false):=by
 unfold qd has;cases h1:zr r a.1 with
 |none=>exact .inl ⟨rfl,fun h=>by cases h⟩
 |some p=>
  cases h2:zr r a.2.1 with
  |some q=>exact .inl ⟨rfl,fun z=>rfl⟩
  |none=>exact .inr ⟨p++[a.2.2],rfl,rfl,rfl⟩
structure qW(r:zx):Prop where
 nodup:(r.map (fun z=>z.1)).Nodup
 sub:∀ k∈r.map (fun z=>z.1),k∈zy
theorem qW.len{r:zx}(x:qW r):r.length≤5:=by
 have:=Nodup.length_le_of_subset x.nodup (l₂:=zy) x.sub
 simpa [zy] using this
theorem qW.full{r:zx}(x:qW r)(h:5≤r.length):∀ k∈zy,has r k=true:=fun k hk=>by
 apply Classical.byContradiction;intro hn;have hk':k∉r.map (fun z=>z.1):=fun m=>hn (jI.mpr m);have:(k::r.map (fun z=>z.1)).Nodup:=nodup_cons.mpr ⟨hk',x.nodup⟩
 have:=Nodup.length_le_of_subset this (l₂:=zy) fun y hy=>by
  rcases mem_cons.mp hy with rfl|hy
  ·exact hk
  ·exact x.sub y hy
 simp [zy] at this;lia
theorem qW.step{r:zx}(x:qW r){a:Arc}(ha:a.2.1∈zy):qW (qd r a):=by
 rcases qL r a with ⟨e,_⟩|⟨p,e,_,h2⟩
 ·rw [e];exact x
 ·rw [e];have h2:a.2.1∉r.map (fun z=>z.1):=fun m=>by rw [jI.mpr m] at h2;cases h2
  refine ⟨?_,fun k hk=>?_⟩
  ·rw [map_append,nodup_append];exact ⟨x.nodup,by simp,fun u hu v hv e=>h2 (by simp at hv;subst hv;subst e;exact hu)⟩
  ·rw [map_append] at hk;rcases mem_append.mp hk with hk|hk
   ·exact x.sub k hk
   ·simp at hk;subst hk;exact ha
theorem zwm{L:List Arc}(hL:∀ a∈L,a.2.1∈zy):∀ {r:zx},qW r→qW (L.foldl qd r):=by
 induction L with
 |nil=>intro r x;exact x
 |cons a L ih=>intro r x;exact ih (fun b m=>hL b (mem_cons_of_mem _ m)) (x.step (hL a (mem_cons_self ..)))
theorem gA:∀ (L:List Arc) (r:zx),r.length≤(L.foldl qd r).length
 |[],r=>le_refl _
 |a::L,r=>by
  refine le_trans ?_ (gA L (qd r a));rcases qL r a with ⟨e,_⟩|⟨p,e,_⟩<;>rw [e]<;>simp
theorem bG:∀ (L:List Arc) (r:zx),(L.foldl qd r).length=r.length→L.foldl qd r=r∧∀ a∈L,has r a.1=true→has r a.2.1=true
 |[],r,_=>⟨rfl,fun z h=>nomatch h⟩
 |a::L,r,h=>by
  simp only [foldl_cons] at h ⊢;have h1:=gA L (qd r a);rcases qL r a with ⟨e,hc⟩|⟨p,e,_,_⟩
  ·rw [e] at h ⊢;refine X02 (bG L r h) fun h2 h3=>?_;refine ⟨h2,fun b hb=>?_⟩;rcases mem_cons.mp hb with rfl|hb
   ·exact hc
   ·exact h3 b hb
  ·rw [e] at h h1;simp at h1;lia
theorem vD:∀ (L:List Arc) (r:zx) (k:Int),has r k=true→has (L.foldl qd r) k=true
 |[],_,_,h=>h
 |a::L,r,k,h=>by
  refine vD L _ k ?_;rcases qL r a with ⟨e,_⟩|⟨p,e,_⟩
  ·rw [e];exact h
  ·rw [e,jI,map_append];exact mem_append_left _ (jI.mp h)
def zbM(A:List Arc)(r:zx):Prop:=∀ a∈A,has r a.1=true→has r a.2.1=true
theorem wV{A:List Arc}(hA:∀ a∈A,a.2.1∈zy):∀ (n:Nat) (r:zx),qW r→5≤r.length+n→zbM A ((replicate n A).flatten.foldl qd r)
 |0,r,x,h=>fun a ha z=>x.full (by simpa using h) _ (hA a ha)
 |n+1,r,x,h=>by
  rw [replicate_succ,flatten_cons,foldl_append];by_cases hl:(A.foldl qd r).length=r.length
  ·refine X02 (bG A r hl) fun e hc=>?_;rw [e]
   have:∀ m,(replicate m A).flatten.foldl qd r=r:=by
    intro m
    induction m with
    |zero=>rfl
    |succ m ih=>rw [replicate_succ,flatten_cons,foldl_append,e,ih]
   rw [this];exact hc
  ·have:=gA A r;exact wV hA n _ (zwm hA x) (by lia)
inductive zA(L:List Int):Int→Int→Prop
 |refl (u:Int):zA L u u
 |fwd {u s:Int}:zA L u (s.fdiv 512)→s∈L→zA L u (s.fmod 512)
 |bwd {u s:Int}:zA L u (s.fmod 512)→s∈L→zA L u (s.fdiv 512)
theorem pq{L:List Int}{a:Arc}(ha:a∈jf L [1, -1]):∃ s∈L,(a=(s.fdiv 512,s.fmod 512,s))∨a=(s.fmod 512,s.fdiv 512, -s):=by
 refine X12 (mem_flatMap.mp ha) fun s hs h=>?_;simp at h;exact ⟨s,hs,h⟩
theorem zwn{L:List Int}{s:Int}(hs:s∈L):(s.fdiv 512,s.fmod 512,s)∈jf L [1, -1]∧(s.fmod 512,s.fdiv 512, -s)∈jf L [1, -1]:=by
 constructor<;>refine mem_flatMap.mpr ⟨s,hs,?_⟩<;>simp
theorem jQ{L:List Int}(S:zH L){u:Int}(hu:u∈zy)(v:Int):has (zv L u [1, -1]) v=true↔zA L u v:=by
 have hA:∀ a∈jf L [1, -1],a.2.1∈zy:=fun a ha=>by
  obtain ⟨s,hs,rfl|rfl⟩:=pq ha
  ·exact S.head s hs
  ·exact S.tail s hs
 have x0:qW [(u,[])]:=⟨by simp,fun k hk=>by simp at hk;subst hk;exact hu⟩
 have hcl:=wV hA 4 _ x0 (by simp);constructor
 ·have:∀ (A:List Arc) (r:zx),(∀ a∈A,a∈jf L [1, -1])→(∀ k,has r k=true→zA L u k)→∀ k,has (A.foldl qd r) k=true→zA L u k:=by
   intro A
   induction A with
   |nil=>intro r z h;exact h
   |cons a A ih=>
    intro r hA h;refine ih _ (fun b m=>hA b (mem_cons_of_mem _ m)) fun k hk=>?_;rcases qL r a with ⟨e,_⟩|⟨p,e,h1,_⟩
    ·rw [e] at hk;exact h k hk
    ·rw [e,jI,map_append] at hk;rcases mem_append.mp hk with hk|hk
     ·exact h k (jI.mpr hk)
     ·simp at hk;subst hk;have hr:=h _ h1;obtain ⟨s,hs,rfl|rfl⟩:=pq (hA a (mem_cons_self ..))
      ·exact .fwd hr hs
      ·exact .bwd hr hs
  refine this _ _ (fun a ha=>?_) (fun k hk=>?_) v
  ·refine X12 (mem_flatten.mp ha) fun l hl ha=>?_;rw [List.eq_of_mem_replicate hl] at ha;exact ha
  ·rw [jI] at hk;simp at hk;subst hk;exact .refl _
 ·intro h
  induction h with
  |refl=>exact vD _ _ _ (jI.mpr (by simp))
  |fwd z hs ih=>exact hcl _ (zwn hs).1 ih
  |bwd z hs ih=>exact hcl _ (zwn hs).2 ih
theorem zA.trans{L:List Int}{u v x:Int}(h:zA L u v)(h':zA L v x):zA L u x:=by
 induction h' with
 |refl=>exact h
 |fwd z hs ih=>exact .fwd ih hs
 |bwd z hs ih=>exact .bwd ih hs
theorem zA.symm{L:List Int}{u v:Int}(h:zA L u v):zA L v u:=by
 induction h with
 |refl=>exact .refl _
 |fwd z hs ih=>exact (zA.bwd (.refl _) hs).trans ih
 |bwd z hs ih=>exact (zA.fwd (.refl _) hs).trans ih
theorem zA.mono{L L':List Int}(hl:∀ s∈L,zA L' (s.fdiv 512) (s.fmod 512)){u v:Int}(h:zA L u v):zA L' u v:=by
 induction h with
 |refl=>exact .refl _
 |fwd z hs ih=>exact ih.trans (hl _ hs)
 |bwd z hs ih=>exact ih.trans (hl _ hs).symm
theorem zA.of_mem{L:List Int}{s:Int}(hs:s∈L):zA L (s.fdiv 512) (s.fmod 512):=.fwd (.refl _) hs
noncomputable def yq:List Int→List Int→List Int
 |acc,[]=>acc
 |acc,s::r=>yq (if has (zv acc (s.fdiv 512) [1, -1]) (s.fmod 512) then acc else acc++[s]) r
theorem kA:∀ (l acc pre:List Int),zH (pre++l)→(∀ s∈acc,s∈pre)→(∀ s∈pre,zA acc (s.fdiv 512) (s.fmod 512))→(pre++l).Nodup→
  ∀ s,s∈yq acc l↔s∈acc∨∃ a b,l=a++s::b∧¬ zA (pre++a) (s.fdiv 512) (s.fmod 512)
 |[],acc,pre,_,_,_,_,s=>by simp [yq]
 |x::l,acc,pre,S,h1,h2,hn,s=>by
  have Sacc:zH acc:=S.sub fun s hs=>mem_append_left _ (h1 s hs);have hx:x.fdiv 512∈zy:=S.tail x (by simp)
  have hiff:has (zv acc (x.fdiv 512) [1, -1]) (x.fmod 512)=true↔zA pre (x.fdiv 512) (x.fmod 512):=by
   rw [jQ Sacc hx];exact ⟨fun h=>h.mono fun s hs=>.of_mem (h1 s hs),fun h=>h.mono h2⟩
  have hS:zH ((pre++[x])++l):=by simpa using S
  have hn':((pre++[x])++l).Nodup:=by simpa using hn
  have hxl:x∉l:=by
   rw [nodup_append] at hn;exact (nodup_cons.mp hn.2.1).1
  simp only [yq];by_cases hb:has (zv acc (x.fdiv 512) [1, -1]) (x.fmod 512)=true
  ·rw [if_pos hb];rw [kA l acc (pre++[x]) hS (fun s hs=>mem_append_left _ (h1 s hs)) (fun s hs=>?_) hn' s]
   ·constructor
    ·rintro (h|⟨a,b,rfl,h⟩)
     ·exact .inl h
     ·exact .inr ⟨x::a,b,rfl,by simpa using h⟩
    ·rintro (h|⟨a,b,e,h⟩)
     ·exact .inl h
     ·cases a with
      |nil=>
       simp at e
       (refine X02 e fun z7 z=>?_;subst z7;try clear e)
       exact absurd (hiff.mp hb) (by simpa using h)
      |cons y a=>
       simp at e
       (refine X02 e fun z5 z6=>?_;subst z5;subst z6;try clear e)
       exact .inr ⟨a,b,rfl,by simpa using h⟩
   ·rcases mem_append.mp hs with hs|hs
    ·exact h2 s hs
    ·simp at hs;subst hs;exact (jQ Sacc hx _).mp hb
  ·rw [if_neg hb];have hnr:¬ zA pre (x.fdiv 512) (x.fmod 512):=fun h=>hb (hiff.mpr h);rw [kA l (acc++[x]) (pre++[x]) hS (fun s hs=>?_) (fun s hs=>?_) hn' s]
   ·constructor
    ·rintro (h|⟨a,b,rfl,h⟩)
     ·rcases mem_append.mp h with h|h
      ·exact .inl h
      ·simp at h;subst h;exact .inr ⟨[],l,rfl,by simpa using hnr⟩
     ·exact .inr ⟨x::a,b,rfl,by simpa using h⟩
    ·rintro (h|⟨a,b,e,h⟩)
     ·exact .inl (mem_append_left _ h)
     ·cases a with
      |nil=>
       simp at e
       (refine X02 e fun z4 z=>?_;subst z4;try clear e)
       exact .inl (by simp)
      |cons y a=>
       simp at e
       (refine X02 e fun z2 z3=>?_;subst z2;subst z3;try clear e)
       exact .inr ⟨a,b,rfl,by simpa using h⟩
   ·rcases mem_append.mp hs with hs|hs
    ·exact mem_append_left _ (h1 s hs)
    ·exact mem_append_right _ hs
   ·rcases mem_append.mp hs with hs|hs
    ·exact (h2 s hs).mono fun s hs=>.of_mem (mem_append_left _ hs)
    ·simp at hs;subst hs;exact .of_mem (by simp)
end
section
noncomputable def wO(f:Int→Int)(l:List Int):Int:=(l.map f).sum
theorem qq(f:Int→Int)(a:Int)(l:List Int):wO f (a::l)=f a+wO f l:=by simp [wO]
theorem zjf(f g:Int→Int):∀ l:List Int,wO (fun x=>f x+g x) l=wO f l+wO g l
 |[]=>rfl
 |a::l=>by rw [qq,qq,qq,zjf f g l];lia
theorem wU{f:Int→Int}:∀ {l:List Int},(∀ x∈l,f x=0)→wO f l=0
 |[],_=>rfl
 |a::l,h=>by rw [qq,h a (mem_cons_self ..),wU fun x m=>h x (mem_cons_of_mem _ m)];rfl
theorem yM{f:Int→Int}{a:Int}:∀ {l:List Int},l.Nodup→a∈l→(∀ x∈l,x≠a→f x=0)→wO f l=f a
 |[],_,h,_=>nomatch h
 |b::l,hn,hm,h=>by
  simp only [nodup_cons] at hn;rw [qq];by_cases e:b=a
  ·subst e;rw [wU fun x m=>h x (mem_cons_of_mem _ m) fun q=>hn.1 (q▸m)];simp
  ·have hm:a∈l:=(mem_cons.mp hm).resolve_left fun q=>e q.symm;rw [h b (mem_cons_self ..) e,yM hn.2 hm fun x m=>h x (mem_cons_of_mem _ m)];simp
theorem wG(f:Int→Int)(p:Int→Bool):∀ l:List Int,wO f l=wO f (l.filter p)+wO f (l.filter fun x=> !p x)
 |[]=>rfl
 |a::l=>by
  rw [qq,wG f p l];cases h:p a<;>simp [filter_cons,h,qq]<;>lia
theorem zwr{steps:List Int}(hn:steps.Nodup)(g:Int→Int):∀ {made:List Int},(∀ m∈made,m∈steps)→wO (fun s=>g s *cnt made s) steps=wO g made
 |[],_=>wU fun x z=>by simp [yD]
 |m::made,h=>by
  have ih:=zwr hn g fun x q=>h x (mem_cons_of_mem _ q)
  have e:(fun s=>g s *cnt (m::made) s)=fun s=>g s *(if m=s then 1 else 0)+g s *cnt made s:=by
   funext s;rw [km,mul_add]
  rw [e,zjf,ih,qq,yM hn (h m (mem_cons_self ..)) fun x z hx=>by rw [if_neg (fun q=>hx q.symm)];simp];simp
noncomputable def ind(b:Bool):Int:=if b=true then 1 else 0
def xD(made:List Int):Prop:=∀ K:Int→Int,wO (fun m=>K (m.fdiv 512) - K (m.fmod 512)) made=0
theorem zws(I:Int→Bool)(made:List Int)(l:List Int):((yr I l).map (wW I (gC made))).sum=wO (fun s=>(ind (I (s.fdiv 512)) - ind (I (s.fmod 512))) *cnt made s) l:=by
 induction l with
 |nil=>rfl
 |cons a l ih=>
  rw [qq, ←ih];unfold yr wW;rw [filter_cons];cases h1:I (a.fdiv 512)<;>cases h2:I (a.fmod 512)<;>simp [ind,h1,bW]
theorem zy6{steps made bare:List Int}{step:Int}(S:zH steps)(hn:steps.Nodup)(hm:∀ m∈made,m∈steps)(hb:xD made)(hsub:bare=steps.filter (fun s=>bare.contains s))(hs:step∈bare)
  (hout:has (zv (bare.filter fun s=>s !=step) (step.fmod 512) [1, -1]) (step.fdiv 512)=false):
  ((yr (has (zv (bare.filter fun s=>s !=step) (step.fmod 512) [1, -1])) (steps.filter fun s=> !bare.contains s)).map (wW (has (zv (bare.filter fun s=>s !=step) (step.fmod 512) [1, -1])) (gC made))).sum=cnt made step:=by
 have hbs:∀ s∈bare,s∈steps:=fun s h=>by rw [hsub] at h;exact (mem_filter.mp h).1
 have S2:zH (bare.filter fun s=>s !=step):=S.sub fun s h=>hbs s (mem_filter.mp h).1;have hh:step.fmod 512∈zy:=S.head _ (hbs _ hs);have hI:=jQ S2 hh;rw [zws];generalize hg:(fun s=>(ind (has (zv (bare.filter fun s=>s !=step) (step.fmod 512) [1, -1]) (s.fdiv 512)) - ind (has (zv (bare.filter fun s=>s !=step) (step.fmod 512) [1, -1]) (s.fmod 512))) *cnt made s)=f
 have h0:wO f steps=0:=by
  rw [←hg,zwr hn (fun s=>ind (has (zv (bare.filter fun s=>s !=step) (step.fmod 512) [1, -1]) (s.fdiv 512)) - ind (has (zv (bare.filter fun s=>s !=step) (step.fmod 512) [1, -1]) (s.fmod 512))) hm];exact hb fun n=>ind (has (zv (bare.filter fun s=>s !=step) (step.fmod 512) [1, -1]) n)
 have h1:=wG f (fun s=>bare.contains s) steps;rw [←hsub] at h1;have hnb:bare.Nodup:=by rw [hsub];exact hn.filter _
 have h2:wO f bare=f step:=yM hnb hs fun x hx hne=>by
  rw [←hg];have hxm:x∈bare.filter fun s=>s !=step:=mem_filter.mpr ⟨hx,by simpa using hne⟩
  have:has (zv (bare.filter fun s=>s !=step) (step.fmod 512) [1, -1]) (x.fdiv 512)=has (zv (bare.filter fun s=>s !=step) (step.fmod 512) [1, -1]) (x.fmod 512):=by
   rw [Bool.eq_iff_iff,hI,hI];exact ⟨fun h=>.fwd h hxm,fun h=>.bwd h hxm⟩
  simp only [this];simp
 have h3:f step= - cnt made step:=by
  rw [←hg];have:has (zv (bare.filter fun s=>s !=step) (step.fmod 512) [1, -1]) (step.fmod 512)=true:=(hI _).mpr (.refl _);simp only [this,hout,ind];simp
 lia
noncomputable def kn:Int→List Int→Bool
 |h,[]=>h==0
 |h,c::r=>c.fdiv 512==h&&kn (c.fmod 512) r
theorem kt(K:Int→Int):∀ {l:List Int} {h:Int},kn h l=true→wO (fun m=>K (m.fdiv 512) - K (m.fmod 512)) l=K h - K 0
 |[],h,e=>((congrArg (fun z=>K z - K 0) (eq_of_beq e:h=0)).trans (Int.sub_self _)).symm
 |c::r,h,e=>by
  have e:=and_eq_true_iff.mp (show (c.fdiv 512==h&&kn (c.fmod 512) r)=true from e);rw [qq,kt K e.2,(eq_of_beq e.1:c.fdiv 512=h)];lia
theorem wP(f:Int→Int)(a b:List Int):wO f (a++b)=wO f a+wO f b:=by simp [wO]
theorem vf{a b c:List Int}(ha:kn 0 a=true)(hb:kn 0 b=true)(hc:kn 0 c=true):xD (a++b++c):=fun K=>by
 rw [wP,wP,kt K ha,kt K hb,kt K hc];simp
end
section
open PySem.Builtin.Str
noncomputable abbrev sN(l:List Nat):Str:=⟨l.toArray⟩
theorem zfM(a b:List Nat):sN a++sN b=sN (a++b):=ext' (by rw [cps_append];simp)
theorem ko(a:List Nat):(sN a).length=a.length:=by simp [Str.length]
noncomputable def zzv(c:Nat):List (List Nat)→List Nat
 |[]=>[]
 |[x]=>x
 |x::y::r=>x++c::zzv c (y::r)
theorem xF(c:Nat):∀ ls:List Str,(Str.join (sN [c]) ls).cps.toList=zzv c (ls.map fun p=>p.cps.toList)
 |[]=>rfl
 |[x]=>rfl
 |x::y::r=>by
  have ih:=xF c (y::r)
  show (x++sN [c]++Str.join (sN [c]) (y::r)).cps.toList=_
  rw [cps_append,cps_append,toList_append,toList_append,ih];exact append_assoc ..
theorem vF(c:Nat):∀ {a b u v:List Nat},c∉a→c∉b→a++c::u=b++c::v→a=b∧u=v
 |[],[],_,_,_,_,h=>⟨rfl,by simpa using h⟩
 |[],y::b,_,_,_,hb,h=>by simp at h;simp [←h.1] at hb
 |x::a,[],_,_,ha,_,h=>by simp at h;simp [h.1] at ha
 |x::a,y::b,u,v,ha,hb,h=>by
  simp only [List.cons_append,List.cons.injEq] at h;simp only [mem_cons,not_or] at ha hb;refine X02 (vF c ha.2 hb.2 h.2) fun e f=>?_;exact ⟨by rw [h.1,e],f⟩
theorem bP(c:Nat){x y:List Nat}{r:List (List Nat)}:c∈zzv c (x::y::r):=mem_append_right _ (mem_cons_self ..)
theorem bB(c:Nat):∀ {as bs:List (List Nat)},as≠[]→bs≠[]→(∀ p∈as,c∉p)→(∀ p∈bs,c∉p)→zzv c as=zzv c bs→as=bs
 |[],_,h,_,_,_,_=>absurd rfl h
 |_,[],_,h,_,_,_=>absurd rfl h
 |[x],[y],_,_,_,_,h=>by rw [show x=y from h]
 |[x],y::z::r,_,_,ha,_,h=>by
  have:c∈x:=by rw [show x=zzv c (y::z::r) from h];exact bP c
  exact absurd this (ha x (mem_cons_self ..))
 |x::z::r,[y],_,_,_,hb,h=>by
  have:c∈y:=by rw [show y=zzv c (x::z::r) from h.symm];exact bP c
  exact absurd this (hb y (mem_cons_self ..))
 |x::z::r,y::w::q,_,_,ha,hb,h=>by
  refine X02 (vF c (ha x (mem_cons_self ..)) (hb y (mem_cons_self ..)) h) fun e f=>?_;rw [e,bB c (cons_ne_nil _ _) (cons_ne_nil _ _) (fun p m=>ha p (mem_cons_of_mem _ m)) (fun p m=>hb p (mem_cons_of_mem _ m)) f]
theorem zuL(x y:Str):Txt.split x y≠[]:=by
 unfold Txt.split
 split
 ·simp
 ·split
  ·simp
  ·intro h;have:=PySem.StrLaws.partsBetween_eq x (occurrences x y 0 x.length (x.length+1)) y.length;refine X21 (PySem.StrLaws.partsFrom_ne x y.length 0 (occurrences x y 0 x.length (x.length+1))) fun p r e=>?_;rw [h,e] at this;cases this
theorem toList_inj{a b:List Str}(h:a.map (fun p=>p.cps.toList)=b.map fun p=>p.cps.toList):a=b:=by
 induction a generalizing b with
 |nil=>cases b with
  |nil=>rfl
  |cons y b=>simp at h
 |cons x a ih=>cases b with
  |nil=>simp at h
  |cons y b=>
   simp only [map_cons,List.cons.injEq] at h;rw [ih h.2,show x=y from ext' (Array.toList_inj.mp h.1)]
theorem vH(c:Nat){ls:List Str}(hne:ls≠[])(hf:∀ p∈ls,c∉p.cps.toList):Txt.split (Str.join (sN [c]) ls) (sN [c])=ls:=by
 apply toList_inj;refine bB c ?_ (by simpa using hne) ?_ ?_ ?_
 ·intro h;exact zuL _ _ (List.map_eq_nil_iff.mp h)
 ·intro p hp
  (refine X12 (mem_map.mp hp) fun q hq z2=>?_;subst z2)
  exact PySem.StrLaws.split_free _ c q hq
 ·intro p hp
  (refine X12 (mem_map.mp hp) fun q hq z1=>?_;subst z1)
  exact hf q hq
 ·rw [←xF, ←xF,PySem.StrLaws.join_split]
set_option tactic.hygienic true in
theorem zpu{x y:Str}{ls:List Str}(h:Txt.split x y=ls)(h2:2≤ls.length)(hy:y.length≠0)(hx:x.length≤1000)(hl:ls.length≤1000):jP "split" (.str x) [.str y]=some (.list (ls.map .str)):=by
 unfold Txt.split at h
 split at h
 ·rw [←h] at h2;simp at h2
 ·rename_i h1
  split at h
  ·rw [←h] at h2;simp at h2
  ·rename_i h3
   have hok:kW x y=true:=by
    unfold kW;rw [h];simp only [Bool.not_eq_true] at h1 h3;rw [h1,h3];have:(y.length==0)=false:=by simpa using hy
    rw [this];rw [decide_eq_true (show x.length≤zz by unfold zz;exact le_trans ‹_› (by decide)),decide_eq_true (show ls.length≤zz by unfold zz;exact le_trans ‹_› (by decide))];rfl
   have e:zze x y=ls:=h;exact (show _=(if kW x y=true then some (D.list ((zze x y).map .str)) else none) by kernel_rfl).trans ((if_pos hok).trans (by rw [e]))
theorem zmA{c:Str}{ls:List Str}(h:JoinOk c ls=true):jP "join" (.str c) [.list (ls.map .str)]=some (.str (Str.join c ls)):=by
 have:vo (ls.map .str)=some ls:=by
  induction ls with
  |nil=>rfl
  |cons a l ih=>
   have:∀ l:List Str,vo (l.map .str)=some l:=fun l=>by
    induction l with
    |nil=>rfl
    |cons a l ih=>exact congrArg (Option.map (a:: ·)) ih
   exact this _
 show (if ("join":Str)="join" then ((vo (ls.map .str)).bind fun ys=>if JoinOk c ys=true then some (D.str (Txt.join c ys)) else none) else none)=_
 rw [if_pos rfl,this];exact (if_pos h).trans (congrArg (fun z=>some (D.str z)) (PySem.StrLaws.glued_eq_join c ls))
end
section
theorem ja{α:Type}{emb:α→D}{l:List α}{k:Int}(h0:0≤k)(h1:k<1000000){v:α}(h:l[k.toNat]? =some v):zY (.list (l.map emb)) (.int k)=some (emb v):=
 zzE h0 h1 (by rw [getElem?_map,h];rfl)
noncomputable def dN(l:List Nat):D:=.str (sN l)
theorem kI(a:Int){n:Int}(h:0<n):0≤a.fmod n:=fmod_nonneg_of_pos a h
theorem ki(a:Int){n:Int}(h:0<n):a.fmod n<n:=fmod_lt_of_pos a h
theorem Rn.m{s:Sg}{e:Ex}{a n:Int}(h:Rn e s (.int a))(h0:n≠0:=by decide):Rn (oE .Mod e (nE n)) s (.int (a.fmod n)):=.O h .C (zu8 h0)
theorem Rn.q{s:Sg}{e:Ex}{a n:Int}(h:Rn e s (.int a))(h1:za a)(h2:za n)(h0:n≠0:=by decide):Rn (oE .FloorDiv e (nE n)) s (.int (a.fdiv n)):=.O h .C (jc h1 h2 h0)
structure zuC(b:Int)(cs:List Int):Prop where
 len:cs.length=6
 le:∀ x∈cs,0≤x∧x+b≤400000
theorem zbN{v r b:Int}(h:v+(b+5040)≤400000)(h2:r<5040):v+r+b≤400000:=by
 rw [Int.add_assoc,Int.add_comm r];exact Int.le_trans (Int.add_le_add_left (Int.add_le_add_left (Int.le_of_lt h2) b) v) h
theorem zy7{s:Sg}{cs:List Int}{i:Nat}{n b:Int}(h:s "cells"=some (iL cs))(C:zuC (b+5040) cs){Q:Sg→Fl→Prop}(q:∀ cs',zuC b cs'→Q (upd (upd (upd s "spot" (.int i)) "number" (.int n)) "cells" (iL cs')) .next):To zqT (upd (upd s "spot" (.int i)) "number" (.int n)) Q:=
 have q1:=kI (i:Int) (n:=6) (by decide);have q2:=ki (i:Int) (n:=6) (by decide);have hk:((i:Int).fmod 6).toNat<6:=(toNat_lt q1).mpr q2;have hl:((i:Int).fmod 6).toNat<cs.length:=C.len▸hk;have n1:=kI n (n:=5040) (by decide);have n2:=ki n (n:=5040) (by decide);have hx:=C.le _ (List.getElem_mem hl)
 .mk (.W (d:=.int (cs[((i:Int).fmod 6).toNat]+n.fmod 5040)) h (.m (.V rfl)) (.m (.V rfl)) (wZ q1 (lt_trans q2 (by decide)) (getElem?_eq_getElem hl)) rfl ((if_pos ⟨q1,by rw [length_map,C.len];exact q2,by rw [length_map,C.len];decide⟩).trans (congrArg (fun l=>some (D.list l)) map_set.symm)))
  (q _ ⟨length_set.trans C.len,fun x m=>(List.mem_or_eq_of_mem_set m).elim (fun m=>have h:=C.le x m;⟨h.1,Int.le_trans (Int.add_le_add_left (Int.le_add_of_nonneg_right (by decide)) _) h.2⟩) fun e=>e▸⟨Int.add_nonneg hx.1 n1,zbN hx.2 n2⟩⟩)
noncomputable def bD:Nat→List Nat
 |0=>[]
 |1=>[32]
 |2=>[9]
 |_=>[32,9]
noncomputable def zU(l:List Nat)(c:Int):List Nat:=l.take ((c.fdiv 192).fmod 6).toNat++bD ((c.fdiv 48).fmod 4).toNat
theorem bF(k:Nat):(bD k).length≤2:=by
 rcases k with _|_|_|k
 ·exact zero_le _
 ·exact le_succ _
 ·exact le_succ _
 ·exact le_refl _
theorem qm(l:List Nat)(c:Int):(zU l c).length≤7:=by
 have q:((c.fdiv 192).fmod 6).toNat≤5:=Int.toNat_le.mpr (Int.le_of_lt_add_one (ki _ (by decide)));unfold zU;rw [length_append,List.length_take];exact add_le_add (le_trans (min_le_left ..) q) (bF _)
theorem zfN(k:Nat)(h:k<4):zY (D.list [(D.str ""),(D.str " "),(D.str "\t"),(D.str " \t")]) (.int k)=some (dN (bD k)):=match k,h with
 |0,_=>by kernel_rfl
 |1,_=>by kernel_rfl
 |2,_=>by kernel_rfl
 |3,_=>by kernel_rfl
 |k+4,h=>absurd h (not_lt.mpr (le_add_left ..))
theorem xH(n k:Nat):clipAt n (k:Int)=min k n:=by
 unfold clipAt;rw [if_neg (Int.not_lt.mpr (natCast_nonneg k))];rcases le_total k n with h|h
 ·rw [min_eq_left h,Int.min_eq_left (ofNat_le.mpr h)];exact congrArg toNat (Int.max_eq_right (natCast_nonneg k))
 ·rw [Nat.min_eq_right h,Int.min_eq_right (ofNat_le.mpr h)];exact congrArg toNat (Int.max_eq_right (natCast_nonneg n))
theorem zjh{α:Type}(l:List α)(k:Nat):l.take (min k l.length)=l.take k:=List.take_eq_take_iff.mpr ((Nat.min_assoc ..).trans (congrArg _ (min_self _)))
theorem zjm{α:Type}(l:List α)(k:Nat):cut l none (some (k:Int))=l.take k:=by
 show (l.drop 0).take (clipAt l.length k - 0)=_
 rw [xH];exact zjh l k
theorem zfR{l:List Nat}{k:Int}(h0:0≤k)(hl:l.length≤1000):jU (dN l) none (some k) none=some (dN (l.take k.toNat)):=by
 (refine X11 (Int.eq_ofNat_of_zero_le h0) fun m z3=>?_;subst z3)
 show (if (sN l).length≤zz then some (D.str ⟨(cut l none (some (m:Int))).toArray⟩) else none)=_
 rw [if_pos (by rw [ko];exact cpN hl),zjm];rfl
theorem zwt{a b:List Nat}(h:a.length+b.length≤1000):yQ .Add (dN a) (dN b)=some (dN (a++b)):=by
 exact (if_pos (by rw [ko,ko];exact cpN h)).trans (congrArg (fun z=>some (D.str z)) (zfM ..))
theorem jZ{k:Int}(h:za k):kJ (.int k)=some (some k):=if_pos h.cap
theorem zy8{s:Sg}{ls:List (List Nat)}{l:List Nat}{c:Int}(h:s "leads"=some (.list ((ls++[l]).map dN)))(hc:0≤c∧c≤400000)(hl:l.length≤10)(hls:ls.length≤10):
  RS w7 (upd s "cell" (.int c)) (upd (upd s "cell" (.int c)) "leads" (.list ((ls++[l]++[zU l c]).map dN))) .next:=
 have sc:za c:=⟨Int.lt_of_lt_of_le (by decide) hc.1,Int.lt_of_le_of_lt hc.2 (by decide)⟩
 have q1:=kI (c.fdiv 192) (n:=6) (by decide);have q2:=ki (c.fdiv 192) (n:=6) (by decide);have p1:=kI (c.fdiv 48) (n:=4) (by decide);have e1:((((c.fdiv 48).fmod 4).toNat:Nat):Int)=(c.fdiv 48).fmod 4:=toNat_of_nonneg p1
 have st:RS w7 (upd s "cell" (.int c)) (upd (upd s "cell" (.int c)) "leads" (.list ((ls++[l]).map dN++[dN (zU l c)]))) .next:=
  .L h (.O (.Z (.I (.V h) .C (by rw [map_append];exact wJ)) .N (.E (.m (.q (.V rfl) sc ⟨by decide,by decide⟩)) (jZ ⟨Int.lt_of_lt_of_le (by decide) q1,lt_trans q2 (by decide)⟩)) .N (zfR q1 (le_trans hl (by decide))))
   (.I (.L (.C .C (.C .C (.C .C (.C .C .N))))) (.m (.q (.V rfl) sc ⟨by decide,by decide⟩)) (e1▸zfN _ ((toNat_lt p1).mpr (ki _ (by decide))))) (zwt (le_trans (add_le_add (le_trans (List.length_take_le ..) (Int.toNat_le.mpr (Int.le_of_lt q2))) (bF _)) (by decide))))
   (cpM (m:=11) (by rw [length_append];exact succ_le_succ hls))
 rwR (P:=fun z=>RS w7 _ (upd _ "leads" (.list z)) .next) (map_append (l₂:=[zU l c])) st
end
section
noncomputable def qC:List (List Nat):=[[40],[41],[91],[93],[58],[44],[59],[43],[45],[42],[47],[124],[38],[60],[62],[61],[46],[37],[123],[125],[61,61],[33,61],[60,61],[62,61],[126],[94],[60,60],[62,62],[42,42],[43,61],[45,61],[42,61],[47,61],[37,61],[38,61],[124,61],[94,61],[60,60,61],[62,62,61],[42,42,61],[47,47],[47,47,61],[64],[64,61],[45,62],[46,46,46],[58,61],[33]]
noncomputable def zwl:Str:="( ) [ ] : , ; + - * / | & < > = . % { } == != <= >= ~ ^ << >> ** += -= *= /= %= &= |= ^= <<= >>= **= // //= @ @= -> ... := !"
theorem bH{β:Type}{C:Cx}{x:Str}{d:D}{k:D→Option β}:yC C "split" false (.str x) [d] k=(jP "split" (.str x) [d]).bind k:=by kernel_rfl
theorem zy9{β:Type}{C:Cx}{x:Str}{d:D}{k:D→Option β}:yC C "join" false (.str x) [d] k=(jP "join" (.str x) [d]).bind k:=by kernel_rfl
theorem zyQ:Str.join (sN [32]) (qC.map sN)=zwl:=ext' (Array.toList_inj.mp ((xF 32 _).trans (by kernel_rfl)))
theorem zbR:jP "split" (.str zwl) [.str " "]=some (.list (qC.map dN)):=by
 have e:Txt.split zwl (sN [32])=qC.map sN:=by
  rw [←zyQ];exact vH 32 (by decide+kernel) (by decide+kernel)
 have sp:(" ":Str)=sN [32]:=by decide+kernel
 rw [sp,zpu e (by decide+kernel) (by decide+kernel) (by decide+kernel) (by decide+kernel),map_map];rfl
noncomputable def pj(c:Int):List Nat:=qC.getD (c.fmod 48).toNat []
noncomputable def qy(l:List Nat)(c:Int):List Nat:=l++pj c++[32,9,120]
theorem zwc:qC.length=48:=by decide+kernel
theorem zzu:∀ w∈qC,w.length≤3:=by decide+kernel
theorem wB(c:Int):qC[(c.fmod 48).toNat]? =some (pj c):=by
 have q:(c.fmod 48).toNat<qC.length:=zwc▸(toNat_lt (kI c (by decide))).mpr (ki c (by decide));unfold pj;rw [getD_eq_getElem?_getD,getElem?_eq_getElem q];rfl
theorem wD(c:Int):(pj c).length≤3:=zzu _ (mem_of_getElem? (wB c))
theorem je{l:List Nat}(h:l.length≤7)(c:Int):(qy l c).length≤13:=by
 unfold qy;rw [length_append,length_append];exact add_le_add (add_le_add h (wD c)) (le_refl 3)
theorem zmE:(" \tx":Str)=sN [32,9,120]:=by decide+kernel
theorem zfS{l:List Nat}(hl:l.length≤7){c:Int}{s:Sg}(hs:s "words"=some (.list (qC.map dN)))(h1:s "lead"=some (dN l))(h2:s "cell"=some (.int c)):
  Rn (oE .Add (oE .Add (vE "lead") (jE (vE "words") (oE .Mod (vE "cell") (nE 48)))) (sE " \tx")) s (dN (qy l c)):=
 have la:(l++pj c).length≤10:=length_append▸add_le_add hl (wD c)
 .O (.O (.V h1) (.I (.V hs) (.m (.V h2)) (ja (kI c (by decide)) (lt_trans (ki c (by decide)) (by decide)) (wB c))) (zwt (le_trans (add_le_add hl (wD c)) (by decide)))) .C ((congrArg (fun z=>yQ .Add (dN (l++pj c)) (.str z)) zmE).trans (zwt (b:=[32,9,120]) (le_trans (add_le_add_right la 3) (by decide))))
noncomputable def jW(c0 c1 c2 c3:Int):List (List Nat):=[zU [] c0,zU (zU [] c0) c1,zU (zU (zU [] c0) c1) c2,zU (zU (zU (zU [] c0) c1) c2) c3]
noncomputable def wF(c0 c1 c2 c3:Int):List (List Nat):=[qy (zU [] c0) c0,qy (zU (zU [] c0) c1) c1,qy (zU (zU (zU [] c0) c1) c2) c2,qy (zU (zU (zU (zU [] c0) c1) c2) c3) c3]
noncomputable def zwo(c0 c1 c2 c3:Int):Str:=Str.join (sN [10]) ((wF c0 c1 c2 c3).map sN)
theorem zbS{α β:Type}(f:α→β)(l:List α)(lo hi:Option Int):cut (l.map f) lo hi=(cut l lo hi).map f:=by
 unfold cut;rw [length_map,List.map_take,map_drop]
theorem zbT{α:Type}(l:List α)(k:Int)(h0:0≤k):(cut l none (some k)).length≤k.toNat:=by
 (refine X11 (Int.eq_ofNat_of_zero_le h0) fun m z5=>?_;subst z5)
 rw [zjm,List.length_take];exact min_le_left ..
noncomputable def znP:List Nat→List Int→List (List Nat)
 |_,[]=>[]
 |l,c::cs=>zU l c::znP (zU l c) cs
theorem zmI:kJ (.int 1)=some (some 1):=jZ ⟨by decide,by decide⟩
theorem zwa{c0 c1 c2 c3:Int}(q:List Nat)(m:q∈wF c0 c1 c2 c3):q.length≤13:=by
 rcases mem_cons.mp m with rfl|m
 ·exact je (qm ..) _
 ·rcases mem_cons.mp m with rfl|m
  ·exact je (qm ..) _
  ·rcases mem_cons.mp m with rfl|m
   ·exact je (qm ..) _
   ·exact mem_singleton.mp m▸je (qm ..) _
theorem zfT:("\n":Str)=sN [10]:=by decide+kernel
theorem zwe{s:Sg}{c0 c1 c2 c3 c4 c5:Int}(h1:s "cells"=some (iL [c0,c1,c2,c3,c4,c5]))(h2:s "leads"=some (.list (([]::jW c0 c1 c2 c3).map dN)))(h3:s "words"=some (.list (qC.map dN))):
  RS rp4 s s (.ret (.tup [iL [c0,c1,c2,c3,c4,c5],.list ((jW c0 c1 c2 c3).map dN),.str (zwo c0 c1 c2 c3)])):=
 have hj:JoinOk (sN [10]) ((wF c0 c1 c2 c3).map sN)=true:=by
  have:=PySem.StrLaws.joinFits (sep:=sN [10]) (texts:=(wF c0 c1 c2 c3).map sN) (B:=13) (fun y hy=>X12 (mem_map.mp hy) fun q hq e=>e▸(ko q).symm▸zwa q hq) (by rw [ko];exact le_of_ble_eq_true rfl);unfold JoinOk;rw [this];rfl
 have ld:Rn (zE (vE "leads") (eP (nE 1)) nP nP) s (.list ((jW c0 c1 c2 c3).map dN)):=.Z (.V h2) (.E .C zmI) .N .N rfl
 have len (p:List Nat × Int) (m:p∈(jW c0 c1 c2 c3).zip [c0,c1,c2,c3]):p.1.length≤7:=by
  rcases mem_cons.mp (of_mem_zip m).1 with e|m
  ·exact e▸qm ..
  ·rcases mem_cons.mp m with e|m
   ·exact e▸qm ..
   ·rcases mem_cons.mp m with e|m
    ·exact e▸qm ..
    ·exact mem_singleton.mp m▸qm ..
 .R (.T (.C (.V h1) (.C ld (.C (.H .C (.C (.lc (l:=(wF c0 c1 c2 c3).map dN) (.FM (n:=(jW c0 c1 c2 c3).zip [c0,c1,c2,c3]) (emb:=fun p:List Nat × Int=>.tup [dN p.1,.int p.2]) (g:=fun p=>dN (qy p.1 p.2)) (.Z ld (.V h1)) (fun x x x=>rfl) fun p m=>zfS (len p m) h3 rfl rfl) (le_of_ble_eq_true rfl)) .N)
  ((zy9 (k:=some)).trans ((congrArg (fun z:Str=>(jP "join" (D.str z) [D.list ((wF c0 c1 c2 c3).map dN)]).bind some) zfT).trans (bK (g:=D.str (zwo c0 c1 c2 c3)) (zmA hj))))) .N))))
structure znq(c:List Int)(ls:List (List Nat))(s:Sg):Prop where
 h1:s "cells"=some (iL c)
 h2:s "leads"=some (.list (ls.map dN))
theorem xq{M:List Int→Prop}{n:Nat}{l:List Int}(h:l.length=n+1)(k:∀ a t,t.length=n→M (a::t)):M l:=match l,h with
 |a::t,h=>k a t (Nat.succ.inj h)
theorem six{M:List Int→Prop}{l:List Int}(h:l.length=6)(k:∀ a b c d e f,M [a,b,c,d,e,f]):M l:=
 xq h fun a y h=>xq (M:=fun z=>M (a::z)) h fun b y h=>xq (M:=fun z=>M (a::b::z)) h fun c y h=>xq (M:=fun z=>M (a::b::c::z)) h fun d y h=>xq (M:=fun z=>M (a::b::c::d::z)) h fun e y h=>
 xq (M:=fun z=>M (a::b::c::d::e::z)) h fun f y h=>(List.eq_nil_of_length_eq_zero h).symm▸k a b c d e f
theorem zfL{ns:List Int}(hl:ns.length≤63):∃ c0 c1 c2 c3 c4 c5:Int,(∀ c∈[c0,c1,c2,c3,c4,c5],0≤c∧c≤400000)∧
  fnC x13 172 ["script"] ["cells","leads"] [iL ns]=some (.tup [iL [c0,c1,c2,c3,c4,c5],.list ((jW c0 c1 c2 c3).map dN),.str (zwo c0 c1 c2 c3)]):=
 have hm:(cut ns none (some 60)).length≤60:=zbT ns 60 (by decide);have s60:jU (iL ns) none (some 60) none=some (iL (cut ns none (some 60))):=(if_pos (cpM hl)).trans (congrArg (fun l=>some (D.list l)) (zbS ..))
 have en (m:List Int):yJ (m.map D.int)=(m.zipIdx).map fun p=>D.tup [.int p.2,.int p.1]:=by
  unfold yJ;rw [zipIdx_map,map_map];rfl
 RS.loop (α:=Int × Nat) (emb:=fun p=>D.tup [.int p.2,.int p.1]) (bd:=fun p s=>upd (upd s "spot" (.int p.2)) "number" (.int p.1)) (b:=zqT) (t:=zgM "spot" "number") (i:=eI (cL (zE (vE "script") nP (eP (nE 60)) nP) nL)) (l:=(cut ns none (some 60)).zipIdx)
  (Inv:=fun r s=>∃ cs,znq cs [[]] s∧zuC (5040 *r.length) cs) (s:=upd (upd (par ["script"] [iL ns]) "cells" (iL [28,81,317,46,39,176])) "leads" (.list [.str ""]))
  (en _▸ .E (.Z (.V rfl) .N (.E .C (jZ ⟨by decide,by decide⟩)) .N s60)) (fun z z=>rfl) (fun a r s i=>X12 i fun cs A C=>
   zy7 (n:=a.1) (b:=5040 *r.length) A.h1 ((show 5040 *((a::r).length:Int)=5040 *r.length+5040 by rw [length_cons,Int.natCast_add,mul_add];rfl)▸C) fun cs' C'=>⟨rfl,cs',⟨rfl,A.h2⟩,C'⟩)
  ⟨[28,81,317,46,39,176],⟨rfl,rfl⟩,rfl,fun x hx=>by
   have h1:∀ x∈([28,81,317,46,39,176]:List Int),0≤x∧x≤400:=by decide
   have h2:=h1 x hx;rw [length_zipIdx];omega⟩ fun s' j1 j2=>X12 j2 fun cs A C=>
 six (M:=fun cs=>zuC _ cs→znq cs [[]] s'→_) C.len (fun c0 c1 c2 c3 c4 c5 C A=>
  have B (c:Int) (m:c∈[c0,c1,c2,c3,c4,c5]):0≤c∧c≤400000:=⟨(C.le c m).1,(add_zero c).symm▸(C.le c m).2⟩
  RS.loop (emb:=D.int) (bd:=fun c s=>upd s "cell" (.int c)) (b:=w7) (t:=.Name "cell" default) (i:=xI (zE (vE "cells") nP (eP (nE 4)) nP)) (l:=[c0,c1,c2,c3])
   (Inv:=fun r s=>(∀ c∈r,0≤c∧c≤400000)∧∃ ls l,znq [c0,c1,c2,c3,c4,c5] (ls++[l]) s∧s "words"=some (.list (qC.map dN))∧(ls++[l])++znP l r=[]::jW c0 c1 c2 c3∧l.length≤10∧ls.length+r.length≤10) (s:=upd s' "words" (.list (qC.map dN)))
   (.X (.Z (.V A.h1) .N (.E .C (jZ ⟨by decide,by decide⟩)) .N rfl) rfl) (fun z z=>rfl) (fun c r s i=>X02 i fun ic i=>X25 i fun ls l A w e hl hn=>
    .mk (zy8 A.h2 (ic c (mem_cons_self ..)) hl (le_of_add_right_le hn)) ⟨rfl,fun d m=>ic d (mem_cons_of_mem _ m),ls++[l],zU l c,⟨A.h1,rfl⟩,w,(append_assoc ..).trans e,le_trans (qm ..) (by decide),by rw [length_append,add_right_comm];exact hn⟩)
   ⟨fun c m=>B c (mem_append_left [c4,c5] m),[],[],⟨A.h1,A.h2⟩,rfl,rfl,zero_le _,le_of_ble_eq_true rfl⟩ fun s2 k1 k2=>X25 k2.2 fun ls l A w e z z=>
  ⟨c0,c1,c2,c3,c4,c5,B,zfQ (.Q (.Ds (.C (.L (.C .C (.C .C (.C .C (.C .C (.C .C (.C .C .N))))))) (.C (.L (.C .C .N)) .N))) (.Q j1 (.Q (.A (.H .C (.C .C .N) ((bH (k:=some)).trans (bK zbR)))) (.Q k1 (zwe A.h1 ((append_nil (ls++[l])).symm.trans e▸A.h2) w)))))⟩) C A
end
section
structure WS where
 n:Nat
 b:Nat
 nt:Nat
 count:List Nat
noncomputable def zvr(count:List Nat)(b:Nat):List Nat:=if b<count.length then count else count++replicate (b - count.length+1) 0
noncomputable def k4(s:WS)(c:Nat):WS:=if c=32 then ⟨s.n+1,s.b+1,s.nt,s.count⟩ else ⟨s.n+1,0,s.nt+1,(zvr s.count s.b).set s.b ((zvr s.count s.b).getD s.b 0+1)⟩
noncomputable def wsT(l:List Nat):WS:=l.foldl k4 ⟨0,0,0,[]⟩
noncomputable def nD(k:Nat):D:=.int k
noncomputable def cD(count:List Nat):D:=.list (count.map nD)
noncomputable def wsD(line:List Nat)(s:WS):D:=.obj 139 [("raw",dN line),("n",nD s.n),("nt",nD s.nt),("norm",.tup [.tup (s.count.map nD),nD s.b]),("is_simple",.bool (decide (s.count.length≤1)))]
theorem zwi{c:List Nat}(h:c.length≤1000):gx (cD c)=some (nD c.length):=(gN (cpM h)).trans (by rw [length_map];rfl)
theorem qO(a:Nat):yQ .Add (nD a) (.int 1)=some (nD (a+1)):=id rfl
theorem zjn(count:List Nat)(b:Nat):b<(zvr count b).length∧(zvr count b).length≤count.length+b+1:=by
 unfold zvr;split
 ·lia
 ·simp;lia
theorem zzg{p:List Nat}{b:Nat}(h:b<p.length)(hl:p.length≤1000):zY (cD p) (nD b)=some (nD (p.getD b 0)):=by
 refine ja (natCast_nonneg _) (ofNat_lt.mpr (lt_of_lt_of_le h (le_trans hl (by decide)))) ?_;rw [toNat_natCast,getD_eq_getElem?_getD,getElem?_eq_getElem h];rfl
theorem zfC{p:List Nat}{b v:Nat}(h:b<p.length)(hl:p.length≤1000):zzK (cD p) (nD b) (nD v)=some (cD (p.set b v)):=
 (if_pos ⟨natCast_nonneg _,by rw [length_map];exact ofNat_lt.mpr h,cpM hl⟩).trans (congrArg (fun l=>some (D.list l)) map_set.symm)
theorem zw0(k:Nat)(h:k≤1000):yQ .Mult (D.list [(D.int 0)]) (nD k)=some (cD (replicate k 0)):=by
 refine (zzA ⟨by rw [length_singleton,Nat.one_mul];exact cpN h,za.cap ⟨Int.lt_of_lt_of_le (by decide) (natCast_nonneg k),ofNat_lt.mpr (lt_of_le_of_lt h (by decide))⟩⟩).trans (congrArg (fun l=>some (D.list l)) ?_);rw [toNat_natCast,map_replicate];clear h
 induction k with
 |zero=>rfl
 |succ k ih=>rw [replicate_succ,replicate_succ,flatten_cons,ih];rfl
theorem zfO{a b:List Nat}(h:a.length+b.length≤1000):yQ .Add (cD a) (cD b)=some (cD (a++b)):=
 (xG (by rw [length_map,length_map];exact cpN h)).trans (congrArg (fun l=>some (D.list l)) map_append.symm)
structure AtW(σ:Sg)(s:WS)(d:D):Prop where
 S:σ "S"=some (dN [32])
 T:σ "T"=some (dN [9])
 n:σ "n"=some (nD s.n)
 b:σ "b"=some (nD s.b)
 nt:σ "nt"=some (nD s.nt)
 count:σ "count"=some (cD s.count)
 self:σ "self"=some d
theorem zfA(a b:Nat):xJ .Eq (dN [a]) (dN [b])=some (decide (a=b)):=by
 show some (decide (sN [a]=sN [b]))=_
 have:(sN [a]=sN [b])↔a=b:=by simp
 simp only [this]
theorem bM{σ:Sg}{x y:Str}{a b:Nat}{t:Bool}(h:σ x=some (dN [a]))(h2:σ y=some (dN [b]))(e:decide (a=b)=t):RT (qT .Eq (vE x) (vE y)) σ t:=.Q (.V h) (.V h2) ((zfA a b).trans (congrArg some e))
theorem To.It{t:Ts}{a b:Sm}{s:Sg}{Q:Sg→Fl→Prop}(h:RT t s true)(h1:To a s Q):To (iS t a b) s Q:=h1.on fun z z r q=>.mk (.It h r) q
theorem To.If{t:Ts}{a b:Sm}{s:Sg}{Q:Sg→Fl→Prop}(h:RT t s false)(h1:To b s Q):To (iS t a b) s Q:=h1.on fun z z r q=>.mk (.If h r) q
def zpg(c:Nat):Prop:=c=32∨c=9
theorem zbL{σ:Sg}{s:WS}{d:D}(h:AtW σ s d){c:Nat}(hc:zpg c)(hl:s.b+s.count.length≤900){Q:Sg→Fl→Prop}(q:∀ σ,AtW σ (k4 s c) d→Q σ .next):
  To yh (upd σ "ch" (dN [c])) Q:=hc.elim (fun e=>by
  subst e;exact .mk (.It (bM rfl h.S rfl) (.Q (.A (.O (.V h.n) .C (qO _))) (.A (.O (.V h.b) .C (qO _))))) (q _ ⟨h.S,h.T,rfl,rfl,h.nt,h.count,h.self⟩)) fun e=>by
  subst e;refine X02 (zjn s.count s.b) fun p1 p2=>?_;have pl:(zvr s.count s.b).length≤1000:=by lia
  have hb:s.b≤900:=le_of_add_right_le hl;have cl:s.count.length≤1000:=le_trans (le_add_left ..) (le_trans hl (by decide))
  have pad {σ:Sg} {n nt:Nat} (h:AtW σ ⟨n,s.b,nt,s.count⟩ d):To (iS (qT .GtE (vE "b") (wE gx "count")) (oS zx3 "count" (oE .Add (vE "count") (oE .Mult (lE (cL (nE 0) nL)) (oE .Add (oE .Sub (vE "b") (wE gx "count")) (nE 1))))) pS) σ fun σ' f=>f= .next∧AtW σ' ⟨n,s.b,nt,zvr s.count s.b⟩ d:=
   .I (p:=decide ((s.b:Int)≥(s.count.length:Int))) (.Q (.V h.b) (.W h.count (zwi cl)) rfl) (fun t=>
    have t:s.count.length≤s.b:=ofNat_le.mp (of_decide_eq_true t);have e2:zvr s.count s.b=s.count++replicate (s.b - s.count.length+1) 0:=if_neg (not_lt.mpr t);have k1:s.b - s.count.length+1≤901:=succ_le_succ (le_trans (sub_le ..) hb)
    .mk (.O (.O (.V h.count) (.O (.L (.C .C .N)) (.O (.O (.V h.b) (.W h.count (zwi cl)) (d:=nD s.count.length) (r:=nD (s.b - s.count.length)) (congrArg (fun z=>some (D.int z)) (Int.natCast_sub t).symm)) .C (qO _)) (zw0 _ (le_trans k1 (by decide)))) (zfO (by rw [List.length_replicate];lia))) ⟨rfl,rfl,rfl,by decide+kernel⟩)
     ⟨rfl,h.S,h.T,h.n,h.b,h.nt,congrArg (fun l=>some (cD l)) e2.symm,h.self⟩) fun t=>
    have e2:zvr s.count s.b=s.count:=if_pos (Nat.lt_of_not_le fun q=>of_decide_eq_false t (ofNat_le.mpr q))
    .mk .P ⟨rfl,h.S,h.T,h.n,h.b,h.nt,h.count.trans (congrArg (fun l=>some (cD l)) e2.symm),h.self⟩
  have A1:AtW (upd (upd (upd σ "ch" (dN [9])) "n" (nD (s.n+1))) "nt" (nD (s.nt+1))) ⟨s.n+1,s.b,s.nt+1,s.count⟩ d:=⟨h.S,h.T,rfl,h.b,rfl,h.count,h.self⟩
  exact .If (bM rfl h.S rfl) (.It (bM rfl h.T rfl) (.S (.A (.O (.V h.n) .C (qO _))) (.S (.A (.O (.V h.nt) .C (qO _))) (.SS (pad A1) fun σ' A=>.mk (.Q (.X (.O (.I (.V A.count) (.V A.b) (zzg p1 pl)) .C (qO _)) (.V A.b) A.count (zfC p1 pl)) (.A .C)) (q _ ⟨A.S,A.T,A.n,rfl,A.nt,rfl,A.self⟩)))))
end
section
theorem zuO{s:WS}{c m:Nat}(h:s.b+s.count.length+(m+1)≤900):(k4 s c).b+(k4 s c).count.length+m≤900:=by
 unfold k4
 split
 ·show s.b+1+s.count.length+m≤900
  lia
 ·have:=(zjn s.count s.b).2
  show 0+((zvr s.count s.b).set s.b _).length+m≤900
  rw [length_set];lia
theorem f_n:x5.fld 139 "n"=true:=by kernel_rfl
theorem zrw:x5.fld 139 "nt"=true:=by kernel_rfl
theorem zfE:x5.fld 139 "norm"=true:=by kernel_rfl
theorem zuA:x5.fld 139 "is_simple"=true:=by kernel_rfl
theorem zfI:x5.fld 139 "raw"=true:=by kernel_rfl
theorem zhq(k:Nat):xJ .LtE (nD k) (.int 1)=some (decide (k≤1)):=congrArg some (decide_eq_decide.mpr ofNat_le)
theorem zhz{l:List Nat}(h:l.length≤1000):xC (cD l)=some (.tup (l.map nD)):=if_pos (cpM h)
def WsQ(line l:List Nat)(σ:Sg)(f:Fl):Prop:=f= .next∧AtW σ (wsT l) (.obj 139 [("raw",dN line)])∧(wsT l).count.length≤900
def WsI(line l t:List Nat)(c:Nat)(r:List Nat)(σ:Sg):Prop:=∃ l' s,r=l'++c::t∧(∀ x∈l',zpg x)∧AtW σ s (.obj 139 [("raw",dN line)])∧l'.foldl k4 s=wsT l∧s.b+s.count.length+l'.length≤900
theorem zbC{line l t:List Nat}{c:Nat}(h1:c≠32)(h2:c≠9)(a:Nat)(r:List Nat)(σ:Sg)(i:WsI line l t c (a::r) σ):To yh (upd σ "ch" (dN [a])) (Tn (WsI line l t c r) (WsQ line l)):=
 X25 i fun l' s e hw A hf hb=>match l',e,hw,hf,hb with
 |[],e,_,hf,hb=>by
  obtain ⟨rfl,rfl⟩:=List.cons.inj e;exact .mk (.If (bM rfl A.S (decide_eq_false h1)) (.If (bM rfl A.T (decide_eq_false h2)) .K)) ⟨rfl,hf▸⟨A.S,A.T,A.n,A.b,A.nt,A.count,A.self⟩,hf▸le_trans (le_add_left ..) hb⟩
 |y::l',e,hw,hf,hb=>by
  obtain ⟨rfl,rfl⟩:=List.cons.inj e;exact zbL A (hw a (mem_cons_self ..)) (le_of_add_right_le hb) fun σ A=>⟨l',_,rfl,fun x m=>hw x (mem_cons_of_mem _ m),A,hf,zuO hb⟩
theorem zpp{l:List Nat}(h:∀ x∈l,x<128):jB (dN l)=some (l.map fun x=>dN [x]):=by
 refine (if_pos ?_).trans ?_
 ·exact List.all_toArray.trans (all_eq_true.mpr fun x m=>decide_eq_true (h x m))
 ·rfl
theorem zw1{l t:List Nat}{c:Nat}(hl:∀ x∈l,zpg x)(hll:l.length≤800)(h1:c≠32)(h2:c≠9)(ha:∀ x∈l++c::t,x<128):clC x5 94 ["ws"] ["self","count"] 139 [dN (l++c::t)]=some (wsD (l++c::t) (wsT l)):=
 (To.loop (emb:=fun x=>dN [x]) (bd:=fun x s=>upd s "ch" (dN [x])) (b:=yh) (t:=.Name "ch" default) (i:=xI (aE x5 "raw" (vE "self"))) (l:=l++c::t) (Inv:=WsI (l++c::t) l t c) (Q:=WsQ (l++c::t) l)
  (s:=upd (upd (upd (upd (upd (upd (upd (par ["self","ws"] [.obj 139 [],dN (l++c::t)]) "self" (.obj 139 [("raw",dN (l++c::t))])) "S" (dN [32])) "T" (dN [9])) "count" (.list [])) "b" (.int 0)) "n" (.int 0)) "nt" (.int 0))
  (.X (.A (.V rfl) zfI rfl) (zpp ha)) (fun z z=>rfl) (zbC h1 h2) (fun σ i=>X25 i fun l' z e z z z z=>absurd e (by cases l'<;>exact fun e=>nomatch e))
  ⟨l,⟨0,0,0,[]⟩,rfl,hl,⟨rfl,rfl,rfl,rfl,rfl,rfl,rfl⟩,rfl,le_trans (add_le_add_left hll 0) (by decide)⟩).on fun s' f j1 j2=>X03 j2 fun e A hc=>
 have hc:(wsT l).count.length≤1000:=le_trans hc (by decide)
 zx7 (c:=139) (.Q (.S (.V rfl) rfl ⟨zfI,zero_le _⟩) (.Q (.Ds (.C (.K (by kernel_rfl)) (.C (.K (by kernel_rfl)) .N))) (.Q (.A (.L .N)) (.Q (.A3 .C) (.Q (e▸j1)
  (.Q (.S (.V A.n) A.self ⟨f_n,le_of_ble_eq_true rfl⟩) (.Q (.S (.V A.nt) rfl ⟨zrw,le_of_ble_eq_true (by kernel_rfl)⟩) (.Q (.S (.T (.C (.W A.count (zhz hc)) (.C (.V A.b) .N))) rfl ⟨zfE,le_of_ble_eq_true (by kernel_rfl)⟩) (.S (.Q (.Q (.W A.count (zwi hc)) .C (zhq _))) rfl ⟨zuA,le_of_ble_eq_true (by kernel_rfl)⟩))))))))) (by kernel_rfl)
end
section
noncomputable def qP(s:WS):Nat:=if s.b>s.count.length - 1 then s.b else s.count.length - 1
noncomputable def zw2(s:WS)(ts:Nat)(il i:Nat):Nat:=il+(ts+i) / ts *s.count.getD (ts+i) 0
noncomputable def zvs(s:WS)(ts:Nat):Nat:=s.b+ts *((List.range (s.count.length - ts)).foldl (zw2 s ts) 0+s.nt)
noncomputable def bN(a o:WS):Bool:=
 if o.n≤a.n then false else
 if decide (a.count.length≤1)&&decide (o.count.length≤1) then decide (a.nt≤o.nt) else
 (List.range ((if qP o>qP a then qP o else qP a)+1+1 - 2)).all fun j=>decide (zvs a (2+j)<zvs o (2+j))
noncomputable def zhj(line:List Nat)(s:WS):List (Str × D):=[("raw",dN line),("n",nD s.n),("nt",nD s.nt),("norm",.tup [.tup (s.count.map nD),nD s.b]),("is_simple",.bool (decide (s.count.length≤1)))]
theorem Rn.ws{C:Cx}{e:Ex}{σ:Sg}{x:Str}{d:D}{line:List Nat}{s:WS}(h:Rn e σ (wsD line s))(h1:C.fld 139 x=true)(hd:(zhj line s).lookup x=some d):Rn (aE C x e) σ d:=.A (fs:=zhj line s) h h1 hd
structure zyH(s:WS):Prop where
 c:s.count.length≤300
 b:s.b≤300
theorem zw3{k:Nat}(h:k≤100000):zK (k:Int)=true:=za.cap ⟨Int.lt_of_lt_of_le (by decide) (natCast_nonneg k),ofNat_lt.mpr (lt_of_le_of_lt h (by decide))⟩
theorem k5{k:Nat}(h:k≤100000):zO (k:Int)=true:=jL (natCast_nonneg k) (Int.le_trans (ofNat_le.mpr h) (by decide))
theorem vM(a b:Nat):yQ .Add (nD a) (nD b)=some (nD (a+b)):=id rfl
theorem zpb{a:Nat}(b:Nat)(h:a≤100000):yQ .Mult (nD a) (nD b)=some (nD (a *b)):=gH (zw3 h)
theorem zhy{a b:Nat}(h:a≤100000)(hb:b≤100000)(h0:b≠0):yQ .FloorDiv (nD a) (nD b)=some (nD (a / b)):=
 (if_pos ⟨fun e=>h0 (ofNat.inj e),zw3 h,zw3 hb⟩).trans (congrArg (fun z=>some (D.int z)) (Int.fdiv_eq_ediv_of_nonneg _ (natCast_nonneg b)))
theorem pk(a b:Nat):jl (a:Int) (b:Int)=(List.range (b - a)).map fun i=>nD (a+i):=by
 unfold jl;rw [Int.toNat_sub];rfl
theorem zjr{c:List Nat}(h:c.length≤1000):gx (.tup (c.map nD))=some (nD c.length):=(if_pos (cpM h)).trans (by rw [length_map];rfl)
theorem zw4{p:List Nat}{b:Nat}(h:b<p.length)(hl:p.length≤1000):zY (.tup (p.map nD)) (nD b)=some (nD (p.getD b 0)):=zzg h hl
theorem zw5(b n:Nat):(if (b:Int)>(n:Int) then (b:Int) else n)=((if b>n then b else n:Nat):Int):=by
 by_cases h:b>n
 ·rw [if_pos h,if_pos (ofNat_lt.mpr h)]
 ·rw [if_neg h,if_neg fun q=>h (ofNat_lt.mp q)]
theorem znz(b n:Nat):(if (b:Int)>(n:Int) - 1 then (b:Int) else (n:Int) - 1)=((if b>n - 1 then b else n - 1:Nat):Int):=match n with
 |n+1=>by rw [show ((n+1:Nat):Int) - 1=n from by rw [Int.natCast_add];exact Int.add_sub_cancel ..];exact zw5 b n
 |0=>match b with
  |0=>rfl
  |b+1=>if_pos (lt_trans (by decide) (ofNat_lt.mpr (succ_pos b)))
theorem zhk(d:D):x1.call "len" [d]=gx d:=by kernel_rfl
theorem zhx(a b:D):x1.call "max" [a,b]=zhD a b:=by kernel_rfl
theorem zw6{line:List Nat}{s:WS}(ok:zyH s):fnC x1 101 ["self"] [] [wsD line s]=some (nD (qP s)):=
 zx4 (.Q (.T2 (.ws (.V rfl) (by kernel_rfl) (by kernel_rfl))) (.R (.E (.C (.O (.E (.C (.V rfl) .N) ((zhk _).trans (zjr (le_trans ok.c (by decide))))) .C rfl) (.C (.V rfl) .N)) ((zhx _ (nD s.b)).trans (congrArg (fun z=>some (D.int z)) (znz s.b s.count.length))))))
theorem zhw(d:D):x2.call "len" [d]=gx d:=by kernel_rfl
structure zrv(line:List Nat)(s:WS)(ts:Nat)(r:List Nat)(σ:Sg):Prop where
 il:∃ il,σ "il"=some (nD il)∧r.foldl (zw2 s ts) il=(List.range (s.count.length - ts)).foldl (zw2 s ts) 0
 r:∀ i∈r,ts+i<s.count.length
 t:σ "tabsize"=some (nD ts)
 c:σ "count"=some (.tup (s.count.map nD))
 b:σ "trailing"=some (nD s.b)
 s:σ "self"=some (wsD line s)
theorem zuE{line:List Nat}{s:WS}{ts:Nat}(ok:zyH s)(ht:0<ts)(ht':ts≤1000):fnC x2 108 ["self","tabsize"] [] [wsD line s,nD ts]=some (nD (zvs s ts)):=
 have hc:s.count.length≤1000:=le_trans ok.c (by decide);have t5:ts≤100000:=le_trans ht' (by decide)
 RS.loop (α:=Nat) (emb:=fun i=>nD (ts+i)) (bd:=fun i s=>upd s "i" (nD (ts+i))) (b:=bl) (t:=.Name "i" default) (i:=rI (cL (vE "tabsize") (cL (CE x2 "len" (cL (vE "count") nL)) nL))) (l:=List.range (s.count.length - ts)) (Inv:=zrv line s ts)
  (s:=upd (upd (upd (par ["self","tabsize"] [wsD line s,nD ts]) "count" (.tup (s.count.map nD))) "trailing" (nD s.b)) "il" (.int 0))
  (pk ts s.count.length▸ .R2 (.C (.V rfl) (.C (.E (.C (.V rfl) .N) ((zhw _).trans (zjr hc))) .N)) ⟨k5 t5,k5 (le_trans hc (by decide))⟩) (fun z z=>rfl)
  (fun i r σ A=>X12 A.il fun il e1 e2=>
   have hi:=A.r i (mem_cons_self ..);have h5:ts+i≤100000:=le_trans (le_of_lt hi) (le_trans hc (by decide))
   .mk (.A (.O (.V e1) (.O (.O (.V rfl) (.V A.t) (zhy h5 t5 (ne_of_gt ht))) (.I (.V A.c) (.V rfl) (zw4 hi hc)) (zpb _ (le_trans (Nat.div_le_self _ _) h5))) (vM ..))) ⟨rfl,⟨_,rfl,e2⟩,fun i m=>A.r i (mem_cons_of_mem _ m),A.t,A.c,A.b,A.s⟩)
  ⟨⟨0,rfl,rfl⟩,fun i m=>add_comm .. ▸Nat.add_lt_of_lt_sub (mem_range.mp m),rfl,rfl,rfl,rfl⟩ fun σ j1 A=>X12 A.il fun il e1 e2=>
 have e2:il=_:=e2
 zu6 (.Q (.T2 (.ws (.V rfl) (by kernel_rfl) (by kernel_rfl))) (.Q (.A .C) (.Q j1 (.R (.O (.V A.b) (.O (.V A.t) (.O (.V (e2▸e1)) (.ws (.V A.s) (by kernel_rfl) (d:=nD s.nt) (by kernel_rfl)) (vM ..)) (zpb _ t5)) (vM ..))))))
end
section
theorem bR{line:List Nat}{s:WS}{ts:Nat}(ok:zyH s)(h0:0<ts)(h1:ts≤1000):yC x3 "indent_level" false (wsD line s) [nD ts] some=some (nD (zvs s ts)):=
 (show _=(fnC x2 108 ["self","tabsize"] [] [wsD line s,nD ts]).bind some by kernel_rfl).trans (bK (zuE ok h0 h1))
theorem bS{line:List Nat}{s:WS}(ok:zyH s):yC x3 "longest_run_of_spaces" false (wsD line s) [] some=some (nD (qP s)):=
 (show _=(fnC x1 101 ["self"] [] [wsD line s]).bind some by kernel_rfl).trans (bK (zw6 ok))
theorem g_n:x3.fld 139 "n"=true:=by kernel_rfl
theorem znB:x3.fld 139 "nt"=true:=by kernel_rfl
theorem zjs:x3.fld 139 "is_simple"=true:=by kernel_rfl
theorem zhv(a b:D):x3.call "max" [a,b]=zhD a b:=by kernel_rfl
theorem zbO(a b:Nat):xJ .GtE (nD a) (nD b)=some (decide (b≤a)):=congrArg some (decide_eq_decide.mpr ofNat_le)
theorem znj(a b:Nat):xJ .LtE (nD a) (nD b)=some (decide (a≤b)):=congrArg some (decide_eq_decide.mpr ofNat_le)
theorem zw7{s:WS}(h:zyH s):qP s≤300:=by
 unfold qP
 split
 ·exact h.b
 ·exact le_trans (sub_le ..) h.c
noncomputable def bL(a o:WS)(r:List Nat):Bool:=r.all fun j=>decide (zvs a (2+j)<zvs o (2+j))
theorem zhu{line line':List Nat}{a o:WS}(ha:zyH a)(ho:zyH o):fnC x3 129 ["self","other"] [] [wsD line a,wsD line' o]=some (.bool (bN a o)):=by
 unfold bN;by_cases h1:o.n≤a.n
 ·rw [if_pos h1];exact zzL (.Qr (.It (.Q (.ws (.V rfl) g_n (by kernel_rfl)) (.ws (.V rfl) g_n (by kernel_rfl)) ((zbO a.n o.n).trans (congrArg some (decide_eq_true h1)))) (.R .C)))
 rw [if_neg h1];have t1:RS (iS (qT .GtE (aE x3 "n" (vE "self")) (aE x3 "n" (vE "other"))) (rS (cE (.bool false))) pS) (par ["self","other"] [wsD line a,wsD line' o]) _ .next:=.If (.Q (.ws (.V rfl) g_n (by kernel_rfl)) (.ws (.V rfl) g_n (by kernel_rfl)) ((zbO a.n o.n).trans (congrArg some (decide_eq_false h1)))) .P
 have t2:RT (bT (cB true (eT (aE x3 "is_simple" (vE "self"))) (cB true (eT (aE x3 "is_simple" (vE "other"))) (nB true)))) (par ["self","other"] [wsD line a,wsD line' o]) (decide (a.count.length≤1)&&decide (o.count.length≤1)):=
  .B (.A (.E (.ws (.V rfl) zjs (by kernel_rfl))) fun y=>Bool.and_true (decide (o.count.length≤1))▸RB.A (.E (.ws (.V rfl) zjs (by kernel_rfl))) fun y=>.N)
 by_cases h2:(decide (a.count.length≤1)&&decide (o.count.length≤1))=true
 ·rw [if_pos h2];exact zzL (.Q t1 (.Qr (.It (h2▸t2) (.R (.Q (.Q (.ws (.V rfl) znB (by kernel_rfl)) (.ws (.V rfl) znB (by kernel_rfl)) (znj a.nt o.nt)))))))
 rw [if_neg h2]
 have hm:(if qP o>qP a then qP o else qP a)≤300:=by
  split
  ·exact zw7 ho
  ·exact zw7 ha
 have mx:Rn (CE x3 "max" (cL (ME x3 "longest_run_of_spaces" false (vE "self") nL) (cL (ME x3 "longest_run_of_spaces" false (vE "other") nL) nL))) (par ["self","other"] [wsD line a,wsD line' o]) (nD (if qP o>qP a then qP o else qP a)):=
  .E (.C (.H (.V rfl) .N (bS ha)) (.C (.H (.V rfl) .N (bS ho)) .N)) ((zhv (nD (qP a)) (nD (qP o))).trans (congrArg (fun z=>some (D.int z)) (zw5 (qP o) (qP a))))
 generalize (if qP o>qP a then qP o else qP a)=m at hm mx
 refine (To.loop (α:=Nat) (emb:=fun i=>nD (2+i)) (bd:=fun i s=>upd s "ts" (nD (2+i))) (b:=zx5) (t:=.Name "ts" default) (i:=rI (cL (nE 2) (cL (oE .Add (vE "n") (nE 1)) nL))) (l:=List.range (m+1+1 - 2))
  (Inv:=fun r σ=>(∀ i∈r,i≤302)∧bL a o (List.range (m+1+1 - 2))=bL a o r∧σ "self"=some (wsD line a)∧σ "other"=some (wsD line' o)) (Q:=fun y f=>match bL a o (List.range (m+1+1 - 2)) with
   |true=>f= .next
   |false=>f= .ret (.bool false)) (s:=upd (par ["self","other"] [wsD line a,wsD line' o]) "n" (nD (m+1)))
  (pk 2 (m+1+1)▸ .R2 (.C .C (.C (.O (.V rfl) .C (qO _)) .N)) ⟨rfl,k5 (le_trans (add_le_add_right hm 2) (by decide))⟩) (fun y y=>rfl) (fun i r σ x=>X04 x fun hr e e1 e2=>
   have hi:2+i≤1000:=le_trans (add_le_add_left (hr i (mem_cons_self ..)) 2) (by decide);have h0:0<2+i:=lt_of_lt_of_le (by decide) (le_add_right ..);have t {p:Bool} (q:decide (zvs o (2+i)≤zvs a (2+i))=p):RT (qT .GtE (ME x3 "indent_level" false (vE "self") (cL (vE "ts") nL)) (ME x3 "indent_level" false (vE "other") (cL (vE "ts") nL))) (upd σ "ts" (nD (2+i))) p:=.Q (.H (.V e1) (.C (.V rfl) .N) (bR ha h0 hi)) (.H (.V e2) (.C (.V rfl) .N) (bR ho h0 hi)) ((zbO ..).trans (congrArg some q))
   if q:zvs o (2+i)≤zvs a (2+i) then
    have e:bL a o (List.range (m+1+1 - 2))=false:=e.trans (congrArg (· &&bL a o r) (decide_eq_false (not_lt.mpr q)))
    .mk (.It (t (decide_eq_true q)) (.R .C)) (by rw [e];rfl)
   else .mk (.If (t (decide_eq_false q)) .P) ⟨fun j m=>hr j (mem_cons_of_mem _ m),e.trans (congrArg (· &&bL a o r) (decide_eq_true (not_le.mp q))),e1,e2⟩) (fun σ x=>by rw [x.2.1];rfl)
  ⟨fun i q=>le_trans (le_of_lt (mem_range.mp q)) (le_trans hm (by decide)),rfl,rfl,rfl⟩).on fun σ' f j1 j2=>?_
 show _=some (D.bool (bL a o (List.range (m+1+1 - 2))))
 cases e:bL a o (List.range (m+1+1 - 2)) with
 |true=>
  rw [e] at j2;exact zzL (.Q t1 (.Q (.If (eq_false_of_ne_true h2▸t2) .P) (.Q (.A (.O mx .C (qO m))) (.Q (j2▸j1) (.R .C)))))
 |false=>
  rw [e] at j2;exact zzL (.Q t1 (.Q (.If (eq_false_of_ne_true h2▸t2) .P) (.Q (.A (.O mx .C (qO m))) (.Qr (j2▸j1)))))
end
section
noncomputable def qr(col:List Nat)(c:Nat):List Nat:=col.zipIdx.map fun p=>if c=32 then p.1+1 else p.1 - p.1 % (p.2+1)+p.2+1
noncomputable def y9(l:List Nat):List Nat:=l.foldl qr [0,0,0,0,0]
theorem wH(col:List Nat)(c:Nat):(qr col c).length=col.length:=by simp [qr]
noncomputable def zzp(cols:List (List Nat)):D:=.list (cols.map cD)
theorem bC{cols:List (List Nat)}{i:Nat}{col:List Nat}(h:cols[i]? =some col)(hi:i<1000):zY (zzp cols) (nD i)=some (cD col):=
 ja (natCast_nonneg _) (ofNat_lt.mpr (Nat.lt_trans hi (by decide))) (by rw [toNat_natCast];exact h)
theorem zuI{cols:List (List Nat)}{i:Nat}{col:List Nat}(h:i<cols.length)(hl:cols.length≤1000):zzK (zzp cols) (nD i) (cD col)=some (zzp (cols.set i col)):=
 (if_pos ⟨natCast_nonneg _,by rw [length_map];exact ofNat_lt.mpr h,cpM hl⟩).trans (congrArg (fun l=>some (D.list l)) map_set.symm)
theorem zhg{a b:Nat}(h:b≠0):yQ .Mod (nD a) (nD b)=some (nD (a % b)):=
 (zu8 fun e=>h (ofNat.inj e)).trans (congrArg (fun z=>some (D.int z)) (Int.fmod_eq_emod_of_nonneg _ (natCast_nonneg b)))
theorem zhp{a b:Nat}(h:b≤a):yQ .Sub (nD a) (nD b)=some (nD (a - b)):=congrArg (fun z=>some (D.int z)) (Int.natCast_sub h).symm
theorem zbA(c:List Nat):yJ (c.map nD)=c.zipIdx.map fun p=>D.tup [nD p.2,nD p.1]:=by
 unfold yJ;rw [zipIdx_map,map_map];rfl
theorem Rn.dec{γ:Type}{f:γ→D}{c:Prop}[Decidable c]{u v:γ}{s:Sg}{t:Ts}{a b:Ex}(h1:RT t s (decide c))(h2:c→Rn a s (f u))(h3:¬ c→Rn b s (f v)):Rn (fE t a b) s (f (if c then u else v)):=
 .F h1 (fun q=>rwR (P:=fun z=>Rn a s (f z)) (if_pos (of_decide_eq_true q)) (h2 (of_decide_eq_true q))) fun q=>rwR (P:=fun z=>Rn b s (f z)) (if_neg (of_decide_eq_false q)) (h3 (of_decide_eq_false q))
structure zpd(sp:D)(cols:List (List Nat))(es:List Nat)(s:Sg):Prop where
 h1:s "columns"=some (zzp cols)
 h2:s "spaces"=some sp
 h3:s "ends"=some (cD es)
theorem zw8{σ:Sg}{cols:List (List Nat)}{i c:Nat}{col:List Nat}(h1:σ "columns"=some (zzp cols))(h2:σ "line"=some (nD i))(hc:cols[i]? =some col)(hl:cols.length≤100)(hn:col.length≤100):
  RS zqL (upd σ "sign" (dN [c])) (upd (upd σ "sign" (dN [c])) "columns" (zzp (cols.set i (qr col c)))) .next:=
 have hi:i<cols.length:=(List.getElem?_eq_some_iff.mp hc).1
 have e:D.list (col.zipIdx.map fun p:Nat × Nat=>nD (if c=32 then p.1+1 else p.1 - p.1 % (p.2+1)+p.2+1))=cD (qr col c):=by
  unfold cD qr;rw [map_map];rfl
 have v:Rn (LE (f2C "spot" "one" (eI (cL (jE (vE "columns") (vE "line")) nL)) (mC (fE (qT .Eq (vE "sign") (sE " ")) (oE .Add (vE "one") (nE 1)) (oE .Add (oE .Add (oE .Sub (vE "one") (oE .Mod (vE "one") (oE .Add (vE "spot") (nE 1)))) (vE "spot")) (nE 1)))))) (upd σ "sign" (dN [c])) (.list (col.zipIdx.map fun p:Nat × Nat=>nD (if c=32 then p.1+1 else p.1 - p.1 % (p.2+1)+p.2+1))):=
  .lc (.FM (emb:=fun p:Nat × Nat=>.tup [nD p.2,nD p.1]) (zbA col▸ .E (.I (.V h1) (.V h2) (bC hc (lt_of_lt_of_le hi (le_trans hl (by decide)))))) (fun z z z=>rfl) fun p z=>
   .dec (f:=nD) (.Q (.V rfl) .C (zfA c 32)) (fun z=>.O (.V rfl) .C (qO _)) fun z=>.O (.O (.O (.V rfl) (.O (.V rfl) (.O (.V rfl) .C (qO _)) (zhg (succ_ne_zero _))) (zhp (Nat.mod_le _ _))) (.V rfl) (vM ..)) .C (qO _)) (by rw [length_map,length_zipIdx];exact cpN hn)
 .X (e▸v) (.V h2) h1 (zuI hi (le_trans hl (by decide)))
theorem zw9{σ:Sg}{sp:D}{cols:List (List Nat)}{es:List Nat}{i:Nat}{l col:List Nat}(A:zpd sp cols es σ)(hc:cols[i]? =some col)(hl:cols.length≤100)(hn:col.length≤100)(hw:∀ x∈l,zpg x):
  To gP (upd (upd σ "line" (nD i)) "lead" (dN l)) fun σ f=>f= .next∧zpd sp (cols.set i (l.foldl qr col)) es σ:=
 RS.loop (emb:=fun x=>dN [x]) (bd:=fun x s=>upd s "sign" (dN [x])) (b:=zqL) (t:=.Name "sign" default) (i:=xI (vE "lead")) (l:=l)
  (Inv:=fun r σ=>∃ cols' col',zpd sp cols' es σ∧σ "line"=some (nD i)∧cols'.length=cols.length∧cols'[i]? =some col'∧col'.length=col.length∧cols'.set i (r.foldl qr col')=cols.set i (l.foldl qr col)) (s:=upd (upd σ "line" (nD i)) "lead" (dN l))
  (.X (.V rfl) (zpp fun x m=>(hw x m).elim (fun e=>e▸by decide) fun e=>e▸by decide)) (fun z z=>rfl)
  (fun c r σ x=>X26 x fun cols' col' A e1 e2 e3 e4 e5=>
   .mk (zw8 A.h1 e1 e3 (e2▸hl) (e4▸hn)) ⟨rfl,cols'.set i (qr col' c),qr col' c,⟨rfl,A.h2,A.h3⟩,e1,length_set.trans e2,List.getElem?_set_self (List.getElem?_eq_some_iff.mp e3).1,(wH ..).trans e4,(List.set_set ..).trans e5⟩)
  ⟨cols,col,⟨A.h1,A.h2,A.h3⟩,rfl,rfl,hc,rfl,rfl⟩ fun σ' j1 j2=>X26 j2 fun cols' col' A z z e3 z e5=>
 have e5:cols'.set i col'=cols.set i (l.foldl qr col):=e5
 X11 (List.getElem?_eq_some_iff.mp e3) fun hi e=>.mk (.Q j1 .P) ⟨rfl,(e▸List.set_getElem_self hi:cols'.set i col'=cols').symm.trans e5▸A⟩
end
section
noncomputable def qt(a b:List Nat):Bool:=(a.zip b).all fun p=>decide (p.1<p.2)
theorem ji:∀ l:List Int,yi (l.map .int)=some l
 |[]=>rfl
 |a::l=>congrArg (Option.map (a:: ·)) (ji l)
theorem wM:∀ l:List Bool,kX (l.map .bool)=some l
 |[]=>rfl
 |a::l=>congrArg (Option.map (a:: ·)) (wM l)
theorem zwQ:∀ (l:List Int) (a:Int),decide (zyB a l>0)=(decide (a>0)&&l.all fun x=>decide (x>0))
 |[],a=>(Bool.and_true _).symm
 |b::l,a=>by
  refine (zwQ l _).trans ?_;rw [all_cons, ←Bool.and_assoc];refine congrArg (· &&l.all fun x=>decide (x>0)) ?_;by_cases q:b<a
  ·rw [if_pos q];by_cases z:b>0
   ·rw [decide_eq_true z,decide_eq_true (lt_trans z q)];rfl
   ·rw [decide_eq_false z,Bool.and_false]
  ·rw [if_neg q];by_cases z:a>0
   ·rw [decide_eq_true z,decide_eq_true (Int.lt_of_lt_of_le z (Int.not_lt.mp q))];rfl
   ·rw [decide_eq_false z];rfl
theorem zhb{l:List Int}(h:l≠[]):∃ m,zd9 (iL l)=some (.int m)∧xJ .Gt (.int m) (.int 0)=some (l.all fun x=>decide (x>0)):=by
 cases l with
 |nil=>exact absurd rfl h
 |cons a l=>
  exact ⟨zyB a l,bK (ji (a::l)),congrArg some (zwQ l a)⟩
theorem zhd(a b:List Nat):zqf (a.map nD) (b.map nD)=(a.zip b).map fun p=>D.tup [nD p.1,nD p.2]:=by
 unfold zqf;rw [zip_map,map_map];rfl
theorem zbE(d:D):x14.call "min" [d]=zd9 d:=by kernel_rfl
theorem zny{s:Sg}{cols:List (List Nat)}{i:Nat}{col row:List Nat}(h1:s "columns"=some (zzp cols))(h2:s "here"=some (nD i))(h3:s "row"=some (cD row))(hc:cols[i]? =some col)(hi:i<1000)(hn:col≠[])(hr:row≠[])(hl:col.length≤100):
  RT (qT .Gt (CE x14 "min" (cL (LE (f2C "one" "two" (zI (cL (jE (vE "columns") (vE "here")) (cL (vE "row") nL))) (mC (oE .Sub (vE "two") (vE "one"))))) nL)) (nE 0)) s (qt col row):=
 have ne:((col.zip row).map fun p:Nat × Nat=>((p.2:Int) - (p.1:Int)))≠[]:=by
  cases col with
  |nil=>exact absurd rfl hn
  |cons a l=>cases row with
   |nil=>exact absurd rfl hr
   |cons b r=>exact cons_ne_nil _ _
 have e2:((col.zip row).map fun p:Nat × Nat=>((p.2:Int) - (p.1:Int))).all (fun x=>decide (x>0))=qt col row:=by
  unfold qt;rw [all_map];exact congrArg (fun f=>(col.zip row).all f) (funext fun p=>decide_eq_decide.mpr (Int.sub_pos.trans ofNat_lt))
 X12 (zhb ne) fun m m1 m2=>
 .Q (.E (.C (.lc (.FM (emb:=fun p:Nat × Nat=>.tup [nD p.1,nD p.2]) (g:=fun p:Nat × Nat=>D.int ((p.2:Int) - (p.1:Int))) (zhd col row▸ .Z (.I (.V h1) (.V h2) (bC hc hi)) (.V h3)) (fun z z z=>rfl) fun z z=>.O (.V rfl) (.V rfl) rfl) (by rw [length_map,List.length_zip];exact cpN (le_trans (min_le_left ..) hl))) .N)
  ((zbE _).trans ((congrArg (fun l=>zd9 (.list l)) (map_map (l:=col.zip row) (g:=D.int)).symm).trans m1))) .C (m2.trans (congrArg some e2))
noncomputable abbrev SpT:=List Nat × WS
noncomputable def spD(p:SpT):D:=wsD p.1 p.2
noncomputable def zyM(cols:List (List Nat))(col:List Nat):List Bool:=cols.map (qt col)
noncomputable def zpf(cols:List (List Nat))(i:Nat):Nat:=i+1+((zyM cols (cols.getD i [])).drop (i+1)++[false]).idxOf false
theorem zgq{α:Type}{xs:List α}{k:Nat}(h:k≤xs.length):cut xs (some (k:Int)) none=xs.drop k:=by
 show (xs.drop (clipAt xs.length k)).take (xs.length - clipAt xs.length k)=_
 rw [xH,min_eq_left h];exact List.take_of_length_le (le_of_eq length_drop)
theorem zwZ{p q:SpT}(hp:zyH p.2)(hq:zyH q.2):yC x14 "less" false (spD p) [spD q] some=some (.bool (bN p.2 q.2)):=
 (show _=(fnC x3 129 ["self","other"] [] [spD p,spD q]).bind some by kernel_rfl).trans (bK (zhu hp hq))
theorem zwJ{s:Sg}{cols:List (List Nat)}{sps:List SpT}{i:Nat}{col:List Nat}{p:SpT}{es:List Nat}(A:zpd (.list (sps.map spD)) cols es s)
  (hc:cols[i]? =some col)(hp:sps[i]? =some p)(hl:cols.length≤100)(hne:∀ c∈cols,c≠[]∧c.length≤100)(hw:∀ q∈sps,zyH q.2)(hH:∀ x∈cols.zip sps,bN p.2 x.2.2=qt col x.1)(he:es.length≤100):
  To gB (upd s "here" (nD i)) fun s f=>f= .next∧zpd (.list (sps.map spD)) cols (es++[zpf cols i]) s:=
 have hi:i<cols.length:=(List.getElem?_eq_some_iff.mp hc).1;have hi2:i<1000:=lt_of_lt_of_le hi (le_trans hl (by decide));have hcm:col∈cols:=mem_of_getElem? hc;have hpm:p∈sps:=mem_of_getElem? hp
 have sl:jU (D.list (cols.map fun row=>D.bool (qt col row))) (some ((i+1:Nat):Int)) none none=some (.list (((zyM cols col).drop (i+1)).map D.bool)):=
  (if_pos (cpM hl)).trans (congrArg (fun l=>some (D.list l)) ((zgq (by rw [length_map];exact hi)).trans (by unfold zyM;rw [map_drop,map_map];rfl)))
 have rl:((zyM cols col).drop (i+1)).length≤100:=by unfold zyM;rw [length_drop,length_map];exact le_trans (sub_le ..) hl
 have ad:yQ .Add (D.list (((zyM cols col).drop (i+1)).map D.bool)) (D.list [D.bool false])=some (.list (((zyM cols col).drop (i+1)++[false]).map D.bool)):=
  (xG (by rw [length_map];exact le_trans (succ_le_succ rl) (by decide))).trans (congrArg (fun l=>some (D.list l)) (map_append (l₂:=[false])).symm)
 have ix:yC x14 "index" false (D.list (((zyM cols col).drop (i+1)++[false]).map D.bool)) [D.bool false] some=some (nD (((zyM cols col).drop (i+1)++[false]).idxOf false)):=
  (show _=(jP "index" (D.list (((zyM cols col).drop (i+1)++[false]).map D.bool)) [D.bool false]).bind some by kernel_rfl).trans (bK (by
   exact (show _=(kX (((zyM cols col).drop (i+1)++[false]).map D.bool)).bind fun ns=>if ns.contains false=true∧ns.length≤zz then some (D.int (ns.idxOf false)) else none by kernel_rfl).trans ((bK (wM _)).trans (if_pos ⟨by simp,by rw [length_append];exact le_trans (succ_le_succ rl) (by decide)⟩))))
 have eg:cols.getD i []=col:=by rw [getD_eq_getElem?_getD,hc];rfl
 have ez:zqf (cols.map fun row=>D.bool (qt col row)) (sps.map spD)=(cols.zip sps).map fun x=>D.tup [.bool (qt col x.1),spD x.2]:=by
  unfold zqf;rw [zip_map,map_map];rfl
 have ea:cD es= .list (es.map nD):=rfl
 have st:RS gB (upd s "here" (nD i)) (upd (upd (upd s "here" (nD i)) "less" (.list (cols.map fun row=>D.bool (qt col row)))) "ends" (.list (es.map nD++[nD (i+1+((zyM cols col).drop (i+1)++[false]).idxOf false)]))) .next:=
  .Q (.A (.lc (.FM (emb:=cD) (.X (.V A.h1) rfl) (fun z z z=>rfl) fun row m=>.Q (zny A.h1 rfl rfl hc hi2 (hne col hcm).1 (hne row m).1 (hne col hcm).2)) (cpM hl)))
  (.Q (.If (.Q (.lc (RC.none (ds:=(cols.zip sps).map fun x=>D.tup [.bool (qt col x.1),spD x.2]) (ez▸ .Z (.V rfl) (.V A.h2)) fun d m=>X12 (mem_map.mp m) fun x hx e=>
    ⟨upd (upd (upd (upd s "here" (nD i)) "less" (.list (cols.map fun row=>D.bool (qt col row)))) "one" (.bool (qt col x.1))) "space" (spD x.2),fun z z=>e▸rfl,RC.N (.Q (.H (.I (.V A.h2) (.V rfl) (ja (natCast_nonneg _) (ofNat_lt.mpr (Nat.lt_trans hi2 (by decide))) (by rw [toNat_natCast];exact hp))) (.C (.V rfl) .N) (zwZ (hw p hpm) (hw x.2 (of_mem_zip hx).2))) (.V rfl)
     (by rw [hH x hx];show some (!(qt col x.1==qt col x.1))=_;rw [beq_self_eq_true];rfl))⟩) (zero_le _)) (.L .N) rfl) .P)
  (.L A.h3 (.O (.O (.V rfl) .C (qO _)) (.H (.O (.Z (.V rfl) (.E (.O (.V rfl) .C (qO _)) (jZ ⟨Int.lt_of_lt_of_le (by decide) (natCast_nonneg _),ofNat_lt.mpr (lt_of_le_of_lt hi2 (by decide))⟩)) .N .N sl) (.L (.C .C .N)) ad) (.C .C .N) ix) (vM ..)) (cpM he)))
 .mk st ⟨rfl,A.h1,A.h2,congrArg (fun l=>some (D.list l)) (by unfold zpf;rw [eg,map_append];rfl)⟩
end
section
noncomputable def zwY(cols:List (List Nat)):List Nat:=[zpf cols 0,zpf cols 1,zpf cols 2,zpf cols 3]
theorem wN:∀ (l col:List Nat),(l.foldl qr col).length=col.length
 |[],_=>rfl
 |c::l,col=>(wN l (qr col c)).trans (wH ..)
theorem yt(l:List Nat):(y9 l).length=5:=wN l _
def CoI(sp:D)(ls:List (List Nat))(r:List (List Nat × Nat))(σ:Sg):Prop:=∃ d t,r=t.zipIdx d.length∧d++t=ls∧zpd sp (d.map y9++t.map fun z=>[0,0,0,0,0]) [] σ
theorem zbI{sp:D}{ls:List (List Nat)}(hl:ls.length=4)(hw:∀ l∈ls,∀ x∈l,zpg x)(a:List Nat × Nat)(r:List (List Nat × Nat))(σ:Sg)(i:CoI sp ls (a::r) σ):
  To gP (upd (upd σ "line" (nD a.2)) "lead" (dN a.1)) fun σ f=>f= .next∧CoI sp ls r σ:=
 X23 i fun d t e1 e2 A=>match t,e1,e2,A with
 |x::t,e1,e2,A=>by
  obtain ⟨rfl,rfl⟩:=List.cons.inj e1;have lc:(d.map y9++(x::t).map fun z=>[0,0,0,0,0]).length=4:=by rw [length_append,length_map,length_map, ←length_append,e2,hl]
  refine .imp (zw9 A (col:=[0,0,0,0,0]) ((List.getElem?_append_right (le_of_eq (length_map ..))).trans (by rw [length_map,sub_self];rfl)) (lc▸by decide) (by decide) (hw x (e2▸mem_append_right _ (mem_cons_self ..)))) fun σ f q=>⟨q.1,d++[x],t,?_,(append_assoc ..).trans e2,?_⟩
  ·rw [length_append];rfl
  ·have e:(d.map y9++(x::t).map fun z=>[0,0,0,0,0]).set d.length (y9 x)=(d++[x]).map y9++t.map fun z=>[0,0,0,0,0]:=by
    rw [List.set_append_right _ _ (le_of_eq (length_map ..)),length_map,sub_self,map_append,append_assoc];rfl
   exact e▸q.2
theorem zhf{ps:List (List Nat × List Nat)}(h4:ps.length=4)(hw:∀ p∈ps,∀ x∈p.2,zpg x)(hk:∀ p∈ps,zyH (wsT p.2))(hH:∀ a∈ps,∀ b∈ps,bN (wsT a.2) (wsT b.2)=qt (y9 a.2) (y9 b.2)):
  fnC x14 177 ["leads","spaces"] ["columns","ends"] [.list ((ps.map (fun z=>z.2)).map dN),.list ((ps.map fun p=>(p.1,wsT p.2)).map spD)]=some (cD (zwY ((ps.map (fun z=>z.2)).map y9))):=
 have hl:(ps.map (fun z=>z.2)).length=4:=(length_map ..).trans h4
 have en:yJ ((ps.map (fun z=>z.2)).map dN)=((ps.map (fun z=>z.2)).zipIdx).map fun p=>D.tup [nD p.2,dN p.1]:=by
  unfold yJ;rw [zipIdx_map,map_map];rfl
 RS.loop (emb:=fun p:List Nat × Nat=>.tup [nD p.2,dN p.1]) (bd:=fun p s=>upd (upd s "line" (nD p.2)) "lead" (dN p.1)) (b:=gP) (t:=zgM "line" "lead") (i:=eI (cL (vE "leads") nL)) (l:=(ps.map (fun z=>z.2)).zipIdx) (Inv:=CoI (.list ((ps.map fun p=>(p.1,wsT p.2)).map spD)) (ps.map (fun z=>z.2)))
  (s:=upd (upd (par ["leads","spaces"] [.list ((ps.map (fun z=>z.2)).map dN),.list ((ps.map fun p=>(p.1,wsT p.2)).map spD)]) "columns" (.list ((ps.map (fun z=>z.2)).map fun z=>cD [0,0,0,0,0]))) "ends" (.list []))
  (en▸ .E (.V rfl)) (fun z z=>rfl) (zbI hl fun l m=>X12 (mem_map.mp m) fun p hp e=>e▸hw p hp)
  ⟨[],ps.map (fun z=>z.2),rfl,rfl,congrArg (fun l=>some (D.list l)) (map_map (g:=cD) (f:=fun z=>[0,0,0,0,0])).symm,rfl,rfl⟩ fun s1 j1 j2=>X23 j2 fun d t e1 e2 A=>
 have et:t=[]:=by cases t with
  |nil=>rfl
  |cons=>exact nomatch e1
 have ed:d=ps.map (fun z=>z.2):=(append_nil d).symm.trans (et▸e2)
 have A:zpd (.list ((ps.map fun p=>(p.1,wsT p.2)).map spD)) ((ps.map (fun z=>z.2)).map y9) [] s1:=by
  rw [et,ed] at A;exact append_nil ((ps.map (fun z=>z.2)).map y9)▸A
 have hc:((ps.map (fun z=>z.2)).map y9).length=4:=(length_map ..).trans hl;have ez:((ps.map (fun z=>z.2)).map y9).zip (ps.map fun p=>(p.1,wsT p.2))=ps.map fun p=>(y9 p.2,p.1,wsT p.2):=by rw [map_map];exact List.zip_map' ..
 RS.loop (emb:=nD) (bd:=fun i s=>upd s "here" (nD i)) (b:=gB) (t:=.Name "here" default) (i:=rI (cL (nE 4) nL)) (l:=[0,1,2,3]) (Inv:=fun r s=>∃ d,d++r=[0,1,2,3]∧zpd (.list ((ps.map fun p=>(p.1,wsT p.2)).map spD)) ((ps.map (fun z=>z.2)).map y9) (d.map (zpf ((ps.map (fun z=>z.2)).map y9))) s)
  (.R (.C .C .N) rfl) (fun z z=>rfl) (fun i r s x=>X12 x fun d e A=>
   have hi:i∈[0,1,2,3]:=e▸mem_append_right _ (mem_cons_self ..);have hi:i<ps.length:=h4▸(by decide:∀ i∈[0,1,2,3],i<4) i hi;have hd:d.length≤4:=by have:=congrArg List.length e;rw [length_append] at this;exact le_trans (le_add_right ..) (le_of_eq this)
   .imp (zwJ A (col:=y9 ps[i].2) (p:=(ps[i].1,wsT ps[i].2)) (by rw [getElem?_map,getElem?_map,getElem?_eq_getElem hi];rfl) (by rw [getElem?_map,getElem?_eq_getElem hi];rfl) (hc▸by decide)
    (fun c m=>X12 (mem_map.mp m) fun l z e=>e▸⟨fun q=>absurd ((yt l).symm.trans (congrArg List.length q)) (by decide),yt l▸by decide⟩) (fun q m=>X12 (mem_map.mp m) fun p hp e=>e▸hk p hp)
    (fun x m=>X12 (mem_map.mp (ez▸m)) fun p hp e=>rwL (P:=fun x=>bN (wsT ps[i].2) (x:List Nat × SpT).2.2=qt (y9 ps[i].2) x.1) e (hH _ (List.getElem_mem hi) p hp)) (lnM (le_trans hd (by decide)))) fun s f q=>⟨q.1,d++[i],(append_assoc ..).trans e,by rw [map_append];exact q.2⟩)
  ⟨[],rfl,A⟩ fun s2 k1 k2=>X12 k2 fun d e A=>
 zfZ (.Q (.Ds (.O (.lc (.FM (emb:=dN) (g:=fun z=>cD [0,0,0,0,0]) (.X (.V rfl) rfl) (fun z z z=>rfl) fun z z=>.L (.C .C (.C .C (.C .C (.C .C (.C .C .N)))))) (by rw [length_map,hl];decide)) ⟨rfl,rfl,rfl,by decide+kernel⟩ (.C (.L .N) .N))) (.Q j1 (.Q k1 (.R (.V (A.h3.trans (congrArg (fun l=>some (cD (l.map (zpf ((ps.map (fun z=>z.2)).map y9))))) ((append_nil d).symm.trans e))))))))
end
section
noncomputable def S85:List (List Nat):=[[],[32],[9],[32,9],[32,32],[32,32,9],[9,32],[9,9],[9,32,9],[32,9,32],[32,9,9],[32,9,32,9],[32,32,32],[32,32,32,9],[32,32,9,32],[32,32,9,9],[32,32,9,32,9],[9,32,32],[9,32,32,9],[9,9,32],[9,9,9],[9,9,32,9],[9,32,9,32],[9,32,9,9],[9,32,9,32,9],[32,9,32,32],[32,9,32,32,9],[32,9,9,32],[32,9,9,9],[32,9,9,32,9],[32,9,32,9,32],[32,9,32,9,9],[32,9,32,9,32,9],[32,32,32,32],[32,32,32,32,9],[32,32,32,9,32],[32,32,32,9,9],[32,32,32,9,32,9],[32,32,9,32,32],[32,32,9,32,32,9],[32,32,9,9,32],[32,32,9,9,9],[32,32,9,9,32,9],[32,32,9,32,9,32],[32,32,9,32,9,9],[32,32,9,32,9,32,9],[9,32,32,32],[9,32,32,32,9],[9,32,32,9,32],[9,32,32,9,9],[9,32,32,9,32,9],[9,9,32,32],[9,9,32,32,9],[9,9,9,32],[9,9,9,9],[9,9,9,32,9],[9,9,32,9,32],[9,9,32,9,9],[9,9,32,9,32,9],[9,32,9,32,32],[9,32,9,32,32,9],[9,32,9,9,32],[9,32,9,9,9],[9,32,9,9,32,9],[9,32,9,32,9,32],[9,32,9,32,9,9],[9,32,9,32,9,32,9],[32,9,32,32,32],[32,9,32,32,32,9],[32,9,32,32,9,32],[32,9,32,32,9,9],[32,9,32,32,9,32,9],[32,9,9,32,32],[32,9,9,32,32,9],[32,9,9,9,32],[32,9,9,9,9],[32,9,9,9,32,9],[32,9,9,32,9,32],[32,9,9,32,9,9],[32,9,9,32,9,32,9],[32,9,32,9,32,32],[32,9,32,9,32,32,9],[32,9,32,9,9,32],[32,9,32,9,9,9],[32,9,32,9,9,32,9]]
noncomputable def T85:List ((Nat × Nat × Nat × List Nat) × List Nat):=[((0,0,0,[]),[0,0,0,0,0]),((1,1,0,[]),[1,1,1,1,1]),((1,0,1,[1]),[1,2,3,4,5]),((2,0,1,[0,1]),[2,2,3,4,5]),((2,2,0,[]),[2,2,2,2,2]),((3,0,1,[0,0,1]),[3,4,3,4,5]),((2,1,1,[1]),[2,3,4,5,6]),((2,0,2,[2]),[2,4,6,8,10]),((3,0,2,[1,1]),[3,4,6,8,10]),((3,1,1,[0,1]),[3,3,4,5,6]),((3,0,2,[1,1]),[3,4,6,8,10]),((4,0,2,[0,2]),[4,4,6,8,10]),((3,3,0,[]),[3,3,3,3,3]),((4,0,1,[0,0,0,1]),[4,4,6,4,5]),((4,1,1,[0,0,1]),[4,5,4,5,6]),((4,0,2,[1,0,1]),[4,6,6,8,10]),((5,0,2,[0,1,1]),[5,6,6,8,10]),((3,2,1,[1]),[3,4,5,6,7]),((4,0,2,[1,0,1]),[4,6,6,8,10]),((3,1,2,[2]),[3,5,7,9,11]),((3,0,3,[3]),[3,6,9,12,15]),((4,0,3,[2,1]),[4,6,9,12,15]),((4,1,2,[1,1]),[4,5,7,9,11]),((4,0,3,[2,1]),[4,6,9,12,15]),((5,0,3,[1,2]),[5,6,9,12,15]),((4,2,1,[0,1]),[4,4,5,6,7]),((5,0,2,[0,1,1]),[5,6,6,8,10]),((4,1,2,[1,1]),[4,5,7,9,11]),((4,0,3,[2,1]),[4,6,9,12,15]),((5,0,3,[1,2]),[5,6,9,12,15]),((5,1,2,[0,2]),[5,5,7,9,11]),((5,0,3,[1,2]),[5,6,9,12,15]),((6,0,3,[0,3]),[6,6,9,12,15]),((4,4,0,[]),[4,4,4,4,4]),((5,0,1,[0,0,0,0,1]),[5,6,6,8,5]),((5,1,1,[0,0,0,1]),[5,5,7,5,6]),((5,0,2,[1,0,0,1]),[5,6,9,8,10]),((6,0,2,[0,1,0,1]),[6,6,9,8,10]),((5,2,1,[0,0,1]),[5,6,5,6,7]),((6,0,2,[0,0,2]),[6,8,6,8,10]),((5,1,2,[1,0,1]),[5,7,7,9,11]),((5,0,3,[2,0,1]),[5,8,9,12,15]),((6,0,3,[1,1,1]),[6,8,9,12,15]),((6,1,2,[0,1,1]),[6,7,7,9,11]),((6,0,3,[1,1,1]),[6,8,9,12,15]),((7,0,3,[0,2,1]),[7,8,9,12,15]),((4,3,1,[1]),[4,5,6,7,8]),((5,0,2,[1,0,0,1]),[5,6,9,8,10]),((5,1,2,[1,0,1]),[5,7,7,9,11]),((5,0,3,[2,0,1]),[5,8,9,12,15]),((6,0,3,[1,1,1]),[6,8,9,12,15]),((4,2,2,[2]),[4,6,8,10,12]),((5,0,3,[2,0,1]),[5,8,9,12,15]),((4,1,3,[3]),[4,7,10,13,16]),((4,0,4,[4]),[4,8,12,16,20]),((5,0,4,[3,1]),[5,8,12,16,20]),((5,1,3,[2,1]),[5,7,10,13,16]),((5,0,4,[3,1]),[5,8,12,16,20]),((6,0,4,[2,2]),[6,8,12,16,20]),((5,2,2,[1,1]),[5,6,8,10,12]),((6,0,3,[1,1,1]),[6,8,9,12,15]),((5,1,3,[2,1]),[5,7,10,13,16]),((5,0,4,[3,1]),[5,8,12,16,20]),((6,0,4,[2,2]),[6,8,12,16,20]),((6,1,3,[1,2]),[6,7,10,13,16]),((6,0,4,[2,2]),[6,8,12,16,20]),((7,0,4,[1,3]),[7,8,12,16,20]),((5,3,1,[0,1]),[5,5,6,7,8]),((6,0,2,[0,1,0,1]),[6,6,9,8,10]),((6,1,2,[0,1,1]),[6,7,7,9,11]),((6,0,3,[1,1,1]),[6,8,9,12,15]),((7,0,3,[0,2,1]),[7,8,9,12,15]),((5,2,2,[1,1]),[5,6,8,10,12]),((6,0,3,[1,1,1]),[6,8,9,12,15]),((5,1,3,[2,1]),[5,7,10,13,16]),((5,0,4,[3,1]),[5,8,12,16,20]),((6,0,4,[2,2]),[6,8,12,16,20]),((6,1,3,[1,2]),[6,7,10,13,16]),((6,0,4,[2,2]),[6,8,12,16,20]),((7,0,4,[1,3]),[7,8,12,16,20]),((6,2,2,[0,2]),[6,6,8,10,12]),((7,0,3,[0,2,1]),[7,8,9,12,15]),((6,1,3,[1,2]),[6,7,10,13,16]),((6,0,4,[2,2]),[6,8,12,16,20]),((7,0,4,[1,3]),[7,8,12,16,20])]
noncomputable def znD(x:Nat × Nat × Nat × List Nat):WS:=⟨x.1,x.2.1,x.2.2.1,x.2.2.2⟩
theorem zdq:S85.map (fun l=>(((wsT l).n,(wsT l).b,(wsT l).nt,(wsT l).count),y9 l))=T85:=by decide+kernel
theorem zdz:((List.range 6).all fun t=>(List.range 4).all fun a=>(S85.take 4).contains (([]:List Nat).take t++bD a))=true:=by decide+kernel
theorem zdj:((S85.take 4).all fun l=>(List.range 6).all fun t=>(List.range 4).all fun a=>(S85.take 12).contains (l.take t++bD a))=true:=by decide+kernel
theorem zwK:((S85.take 12).all fun l=>(List.range 6).all fun t=>(List.range 4).all fun a=>(S85.take 33).contains (l.take t++bD a))=true:=by decide+kernel
theorem zgz:((S85.take 33).all fun l=>(List.range 6).all fun t=>(List.range 4).all fun a=>S85.contains (l.take t++bD a))=true:=by decide+kernel
theorem zwX:(T85.all fun x=>T85.all fun y=>bN (znD x.1) (znD y.1)==qt x.2 y.2)=true:=by decide+kernel
theorem zwW:(S85.all fun l=>l.all (fun c=>c==32||c==9)&&decide (l.length≤7))=true:=by decide+kernel
end
section
theorem k6(l:List Nat)(c:Int):∃ t a,t∈List.range 6∧a∈List.range 4∧zU l c=l.take t++bD a:=by
 have q1:0≤(c.fdiv 192).fmod 6∧(c.fdiv 192).fmod 6<6:=⟨fmod_nonneg_of_pos _ (by exact natCast_nonneg _),fmod_lt_of_pos _ (by exact natCast_nonneg _)⟩
 have q2:0≤(c.fdiv 48).fmod 4∧(c.fdiv 48).fmod 4<4:=⟨fmod_nonneg_of_pos _ (by exact natCast_nonneg _),fmod_lt_of_pos _ (by exact natCast_nonneg _)⟩
 exact ⟨_,_,mem_range.mpr (by omega),mem_range.mpr (by omega),rfl⟩
theorem zgj(c:Int):zU [] c∈S85.take 4:=by
 refine X23 (k6 [] c) fun t a ht ha e=>?_;have:=zdz;rw [e];exact contains_iff_mem.mp (all_eq_true.mp (all_eq_true.mp this t ht) a ha)
theorem zgy{l:List Nat}(h:l∈S85.take 4)(c:Int):zU l c∈S85.take 12:=by
 refine X23 (k6 l c) fun t a ht ha e=>?_;rw [e];exact contains_iff_mem.mp (all_eq_true.mp (all_eq_true.mp (all_eq_true.mp zdj l h) t ht) a ha)
theorem zyZ{l:List Nat}(h:l∈S85.take 12)(c:Int):zU l c∈S85.take 33:=by
 refine X23 (k6 l c) fun t a ht ha e=>?_;rw [e];exact contains_iff_mem.mp (all_eq_true.mp (all_eq_true.mp (all_eq_true.mp zwK l h) t ht) a ha)
theorem zwV{l:List Nat}(h:l∈S85.take 33)(c:Int):zU l c∈S85:=by
 refine X23 (k6 l c) fun t a ht ha e=>?_;rw [e];exact contains_iff_mem.mp (all_eq_true.mp (all_eq_true.mp (all_eq_true.mp zgz l h) t ht) a ha)
theorem zwU(c0 c1 c2 c3:Int):∀ l∈jW c0 c1 c2 c3,l∈S85:=fun l m=>by
 have h1:=zgj c0;have h2:=zgy h1 c1;have h3:=zyZ h2 c2;have h4:=zwV h3 c3;simp only [jW,mem_cons,not_mem_nil,or_false] at m;rcases m with rfl|rfl|rfl|rfl
 ·exact mem_of_mem_take h1
 ·exact mem_of_mem_take h2
 ·exact mem_of_mem_take h3
 ·exact h4
theorem bO{l:List Nat}(h:l∈S85):(∀ x∈l,zpg x)∧l.length≤7:=by
 have:=all_eq_true.mp zwW l h;simp only [and_eq_true,all_eq_true,decide_eq_true_eq,or_eq_true,beq_iff_eq] at this;exact this
theorem zdy{l:List Nat}(h:l∈S85):((((wsT l).n,(wsT l).b,(wsT l).nt,(wsT l).count),y9 l):(Nat × Nat × Nat × List Nat) × List Nat)∈T85:=by
 rw [←zdq];exact mem_map.mpr ⟨l,h,rfl⟩
theorem zwG:(T85.all fun x=>decide (x.1.2.2.2.length≤300)&&decide (x.1.2.1≤300))=true:=by decide+kernel
theorem zhh{l:List Nat}(h:l∈S85):zyH (wsT l):=by
 have:=all_eq_true.mp zwG _ (zdy h);simp only [and_eq_true,decide_eq_true_eq] at this;exact ⟨this.1,this.2⟩
theorem zgk{a b:List Nat}(ha:a∈S85)(hb:b∈S85):bN (wsT a) (wsT b)=qt (y9 a) (y9 b):=by
 have:=all_eq_true.mp (all_eq_true.mp zwX _ (zdy ha)) _ (zdy hb);exact eq_of_beq this
theorem qA:∀ {a b c:List Nat},a.length=b.length→b.length=c.length→qt a b=true→qt b c=true→qt a c=true
 |[],_,_,_,_,_,_=>by simp [qt]
 |_::_,[],_,h,_,_,_=>by cases h
 |_::_,_::_,[],_,h,_,_=>by cases h
 |x::a,y::b,z::c,h1,h2,h3,h4=>by
  simp only [qt,List.zip_cons_cons,all_cons,and_eq_true,decide_eq_true_eq] at h3 h4 ⊢;exact ⟨by lia,qA (by simpa using h1) (by simpa using h2) h3.2 h4.2⟩
noncomputable def E14:List (List Nat):=[[1,2,3,4],[1,2,4,4],[1,3,3,4],[1,4,3,4],[1,4,4,4],[2,2,3,4],[2,2,4,4],[3,2,3,4],[3,3,3,4],[4,2,3,4],[4,2,4,4],[4,3,3,4],[4,4,3,4],[4,4,4,4]]
theorem zwP:∀ b01 b02 b03 b12 b13 b23:Bool,(b01=true→b12=true→b02=true)→(b01=true→b13=true→b03=true)→(b02=true→b23=true→b03=true)→(b12=true→b23=true→b13=true)→
  [0+1+([b01,b02,b03]++[false]).idxOf false,1+1+([b12,b13]++[false]).idxOf false,2+1+([b23]++[false]).idxOf false,3+1+(([]:List Bool)++[false]).idxOf false]∈E14:=by decide+kernel
theorem zgx{a b c d:List Nat}(ha:a.length=5)(hb:b.length=5)(hc:c.length=5)(hd:d.length=5):zwY [a,b,c,d]∈E14:=by
 have h:=zwP (qt a b) (qt a c) (qt a d) (qt b c) (qt b d) (qt c d) (fun x y=>qA (by lia) (by lia) x y) (fun x y=>qA (by lia) (by lia) x y) (fun x y=>qA (by lia) (by lia) x y) (fun x y=>qA (by lia) (by lia) x y);exact h
end
section
noncomputable def qI(es:List Nat)(i:Nat):List Nat:=(List.range i).filter fun j=>decide (i<es.getD j 0)
noncomputable def znF(es:List Nat)(i:Nat):Bool:=((es.getD i 0:Nat):Int)==zyB 4 ((qI es i).map fun j=>((es.getD j 0:Nat):Int))
noncomputable def m3(nums:List Int)(j:Nat):Int:=(nums.getD j 0).fmod 3
noncomputable def zgw(es:List Nat)(m:Nat→Int)(after:List Int)(i:Nat):Int:=
 if znF es i=true then (if (qI es i).isEmpty=true then 0 else if (m ((qI es i).getLastD 0)==2)=true then 256+(((qI es i).getLastD 0:Nat):Int) else after.getD ((qI es i).getLastD 0) 0) else 256+((es.getD i 0:Nat):Int)
noncomputable def k7(es:List Nat)(m:Nat→Int)(i:Nat)(out:Int):Int:=if i+1<es.getD i 0 then 257+(i:Int) else if (m i==2)=true then 256+(i:Int) else out
noncomputable def zdk(m:Nat→Int)(i:Nat)(out inner:Int):List Int:=if ((!(m i==0))&& !(inner==out))=true then [out,inner] else [inner]
theorem zdx(i:Nat):jl 0 (i:Int)=(List.range i).map nD:=
 (pk 0 i).trans (congrArg (fun f=>(List.range i).map f) (funext fun j=>congrArg nD (zero_add j)))
theorem wR{es:List Nat}{j:Nat}(h:j<es.length)(hl:es.length≤100):zY (cD es) (nD j)=some (nD (es.getD j 0)):=zzg h (le_trans hl (by decide))
theorem k8{ns:List Int}{j:Nat}(h:j<ns.length)(hl:ns.length≤100):zY (iL ns) (nD j)=some (.int (ns.getD j 0)):=by
 refine wZ (natCast_nonneg _) (ofNat_lt.mpr (lt_of_lt_of_le h (le_trans hl (by decide)))) ?_;rw [toNat_natCast,getD_eq_getElem?_getD,getElem?_eq_getElem h];rfl
theorem zzb{a:List Nat}(h:a≠[]):zY (cD a) (.int (-1))=some (nD (a.getLastD 0)):=by
 rcases List.eq_nil_or_concat a with rfl|⟨l,x,rfl⟩
 ·exact absurd rfl h
 ·unfold cD;rw [List.concat_eq_append,map_append,List.map_singleton,wJ];simp
theorem zhm(a b:Nat):xJ .Gt (nD a) (nD b)=some (decide (b<a)):=congrArg some (decide_eq_decide.mpr ofNat_lt)
theorem zhn(a:List Nat):xJ .Eq (cD a) (D.list [])=some a.isEmpty:=by
 cases a<;>rfl
theorem zjt{es:List Nat}{i j:Nat}(h:j∈qI es i):j<i:=mem_range.mp (mem_filter.mp h).1
theorem bA(es:List Nat)(i:Nat):(qI es i).length≤i:=le_trans (length_filter_le ..) (le_of_eq length_range)
theorem Rn.bo{γ:Type}{f:γ→D}{c:Bool}{u v:γ}{s:Sg}{t:Ts}{a b:Ex}(h1:RT t s c)(h2:c=true→Rn a s (f u))(h3:c=false→Rn b s (f v)):Rn (fE t a b) s (f (if c=true then u else v)):=
 .F h1 (fun q=>rwR (P:=fun z=>Rn a s (f z)) (if_pos q) (h2 q)) fun q=>rwR (P:=fun z=>Rn b s (f z)) (if_neg (ne_true_of_eq_false q)) (h3 q)
theorem zdw{s:Sg}{es:List Nat}{i:Nat}(h1:s "ends"=some (cD es))(h2:s "here"=some (nD i))(hi:i<es.length)(hl:es.length≤100):
  Rn (LE (f1C "line" (rI (cL (vE "here") nL)) (iC (qT .Gt (jE (vE "ends") (vE "line")) (vE "here")) (mC (vE "line"))))) s (cD (qI es i)):=
 have h:i≤100:=le_trans (le_of_lt hi) hl
 .lc (.FI (emb:=nD) (zdx i▸ .R (.C (.V h2) .N) (k5 (le_trans h (by decide)))) (fun z z z=>rfl) (fun j m=>.Q (.I (.V h1) (.V rfl) (wR (Nat.lt_trans (mem_range.mp m) hi) hl)) (.V h2) (zhm ..)) fun z z z=>.V rfl) (cpM (le_trans (bA es i) h))
theorem zdv(d:D):x15.call "min" [d]=zd9 d:=by kernel_rfl
theorem znk{s:Sg}{es:List Nat}{i:Nat}(h1:s "ends"=some (cD es))(h2:s "above"=some (cD (qI es i)))(hi:i<es.length)(hl:es.length≤100):
  Rn (CE x15 "min" (cL (oE .Add (lE (cL (nE 4) nL)) (LE (f1C "line" (xI (vE "above")) (mC (jE (vE "ends") (vE "line")))))) nL)) s (.int (zyB 4 ((qI es i).map fun j=>((es.getD j 0:Nat):Int)))):=
 have la:(qI es i).length≤100:=le_trans (bA es i) (le_trans (le_of_lt hi) hl)
 have e:yQ .Add (D.list [(D.int 4)]) (D.list ((qI es i).map fun j=>nD (es.getD j 0)))=some (iL (4::(qI es i).map fun j=>((es.getD j 0:Nat):Int))):=
  (xG (by rw [length_map];exact le_trans (add_le_add_left la 1) (by decide))).trans (congrArg (fun l=>some (D.list (.int 4::l))) map_map.symm)
 .E (.C (.O (.L (.C .C .N)) (.lc (.FM (emb:=nD) (.X (.V h2) rfl) (fun z z z=>rfl) fun j m=>.I (.V h1) (.V rfl) (wR (Nat.lt_trans (zjt m) hi) hl)) (cpM la)) e) .N) ((zdv _).trans (bK (ji (4::_))))
end
section
structure AtR(s:Sg)(es:List Nat)(ns after:List Int)(R:zx):Prop where
 ends:s "ends"=some (cD es)
 nums:s "numbers"=some (iL ns)
 after:s "after"=some (iL after)
 rules:s "rules"=some (zt R)
theorem Rn.m3{s:Sg}{e:Ex}{ns:List Int}{j:Nat}(h1:s "numbers"=some (iL ns))(h2:Rn e s (nD j))(h:j<ns.length)(hl:ns.length≤100):Rn (oE .Mod (jE (vE "numbers") e) (nE 3)) s (.int (m3 ns j)):=.m (.I (.V h1) h2 (k8 h hl))
theorem zhr{s:Sg}{es:List Nat}{ns after:List Int}{R:zx}{i:Nat}{o:Int}(A:AtR s es ns after R)(h1:s "here"=some (nD i))(h2:s "out"=some (.int o))(he:i<es.length)(hn:i<ns.length)(le:es.length≤100)(ln:ns.length≤100)(la:after.length≤100)(lR:R.length≤100)(hR:zr R (256+(i:Int))=none){Q:Sg→Fl→Prop}
  (q:∀ s,AtR s es ns (after++[o]) (R++[(256+(i:Int),ns.getD i 0::zdk (m3 ns) i o (k7 es (m3 ns) i o))])→Q s .next):
  To (qS (lS "after" (vE "out")) (qS (aS "inner" (fE (qT .Gt (jE (vE "ends") (vE "here")) (oE .Add (vE "here") (nE 1))) (oE .Add (nE 257) (vE "here")) (fE (qT .Eq (oE .Mod (jE (vE "numbers") (vE "here")) (nE 3)) (nE 2)) (oE .Add (nE 256) (vE "here")) (vE "out")))) (xS "rules" (oE .Add (nE 256) (vE "here")) (fE (bT (cB true (qT .NotEq (oE .Mod (jE (vE "numbers") (vE "here")) (nE 3)) (nE 0)) (cB true (qT .NotEq (vE "inner") (vE "out")) (nB true)))) (lE (cL (jE (vE "numbers") (vE "here")) (cL (vE "out") (cL (vE "inner") nL)))) (lE (cL (jE (vE "numbers") (vE "here")) (cL (vE "inner") nL))))))) s Q:=
 .mk (.Q (zpq A.after (.V h2) (le_trans la (by decide))) (.Q (.A (.dec (f:=.int) (c:=i+1<es.getD i 0) (.Q (.I (.V A.ends) (.V h1) (wR he le)) (.O (.V h1) .C (qO i)) (zhm ..)) (fun z=>.O .C (.V h1) rfl) fun z=>.bo (f:=.int) (.Q (.m3 A.nums (.V h1) hn ln) .C rfl) (fun z=>.O .C (.V h1) rfl) fun z=>.V h2))
  (.X (.bo (f:=fun l=>iL (ns.getD i 0::l)) (u:=[o,k7 es (m3 ns) i o]) (v:=[k7 es (m3 ns) i o]) (c:=(!(m3 ns i==0))&& !(k7 es (m3 ns) i o==o)) (.B (.A (.Q (.m3 A.nums (.V h1) hn ln) .C rfl) fun z=>Bool.and_true (!(k7 es (m3 ns) i o==o))▸RB.A (.Q (.V rfl) (.V h2) rfl) fun z=>.N))
   (fun z=>.L (l:=[.int (ns.getD i 0),.int o,.int (k7 es (m3 ns) i o)]) (.C (.I (.V A.nums) (.V h1) (k8 hn ln)) (.C (.V h2) (.C (.V rfl) .N)))) fun z=>.L (l:=[.int (ns.getD i 0),.int (k7 es (m3 ns) i o)]) (.C (.I (.V A.nums) (.V h1) (k8 hn ln)) (.C (.V rfl) .N))) (.O .C (.V h1) rfl) A.rules (b7 hR (le_trans lR (by decide))))))
  (q _ ⟨A.ends,A.nums,rfl,rfl⟩)
theorem zyJ{s:Sg}{es:List Nat}{ns after:List Int}{R:zx}{i:Nat}(A:AtR s es ns after R)(he:i<es.length)(hn:i<ns.length)(le:es.length≤100)(ln:ns.length≤100)(la:after.length=i)(lR:R.length≤100)(hR:zr R (256+(i:Int))=none){Q:Sg→Fl→Prop}
  (q:∀ s,AtR s es ns (after++[zgw es (m3 ns) after i]) (R++[(256+(i:Int),ns.getD i 0::zdk (m3 ns) i (zgw es (m3 ns) after i) (k7 es (m3 ns) i (zgw es (m3 ns) after i)))])→Q s .next):To xU (upd s "here" (nD i)) Q:=
 have la':after.length≤100:=la▸le_trans (le_of_lt he) le
 .S (.A (zdw A.ends rfl he le)) (.S (.A (.O .C (.I (.V A.ends) (.V rfl) (wR he le)) rfl))
 (.SS (P:=fun s=>AtR s es ns after R∧s "here"=some (nD i)∧s "out"=some (.int (zgw es (m3 ns) after i))) (.I (p:=znF es i) (.Q (.I (.V A.ends) (.V rfl) (wR he le)) (znk A.ends rfl he le) rfl) (fun o=>
   .mk (.A (.bo (f:=.int) (.Q (.V rfl) (.L .N) (zhn _)) (fun y=>.C) fun hem=>
    have hne:qI es i≠[]:=fun q=>by rw [q] at hem;cases hem
    have hj:(qI es i).getLastD 0<i:=zjt (by rw [List.getLastD_eq_getLast?,List.getLast?_eq_some_getLast hne];exact List.getLast_mem hne)
    .bo (f:=.int) (.Q (.m3 A.nums (.I (.V rfl) .C (zzb hne)) (Nat.lt_trans hj hn) ln) .C rfl) (fun y=>.O .C (.I (.V rfl) .C (zzb hne)) rfl) fun y=>.I (.V A.after) (.I (.V rfl) .C (zzb hne)) (k8 (la▸hj) la')))
   ⟨rfl,⟨A.ends,A.nums,A.after,A.rules⟩,rfl,congrArg (fun z=>some (D.int z)) (if_pos o:zgw es (m3 ns) after i=_).symm⟩) fun o=>.mk .P ⟨rfl,⟨A.ends,A.nums,A.after,A.rules⟩,rfl,congrArg (fun z=>some (D.int z)) (if_neg (ne_true_of_eq_false o):zgw es (m3 ns) after i=_).symm⟩)
  fun s B=>zhr B.1 B.2.1 B.2.2 he hn le ln la' lR hR q))
end
section
noncomputable def zwB(es:List Nat)(m:Nat→Int)(st:List Int × zx)(i:Nat):List Int × zx:=
 (st.1++[zgw es m st.1 i],st.2++[(256+(i:Int),zdk m i (zgw es m st.1 i) (k7 es m i (zgw es m st.1 i)))])
noncomputable def wT(es:List Nat)(m:Nat→Int):zx:=([0,1,2,3].foldl (zwB es m) ([],[(0,[256])])).2
noncomputable def zqq(ns:List Int)(W:zx):zx:=W.map fun p=>if p.1=0 then p else (p.1,ns.getD (p.1 - 256).toNat 0::p.2)
noncomputable def zjl(es:List Nat)(ns:List Int):zx:=zqq ns (wT es (m3 ns))
theorem zwD{r:zx}{k:Int}(h:k∉r.map (fun z=>z.1)):zr r k=none:=map_eq_none_iff.mpr (find?_eq_none.mpr fun p m e=>h (mem_map.mpr ⟨p,m,of_decide_eq_true e⟩))
theorem zjc(ns:List Int)(W:zx):(zqq ns W).map (fun z=>z.1)=W.map (fun z=>z.1):=by
 unfold zqq;rw [map_map];exact map_congr_left fun p z=>by show (if p.1=0 then p else _).1=_;split<;>rfl
theorem zgv(ns:List Int)(W:zx)(i:Nat)(w:List Int):zqq ns (W++[(256+(i:Int),w)])=zqq ns W++[(256+(i:Int),ns.getD i 0::w)]:=by
 unfold zqq;rw [map_append];have e:(256+(i:Int) - 256).toNat=i:=by rw [Int.add_comm,Int.add_sub_cancel];rfl
 have n:¬ 256+(i:Int)=0:=by omega
 exact congrArg (fun z=>List.map _ W++[z]) ((if_neg n).trans (by rw [e]))
theorem zdu(n:Nat):(256+(n:Int))∉0::(List.range n).map (fun i:Nat=>256+(i:Int)):=fun m=>(mem_cons.mp m).elim (fun e=>by omega) fun m=>
 (mem_map.mp m).elim fun j h=>lt_irrefl n (lt_of_le_of_lt (le_of_eq (ofNat.inj (Int.add_left_cancel h.2)).symm) (mem_range.mp h.1))
def znx(es:List Nat)(ns:List Int)(r:List Nat)(s:Sg):Prop:=∃ d st,d++r=List.range 4∧d.foldl (zwB es (m3 ns)) ([],[(0,[256])])=st∧st.1.length=d.length∧st.2.map (fun z=>z.1)=0::(List.range d.length).map (fun i:Nat=>256+(i:Int))∧AtR s es ns st.1 (zqq ns st.2)
theorem zdg{es:List Nat}{ns:List Int}(he:es.length=4)(hn:ns.length=4)(i:Nat)(r:List Nat)(s:Sg)(x:znx es ns (i::r) s):To xU (upd s "here" (nD i)) fun s f=>f= .next∧znx es ns r s:=
 X25 x fun d st e1 e2 e3 e4 A=>X11 (List.getElem?_eq_some_iff.mp (e1▸(List.getElem?_append_right (le_refl _)).trans (by rw [sub_self];rfl):(List.range 4)[d.length]? =some i)) fun h q=>by
 have ei:i=d.length:=q.symm.trans (List.getElem_range ..);have hi:d.length<4:=by rw [length_range] at h;exact h
 have hl:(zqq ns st.2).length≤100:=by
  have:=congrArg List.length e4;rw [length_map,length_cons,length_map,length_range] at this;exact le_trans (le_of_eq ((length_map ..).trans this)) (le_trans hi (by decide))
 subst ei
 exact zyJ A (he▸hi) (hn▸hi) (he▸by decide) (hn▸by decide) e3 hl (zwD (by rw [zjc,e4];exact zdu _)) fun s A=>⟨rfl,d++[d.length],zwB es (m3 ns) st d.length,(append_assoc ..).trans e1,(foldl_append ..).trans (congrArg (fun z=>zwB es (m3 ns) z d.length) e2),by
    rw [length_append, ←e3];exact length_append,by
    rw [length_append,length_singleton,List.range_succ,map_append];exact map_append.trans (congrArg (· ++[256+(d.length:Int)]) e4),(zgv ns st.2 d.length _).symm▸A⟩
theorem zdp{es:List Nat}{ns:List Int}(he:es.length=4)(hn:ns.length=4):fnC x15 182 ["ends","numbers"] ["after","rules"] [cD es,iL ns]=some (zt (zjl es ns)):=
 RS.loop (emb:=nD) (bd:=fun i s=>upd s "here" (nD i)) (b:=xU) (t:=.Name "here" default) (i:=rI (cL (nE 4) nL)) (l:=List.range 4) (Inv:=znx es ns)
  (s:=upd (upd (par ["ends","numbers"] [cD es,iL ns]) "after" (.list [])) "rules" (zt [(0,[256])])) (.R (.C .C .N) rfl) (fun y y=>rfl) (zdg he hn)
  ⟨[],_,rfl,rfl,rfl,rfl,rfl,rfl,rfl,rfl⟩ fun s j1 j2=>X25 j2 fun d st e1 e2 y y A=>
 zb1 (.Q (.Ds (.C (.L .N) (.O (.Di (.C .C .N) (.C (.L (.C .C .N)) .N) rfl) ⟨rfl,rfl,rfl,by decide+kernel⟩ .N))) (.Q j1 (.R (.V (A.rules.trans (congrArg (fun z=>some (zt (zqq ns z.2))) (e2.symm.trans (congrArg (foldl (zwB es (m3 ns)) ([],[(0,[256])])) ((append_nil d).symm.trans e1)))))))))
noncomputable def zX(W:zx):List Int:=W.flatMap fun p=>(p.2.filter z0).map fun w=>512 *p.1+w
noncomputable def zzd(r:zx):Bool:=zy.all fun t=>match zr r t with
 |some p=>decide (p.length≤20)
 |none=>false
noncomputable def zhs(W:zx)(t:Nat):Bool:=match zqA W 60 0 t [] with
 |some made=>kn 0 made&&decide (made.length≤60)
 |none=>false
noncomputable def zjo:List Int→Bool
 |[]=>true
 |a::l=> !l.contains a&&zjo l
noncomputable def yz(W:zx):Bool:=
 decide (W.map (fun z=>z.1)=zy)&&W.all (fun p=> !p.2.isEmpty&&p.2.all z0&&decide (p.2.length≤10))&&zjo (zX W)&&decide ((zX W).length≤9)&&
 (zX W).all (fun s=>decide (0<s)&&decide (s<1000000)&&zy.contains (s.fdiv 512)&&zy.contains (s.fmod 512))&&
 zzd (zv (zX W) 0 [1])&&zzd (zv (zX W) 0 [-1])&&(List.range 16).all (zhs W)
noncomputable def mOf(l:List Int)(j:Nat):Int:=l.getD j 0
noncomputable def M3:List Int:=[0,1,2]
noncomputable def M81:List (List Int):=M3.flatMap fun a=>M3.flatMap fun b=>M3.flatMap fun c=>M3.map fun d=>[a,b,c,d]
end
section
noncomputable def GR:List zx:=[[(0,[256]),(256,[257]),(257,[258]),(258,[259]),(259,[0])],[(0,[256]),(256,[257]),(257,[258]),(258,[259]),(259,[0,259])],[(0,[256]),(256,[257]),(257,[258]),(258,[259,258]),(259,[0])],[(0,[256]),(256,[257]),(257,[258]),(258,[259,258]),(259,[0,259])],[(0,[256]),(256,[257]),(257,[258,257]),(258,[259]),(259,[0])],[(0,[256]),(256,[257]),(257,[258,257]),(258,[259]),(259,[0,259])],[(0,[256]),(256,[257]),(257,[258,257]),(258,[259,258]),(259,[0])],[(0,[256]),(256,[257]),(257,[258,257]),(258,[259,258]),(259,[0,259])],[(0,[256]),(256,[257,256]),(257,[258]),(258,[259]),(259,[0])],[(0,[256]),(256,[257,256]),(257,[258]),(258,[259]),(259,[0,259])],[(0,[256]),(256,[257,256]),(257,[258]),(258,[259,258]),(259,[0])],[(0,[256]),(256,[257,256]),(257,[258]),(258,[259,258]),(259,[0,259])],[(0,[256]),(256,[257,256]),(257,[258,257]),(258,[259]),(259,[0])],[(0,[256]),(256,[257,256]),(257,[258,257]),(258,[259]),(259,[0,259])],[(0,[256]),(256,[257,256]),(257,[258,257]),(258,[259,258]),(259,[0])],[(0,[256]),(256,[257,256]),(257,[258,257]),(258,[259,258]),(259,[0,259])],[(0,[256]),(256,[257]),(257,[258]),(258,[0,259]),(259,[0])],[(0,[256]),(256,[257]),(257,[258]),(258,[0,259]),(259,[0,259])],[(0,[256]),(256,[257]),(257,[258]),(258,[0,259]),(259,[258])],[(0,[256]),(256,[257]),(257,[258]),(258,[0,259]),(259,[258,259])],[(0,[256]),(256,[257]),(257,[258,257]),(258,[0,259]),(259,[0])],[(0,[256]),(256,[257]),(257,[258,257]),(258,[0,259]),(259,[0,259])],[(0,[256]),(256,[257]),(257,[258,257]),(258,[0,259]),(259,[258])],[(0,[256]),(256,[257]),(257,[258,257]),(258,[0,259]),(259,[258,259])],[(0,[256]),(256,[257,256]),(257,[258]),(258,[0,259]),(259,[0])],[(0,[256]),(256,[257,256]),(257,[258]),(258,[0,259]),(259,[0,259])],[(0,[256]),(256,[257,256]),(257,[258]),(258,[0,259]),(259,[258])],[(0,[256]),(256,[257,256]),(257,[258]),(258,[0,259]),(259,[258,259])],[(0,[256]),(256,[257,256]),(257,[258,257]),(258,[0,259]),(259,[0])],[(0,[256]),(256,[257,256]),(257,[258,257]),(258,[0,259]),(259,[0,259])],[(0,[256]),(256,[257,256]),(257,[258,257]),(258,[0,259]),(259,[258])],[(0,[256]),(256,[257,256]),(257,[258,257]),(258,[0,259]),(259,[258,259])],[(0,[256]),(256,[257]),(257,[259,258]),(258,[259]),(259,[0])],[(0,[256]),(256,[257]),(257,[259,258]),(258,[259]),(259,[0,259])],[(0,[256]),(256,[257]),(257,[259,258]),(258,[259,258]),(259,[0])],[(0,[256]),(256,[257]),(257,[259,258]),(258,[259,258]),(259,[0,259])],[(0,[256]),(256,[257]),(257,[259,258]),(258,[257]),(259,[0])],[(0,[256]),(256,[257]),(257,[259,258]),(258,[257]),(259,[0,259])],[(0,[256]),(256,[257]),(257,[259,258]),(258,[257,258]),(259,[0])],[(0,[256]),(256,[257]),(257,[259,258]),(258,[257,258]),(259,[0,259])],[(0,[256]),(256,[257,256]),(257,[259,258]),(258,[259]),(259,[0])],[(0,[256]),(256,[257,256]),(257,[259,258]),(258,[259]),(259,[0,259])],[(0,[256]),(256,[257,256]),(257,[259,258]),(258,[259,258]),(259,[0])],[(0,[256]),(256,[257,256]),(257,[259,258]),(258,[259,258]),(259,[0,259])],[(0,[256]),(256,[257,256]),(257,[259,258]),(258,[257]),(259,[0])],[(0,[256]),(256,[257,256]),(257,[259,258]),(258,[257]),(259,[0,259])],[(0,[256]),(256,[257,256]),(257,[259,258]),(258,[257,258]),(259,[0])],[(0,[256]),(256,[257,256]),(257,[259,258]),(258,[257,258]),(259,[0,259])],[(0,[256]),(256,[257]),(257,[0,258]),(258,[259]),(259,[0])],[(0,[256]),(256,[257]),(257,[0,258]),(258,[259]),(259,[0,259])],[(0,[256]),(256,[257]),(257,[0,258]),(258,[259,258]),(259,[0])],[(0,[256]),(256,[257]),(257,[0,258]),(258,[259,258]),(259,[0,259])],[(0,[256]),(256,[257]),(257,[0,258]),(258,[259]),(259,[257])],[(0,[256]),(256,[257]),(257,[0,258]),(258,[259]),(259,[257,259])],[(0,[256]),(256,[257]),(257,[0,258]),(258,[259,258]),(259,[257])],[(0,[256]),(256,[257]),(257,[0,258]),(258,[259,258]),(259,[257,259])],[(0,[256]),(256,[257,256]),(257,[0,258]),(258,[259]),(259,[0])],[(0,[256]),(256,[257,256]),(257,[0,258]),(258,[259]),(259,[0,259])],[(0,[256]),(256,[257,256]),(257,[0,258]),(258,[259,258]),(259,[0])],[(0,[256]),(256,[257,256]),(257,[0,258]),(258,[259,258]),(259,[0,259])],[(0,[256]),(256,[257,256]),(257,[0,258]),(258,[259]),(259,[257])],[(0,[256]),(256,[257,256]),(257,[0,258]),(258,[259]),(259,[257,259])],[(0,[256]),(256,[257,256]),(257,[0,258]),(258,[259,258]),(259,[257])],[(0,[256]),(256,[257,256]),(257,[0,258]),(258,[259,258]),(259,[257,259])],[(0,[256]),(256,[257]),(257,[0,258]),(258,[0,259]),(259,[0])],[(0,[256]),(256,[257]),(257,[0,258]),(258,[0,259]),(259,[0,259])],[(0,[256]),(256,[257]),(257,[0,258]),(258,[0,259]),(259,[258])],[(0,[256]),(256,[257]),(257,[0,258]),(258,[0,259]),(259,[258,259])],[(0,[256]),(256,[257]),(257,[0,258]),(258,[257,259]),(259,[257])],[(0,[256]),(256,[257]),(257,[0,258]),(258,[257,259]),(259,[257,259])],[(0,[256]),(256,[257]),(257,[0,258]),(258,[257,259]),(259,[258])],[(0,[256]),(256,[257]),(257,[0,258]),(258,[257,259]),(259,[258,259])],[(0,[256]),(256,[257,256]),(257,[0,258]),(258,[0,259]),(259,[0])],[(0,[256]),(256,[257,256]),(257,[0,258]),(258,[0,259]),(259,[0,259])],[(0,[256]),(256,[257,256]),(257,[0,258]),(258,[0,259]),(259,[258])],[(0,[256]),(256,[257,256]),(257,[0,258]),(258,[0,259]),(259,[258,259])],[(0,[256]),(256,[257,256]),(257,[0,258]),(258,[257,259]),(259,[257])],[(0,[256]),(256,[257,256]),(257,[0,258]),(258,[257,259]),(259,[257,259])],[(0,[256]),(256,[257,256]),(257,[0,258]),(258,[257,259]),(259,[258])],[(0,[256]),(256,[257,256]),(257,[0,258]),(258,[257,259]),(259,[258,259])],[(0,[256]),(256,[258,257]),(257,[258]),(258,[259]),(259,[0])],[(0,[256]),(256,[258,257]),(257,[258]),(258,[259]),(259,[0,259])],[(0,[256]),(256,[258,257]),(257,[258]),(258,[259,258]),(259,[0])],[(0,[256]),(256,[258,257]),(257,[258]),(258,[259,258]),(259,[0,259])],[(0,[256]),(256,[258,257]),(257,[258,257]),(258,[259]),(259,[0])],[(0,[256]),(256,[258,257]),(257,[258,257]),(258,[259]),(259,[0,259])],[(0,[256]),(256,[258,257]),(257,[258,257]),(258,[259,258]),(259,[0])],[(0,[256]),(256,[258,257]),(257,[258,257]),(258,[259,258]),(259,[0,259])],[(0,[256]),(256,[258,257]),(257,[256]),(258,[259]),(259,[0])],[(0,[256]),(256,[258,257]),(257,[256]),(258,[259]),(259,[0,259])],[(0,[256]),(256,[258,257]),(257,[256]),(258,[259,258]),(259,[0])],[(0,[256]),(256,[258,257]),(257,[256]),(258,[259,258]),(259,[0,259])],[(0,[256]),(256,[258,257]),(257,[256,257]),(258,[259]),(259,[0])],[(0,[256]),(256,[258,257]),(257,[256,257]),(258,[259]),(259,[0,259])],[(0,[256]),(256,[258,257]),(257,[256,257]),(258,[259,258]),(259,[0])],[(0,[256]),(256,[258,257]),(257,[256,257]),(258,[259,258]),(259,[0,259])],[(0,[256]),(256,[258,257]),(257,[258]),(258,[0,259]),(259,[0])],[(0,[256]),(256,[258,257]),(257,[258]),(258,[0,259]),(259,[0,259])],[(0,[256]),(256,[258,257]),(257,[258]),(258,[0,259]),(259,[258])],[(0,[256]),(256,[258,257]),(257,[258]),(258,[0,259]),(259,[258,259])],[(0,[256]),(256,[258,257]),(257,[258,257]),(258,[0,259]),(259,[0])],[(0,[256]),(256,[258,257]),(257,[258,257]),(258,[0,259]),(259,[0,259])],[(0,[256]),(256,[258,257]),(257,[258,257]),(258,[0,259]),(259,[258])],[(0,[256]),(256,[258,257]),(257,[258,257]),(258,[0,259]),(259,[258,259])],[(0,[256]),(256,[258,257]),(257,[256]),(258,[0,259]),(259,[0])],[(0,[256]),(256,[258,257]),(257,[256]),(258,[0,259]),(259,[0,259])],[(0,[256]),(256,[258,257]),(257,[256]),(258,[0,259]),(259,[258])],[(0,[256]),(256,[258,257]),(257,[256]),(258,[0,259]),(259,[258,259])],[(0,[256]),(256,[258,257]),(257,[256,257]),(258,[0,259]),(259,[0])],[(0,[256]),(256,[258,257]),(257,[256,257]),(258,[0,259]),(259,[0,259])],[(0,[256]),(256,[258,257]),(257,[256,257]),(258,[0,259]),(259,[258])],[(0,[256]),(256,[258,257]),(257,[256,257]),(258,[0,259]),(259,[258,259])],[(0,[256]),(256,[259,257]),(257,[258]),(258,[259]),(259,[0])],[(0,[256]),(256,[259,257]),(257,[258]),(258,[259]),(259,[0,259])],[(0,[256]),(256,[259,257]),(257,[258]),(258,[259,258]),(259,[0])],[(0,[256]),(256,[259,257]),(257,[258]),(258,[259,258]),(259,[0,259])],[(0,[256]),(256,[259,257]),(257,[258,257]),(258,[259]),(259,[0])],[(0,[256]),(256,[259,257]),(257,[258,257]),(258,[259]),(259,[0,259])],[(0,[256]),(256,[259,257]),(257,[258,257]),(258,[259,258]),(259,[0])],[(0,[256]),(256,[259,257]),(257,[258,257]),(258,[259,258]),(259,[0,259])],[(0,[256]),(256,[259,257]),(257,[258]),(258,[256]),(259,[0])],[(0,[256]),(256,[259,257]),(257,[258]),(258,[256]),(259,[0,259])],[(0,[256]),(256,[259,257]),(257,[258]),(258,[256,258]),(259,[0])],[(0,[256]),(256,[259,257]),(257,[258]),(258,[256,258]),(259,[0,259])],[(0,[256]),(256,[259,257]),(257,[258,257]),(258,[256]),(259,[0])],[(0,[256]),(256,[259,257]),(257,[258,257]),(258,[256]),(259,[0,259])],[(0,[256]),(256,[259,257]),(257,[258,257]),(258,[256,258]),(259,[0])],[(0,[256]),(256,[259,257]),(257,[258,257]),(258,[256,258]),(259,[0,259])],[(0,[256]),(256,[259,257]),(257,[259,258]),(258,[259]),(259,[0])],[(0,[256]),(256,[259,257]),(257,[259,258]),(258,[259]),(259,[0,259])],[(0,[256]),(256,[259,257]),(257,[259,258]),(258,[259,258]),(259,[0])],[(0,[256]),(256,[259,257]),(257,[259,258]),(258,[259,258]),(259,[0,259])],[(0,[256]),(256,[259,257]),(257,[259,258]),(258,[257]),(259,[0])],[(0,[256]),(256,[259,257]),(257,[259,258]),(258,[257]),(259,[0,259])],[(0,[256]),(256,[259,257]),(257,[259,258]),(258,[257,258]),(259,[0])],[(0,[256]),(256,[259,257]),(257,[259,258]),(258,[257,258]),(259,[0,259])],[(0,[256]),(256,[259,257]),(257,[256,258]),(258,[256]),(259,[0])],[(0,[256]),(256,[259,257]),(257,[256,258]),(258,[256]),(259,[0,259])],[(0,[256]),(256,[259,257]),(257,[256,258]),(258,[256,258]),(259,[0])],[(0,[256]),(256,[259,257]),(257,[256,258]),(258,[256,258]),(259,[0,259])],[(0,[256]),(256,[259,257]),(257,[256,258]),(258,[257]),(259,[0])],[(0,[256]),(256,[259,257]),(257,[256,258]),(258,[257]),(259,[0,259])],[(0,[256]),(256,[259,257]),(257,[256,258]),(258,[257,258]),(259,[0])],[(0,[256]),(256,[259,257]),(257,[256,258]),(258,[257,258]),(259,[0,259])],[(0,[256]),(256,[0,257]),(257,[258]),(258,[259]),(259,[0])],[(0,[256]),(256,[0,257]),(257,[258]),(258,[259]),(259,[0,259])],[(0,[256]),(256,[0,257]),(257,[258]),(258,[259,258]),(259,[0])],[(0,[256]),(256,[0,257]),(257,[258]),(258,[259,258]),(259,[0,259])],[(0,[256]),(256,[0,257]),(257,[258,257]),(258,[259]),(259,[0])],[(0,[256]),(256,[0,257]),(257,[258,257]),(258,[259]),(259,[0,259])],[(0,[256]),(256,[0,257]),(257,[258,257]),(258,[259,258]),(259,[0])],[(0,[256]),(256,[0,257]),(257,[258,257]),(258,[259,258]),(259,[0,259])],[(0,[256]),(256,[0,257]),(257,[258]),(258,[259]),(259,[256])],[(0,[256]),(256,[0,257]),(257,[258]),(258,[259]),(259,[256,259])],[(0,[256]),(256,[0,257]),(257,[258]),(258,[259,258]),(259,[256])],[(0,[256]),(256,[0,257]),(257,[258]),(258,[259,258]),(259,[256,259])],[(0,[256]),(256,[0,257]),(257,[258,257]),(258,[259]),(259,[256])],[(0,[256]),(256,[0,257]),(257,[258,257]),(258,[259]),(259,[256,259])],[(0,[256]),(256,[0,257]),(257,[258,257]),(258,[259,258]),(259,[256])],[(0,[256]),(256,[0,257]),(257,[258,257]),(258,[259,258]),(259,[256,259])],[(0,[256]),(256,[0,257]),(257,[258]),(258,[0,259]),(259,[0])],[(0,[256]),(256,[0,257]),(257,[258]),(258,[0,259]),(259,[0,259])],[(0,[256]),(256,[0,257]),(257,[258]),(258,[0,259]),(259,[258])],[(0,[256]),(256,[0,257]),(257,[258]),(258,[0,259]),(259,[258,259])],[(0,[256]),(256,[0,257]),(257,[258,257]),(258,[0,259]),(259,[0])],[(0,[256]),(256,[0,257]),(257,[258,257]),(258,[0,259]),(259,[0,259])],[(0,[256]),(256,[0,257]),(257,[258,257]),(258,[0,259]),(259,[258])],[(0,[256]),(256,[0,257]),(257,[258,257]),(258,[0,259]),(259,[258,259])],[(0,[256]),(256,[0,257]),(257,[258]),(258,[256,259]),(259,[256])],[(0,[256]),(256,[0,257]),(257,[258]),(258,[256,259]),(259,[256,259])],[(0,[256]),(256,[0,257]),(257,[258]),(258,[256,259]),(259,[258])],[(0,[256]),(256,[0,257]),(257,[258]),(258,[256,259]),(259,[258,259])],[(0,[256]),(256,[0,257]),(257,[258,257]),(258,[256,259]),(259,[256])],[(0,[256]),(256,[0,257]),(257,[258,257]),(258,[256,259]),(259,[256,259])],[(0,[256]),(256,[0,257]),(257,[258,257]),(258,[256,259]),(259,[258])],[(0,[256]),(256,[0,257]),(257,[258,257]),(258,[256,259]),(259,[258,259])],[(0,[256]),(256,[0,257]),(257,[259,258]),(258,[259]),(259,[0])],[(0,[256]),(256,[0,257]),(257,[259,258]),(258,[259]),(259,[0,259])],[(0,[256]),(256,[0,257]),(257,[259,258]),(258,[259,258]),(259,[0])],[(0,[256]),(256,[0,257]),(257,[259,258]),(258,[259,258]),(259,[0,259])],[(0,[256]),(256,[0,257]),(257,[259,258]),(258,[257]),(259,[0])],[(0,[256]),(256,[0,257]),(257,[259,258]),(258,[257]),(259,[0,259])],[(0,[256]),(256,[0,257]),(257,[259,258]),(258,[257,258]),(259,[0])],[(0,[256]),(256,[0,257]),(257,[259,258]),(258,[257,258]),(259,[0,259])],[(0,[256]),(256,[0,257]),(257,[259,258]),(258,[259]),(259,[256])],[(0,[256]),(256,[0,257]),(257,[259,258]),(258,[259]),(259,[256,259])],[(0,[256]),(256,[0,257]),(257,[259,258]),(258,[259,258]),(259,[256])],[(0,[256]),(256,[0,257]),(257,[259,258]),(258,[259,258]),(259,[256,259])],[(0,[256]),(256,[0,257]),(257,[259,258]),(258,[257]),(259,[256])],[(0,[256]),(256,[0,257]),(257,[259,258]),(258,[257]),(259,[256,259])],[(0,[256]),(256,[0,257]),(257,[259,258]),(258,[257,258]),(259,[256])],[(0,[256]),(256,[0,257]),(257,[259,258]),(258,[257,258]),(259,[256,259])],[(0,[256]),(256,[0,257]),(257,[0,258]),(258,[259]),(259,[0])],[(0,[256]),(256,[0,257]),(257,[0,258]),(258,[259]),(259,[0,259])],[(0,[256]),(256,[0,257]),(257,[0,258]),(258,[259,258]),(259,[0])],[(0,[256]),(256,[0,257]),(257,[0,258]),(258,[259,258]),(259,[0,259])],[(0,[256]),(256,[0,257]),(257,[0,258]),(258,[259]),(259,[257])],[(0,[256]),(256,[0,257]),(257,[0,258]),(258,[259]),(259,[257,259])],[(0,[256]),(256,[0,257]),(257,[0,258]),(258,[259,258]),(259,[257])],[(0,[256]),(256,[0,257]),(257,[0,258]),(258,[259,258]),(259,[257,259])],[(0,[256]),(256,[0,257]),(257,[256,258]),(258,[259]),(259,[256])],[(0,[256]),(256,[0,257]),(257,[256,258]),(258,[259]),(259,[256,259])],[(0,[256]),(256,[0,257]),(257,[256,258]),(258,[259,258]),(259,[256])],[(0,[256]),(256,[0,257]),(257,[256,258]),(258,[259,258]),(259,[256,259])],[(0,[256]),(256,[0,257]),(257,[256,258]),(258,[259]),(259,[257])],[(0,[256]),(256,[0,257]),(257,[256,258]),(258,[259]),(259,[257,259])],[(0,[256]),(256,[0,257]),(257,[256,258]),(258,[259,258]),(259,[257])],[(0,[256]),(256,[0,257]),(257,[256,258]),(258,[259,258]),(259,[257,259])],[(0,[256]),(256,[0,257]),(257,[0,258]),(258,[0,259]),(259,[0])],[(0,[256]),(256,[0,257]),(257,[0,258]),(258,[0,259]),(259,[0,259])],[(0,[256]),(256,[0,257]),(257,[0,258]),(258,[0,259]),(259,[258])],[(0,[256]),(256,[0,257]),(257,[0,258]),(258,[0,259]),(259,[258,259])],[(0,[256]),(256,[0,257]),(257,[0,258]),(258,[257,259]),(259,[257])],[(0,[256]),(256,[0,257]),(257,[0,258]),(258,[257,259]),(259,[257,259])],[(0,[256]),(256,[0,257]),(257,[0,258]),(258,[257,259]),(259,[258])],[(0,[256]),(256,[0,257]),(257,[0,258]),(258,[257,259]),(259,[258,259])],[(0,[256]),(256,[0,257]),(257,[256,258]),(258,[256,259]),(259,[256])],[(0,[256]),(256,[0,257]),(257,[256,258]),(258,[256,259]),(259,[256,259])],[(0,[256]),(256,[0,257]),(257,[256,258]),(258,[256,259]),(259,[258])],[(0,[256]),(256,[0,257]),(257,[256,258]),(258,[256,259]),(259,[258,259])],[(0,[256]),(256,[0,257]),(257,[256,258]),(258,[257,259]),(259,[257])],[(0,[256]),(256,[0,257]),(257,[256,258]),(258,[257,259]),(259,[257,259])],[(0,[256]),(256,[0,257]),(257,[256,258]),(258,[257,259]),(259,[258])],[(0,[256]),(256,[0,257]),(257,[256,258]),(258,[257,259]),(259,[258,259])]]
noncomputable def IDX:List Nat:=[0,0,1,0,0,1,2,2,3,0,0,1,0,0,1,2,2,3,4,4,5,4,4,5,6,6,7,0,0,1,0,0,1,2,2,3,0,0,1,0,0,1,2,2,3,4,4,5,4,4,5,6,6,7,8,8,9,8,8,9,10,10,11,8,8,9,8,8,9,10,10,11,12,12,13,12,12,13,14,14,15,0,0,1,16,16,17,18,18,19,0,0,1,16,16,17,18,18,19,4,4,5,20,20,21,22,22,23,0,0,1,16,16,17,18,18,19,0,0,1,16,16,17,18,18,19,4,4,5,20,20,21,22,22,23,8,8,9,24,24,25,26,26,27,8,8,9,24,24,25,26,26,27,12,12,13,28,28,29,30,30,31,0,0,1,0,0,1,2,2,3,32,32,33,32,32,33,34,34,35,36,36,37,36,36,37,38,38,39,0,0,1,0,0,1,2,2,3,32,32,33,32,32,33,34,34,35,36,36,37,36,36,37,38,38,39,8,8,9,8,8,9,10,10,11,40,40,41,40,40,41,42,42,43,44,44,45,44,44,45,46,46,47,0,0,1,0,0,1,2,2,3,48,48,49,48,48,49,50,50,51,52,52,53,52,52,53,54,54,55,0,0,1,0,0,1,2,2,3,48,48,49,48,48,49,50,50,51,52,52,53,52,52,53,54,54,55,8,8,9,8,8,9,10,10,11,56,56,57,56,56,57,58,58,59,60,60,61,60,60,61,62,62,63,0,0,1,16,16,17,18,18,19,48,48,49,64,64,65,66,66,67,52,52,53,68,68,69,70,70,71,0,0,1,16,16,17,18,18,19,48,48,49,64,64,65,66,66,67,52,52,53,68,68,69,70,70,71,8,8,9,24,24,25,26,26,27,56,56,57,72,72,73,74,74,75,60,60,61,76,76,77,78,78,79,0,0,1,0,0,1,2,2,3,0,0,1,0,0,1,2,2,3,4,4,5,4,4,5,6,6,7,80,80,81,80,80,81,82,82,83,80,80,81,80,80,81,82,82,83,84,84,85,84,84,85,86,86,87,88,88,89,88,88,89,90,90,91,88,88,89,88,88,89,90,90,91,92,92,93,92,92,93,94,94,95,0,0,1,16,16,17,18,18,19,0,0,1,16,16,17,18,18,19,4,4,5,20,20,21,22,22,23,80,80,81,96,96,97,98,98,99,80,80,81,96,96,97,98,98,99,84,84,85,100,100,101,102,102,103,88,88,89,104,104,105,106,106,107,88,88,89,104,104,105,106,106,107,92,92,93,108,108,109,110,110,111,0,0,1,0,0,1,2,2,3,0,0,1,0,0,1,2,2,3,4,4,5,4,4,5,6,6,7,112,112,113,112,112,113,114,114,115,112,112,113,112,112,113,114,114,115,116,116,117,116,116,117,118,118,119,120,120,121,120,120,121,122,122,123,120,120,121,120,120,121,122,122,123,124,124,125,124,124,125,126,126,127,0,0,1,0,0,1,2,2,3,32,32,33,32,32,33,34,34,35,36,36,37,36,36,37,38,38,39,112,112,113,112,112,113,114,114,115,128,128,129,128,128,129,130,130,131,132,132,133,132,132,133,134,134,135,120,120,121,120,120,121,122,122,123,136,136,137,136,136,137,138,138,139,140,140,141,140,140,141,142,142,143,0,0,1,0,0,1,2,2,3,0,0,1,0,0,1,2,2,3,4,4,5,4,4,5,6,6,7,144,144,145,144,144,145,146,146,147,144,144,145,144,144,145,146,146,147,148,148,149,148,148,149,150,150,151,152,152,153,152,152,153,154,154,155,152,152,153,152,152,153,154,154,155,156,156,157,156,156,157,158,158,159,0,0,1,16,16,17,18,18,19,0,0,1,16,16,17,18,18,19,4,4,5,20,20,21,22,22,23,144,144,145,160,160,161,162,162,163,144,144,145,160,160,161,162,162,163,148,148,149,164,164,165,166,166,167,152,152,153,168,168,169,170,170,171,152,152,153,168,168,169,170,170,171,156,156,157,172,172,173,174,174,175,0,0,1,0,0,1,2,2,3,32,32,33,32,32,33,34,34,35,36,36,37,36,36,37,38,38,39,144,144,145,144,144,145,146,146,147,176,176,177,176,176,177,178,178,179,180,180,181,180,180,181,182,182,183,152,152,153,152,152,153,154,154,155,184,184,185,184,184,185,186,186,187,188,188,189,188,188,189,190,190,191,0,0,1,0,0,1,2,2,3,48,48,49,48,48,49,50,50,51,52,52,53,52,52,53,54,54,55,144,144,145,144,144,145,146,146,147,192,192,193,192,192,193,194,194,195,196,196,197,196,196,197,198,198,199,152,152,153,152,152,153,154,154,155,200,200,201,200,200,201,202,202,203,204,204,205,204,204,205,206,206,207,0,0,1,16,16,17,18,18,19,48,48,49,64,64,65,66,66,67,52,52,53,68,68,69,70,70,71,144,144,145,160,160,161,162,162,163,192,192,193,208,208,209,210,210,211,196,196,197,212,212,213,214,214,215,152,152,153,168,168,169,170,170,171,200,200,201,216,216,217,218,218,219,204,204,205,220,220,221,222,222,223]
theorem zwF:(E14.flatMap fun e=>M81.map fun m=>wT e (mOf m))=IDX.map fun i=>GR.getD i []:=by decide+kernel
theorem zyY:IDX.all (fun i=>decide (i<GR.length))=true:=by decide+kernel
theorem zgu:(GR.take 56).all yz=true:=by decide+kernel
theorem zgg:((GR.drop 56).take 56).all yz=true:=by decide+kernel
theorem zgp:((GR.drop 112).take 56).all yz=true:=by decide+kernel
theorem zgb:(GR.drop 168).all yz=true:=by decide+kernel
theorem zwH:∀ W∈GR,yz W=true:=fun W h=>by
 rw [←List.take_append_drop 56 GR] at h;rcases mem_append.mp h with h|h
 ·exact all_eq_true.mp zgu W h
 rw [←List.take_append_drop 56 (GR.drop 56),List.drop_drop] at h;rcases mem_append.mp h with h|h
 ·exact all_eq_true.mp zgg W h
 rw [←List.take_append_drop 56 (GR.drop (56+56)),List.drop_drop] at h;rcases mem_append.mp h with h|h
 ·exact all_eq_true.mp zgp W h
 ·exact all_eq_true.mp zgb W h
theorem zgd{es:List Nat}(he:es∈E14){ms:List Int}(hm:ms∈M81):yz (wT es (mOf ms))=true:=by
 have h:wT es (mOf ms)∈E14.flatMap fun e=>M81.map fun m=>wT e (mOf m):=mem_flatMap.mpr ⟨es,he,mem_map.mpr ⟨ms,hm,rfl⟩⟩;rw [zwF] at h;refine X12 (mem_map.mp h) fun i hi e=>?_;rw [←e];have hl:=of_decide_eq_true (all_eq_true.mp zyY i hi);refine zwH _ ?_;rw [getD_eq_getElem?_getD,getElem?_eq_getElem hl];exact List.getElem_mem hl
theorem zht(ns:List Int):m3 ns=mOf (ns.map fun n=>n.fmod 3):=by
 funext j
 unfold m3 mOf;rw [getD_eq_getElem?_getD,getD_eq_getElem?_getD,getElem?_map];cases ns[j]? <;>rfl
theorem zja(n:Int):n.fmod 3∈M3:=by
 have q:0≤n.fmod 3∧n.fmod 3<3:=⟨fmod_nonneg_of_pos _ (by exact natCast_nonneg _),fmod_lt_of_pos _ (by exact natCast_nonneg _)⟩
 have:n.fmod 3=0∨n.fmod 3=1∨n.fmod 3=2:=by lia
 simp only [M3,mem_cons,not_mem_nil,or_false];exact this
theorem zdb(a b c d:Int):[a.fmod 3,b.fmod 3,c.fmod 3,d.fmod 3]∈M81:=
 mem_flatMap.mpr ⟨_,zja a,mem_flatMap.mpr ⟨_,zja b,mem_flatMap.mpr ⟨_,zja c,mem_map.mpr ⟨_,zja d,rfl⟩⟩⟩⟩
theorem zqz:∀ {l:List Int},zjo l=true→l.Nodup
 |[],_=>.nil
 |a::l,h=>by
  have h:(!l.contains a&&zjo l)=true:=h;simp only [and_eq_true,not_eq_true',List.contains_eq_mem,decide_eq_false_iff_not] at h;exact nodup_cons.mpr ⟨h.1,zqz h.2⟩
theorem vN{r:zx}(h:zzd r=true):qJ r:=⟨fun t ht=>by
 have:=all_eq_true.mp h t ht;cases e:zr r t with
 |none=>rw [e] at this;cases this
 |some p=>rw [e] at this;exact ⟨p,rfl,of_decide_eq_true this⟩⟩
theorem zje{W:zx}:∀ {n:Nat} {h t:Int} {m made:List Int},zqA W n h t m=some made→(∀ s∈m,s∈zX W)→∀ s∈made,s∈zX W
 |0,_,_,_,_,e,hm=>by injection e with e;subst e;exact hm
 |n+1,h,t,m,made,e,hm=>by
  unfold zqA at e;cases e1:zr W h with
  |none=>rw [e1] at e;cases e
  |some full=>
   rw [e1] at e;dsimp only at e;cases e2:(full.filter z0)[(t.fmod (full.filter z0).length).toNat]? with
   |none=>rw [e2] at e;cases e
   |some w=>
    rw [e2] at e;dsimp only at e
    have hs:∀ s∈m++[512 *h+w],s∈zX W:=fun s hs'=>by
     rcases mem_append.mp hs' with hs'|hs'
     ·exact hm s hs'
     ·rw [mem_singleton.mp hs']
      (refine X13 (qZ e1) fun q hq z1 z2=>?_;subst z1;subst z2)
      exact mem_flatMap.mpr ⟨q,hq,mem_map.mpr ⟨w,mem_of_getElem? e2,rfl⟩⟩
    split at e
    ·injection e with e;subst e;exact hs
    ·exact zje e hs
structure qx(W:zx):Prop where
 keys:W.map (fun z=>z.1)=zy
 ways:∀ p∈W,p.2≠[]∧(∀ w∈p.2,z0 w=true)∧p.2.length≤10
 nodup:(zX W).Nodup
 len:(zX W).length≤9
 pos:∀ s∈zX W,0<s
 made:zH (zX W)
 there:qJ (zv (zX W) 0 [1])
 home:qJ (zv (zX W) 0 [-1])
 runs:∀ t:Nat,t<16→∃ made,zqA W 60 0 t []=some made∧kn 0 made=true∧made.length≤60∧∀ s∈made,s∈zX W
theorem zyK{W:zx}(h:yz W=true):qx W:=by
 unfold yz at h;simp only [and_eq_true,decide_eq_true_eq,all_eq_true] at h;obtain ⟨⟨⟨⟨⟨⟨⟨h1,h2⟩,h3⟩,h4⟩,h5⟩,h6⟩,h7⟩,h8⟩:=h
 have hp:∀ s∈zX W,((0<s∧s<1000000)∧s.fdiv 512∈zy)∧s.fmod 512∈zy:=fun s hs=>by
  have:=h5 s hs;exact ⟨⟨this.1.1,contains_iff_mem.mp this.1.2⟩,contains_iff_mem.mp this.2⟩
 refine ⟨h1,fun p m=>?_,zqz h3,h4,fun s m=>(hp s m).1.1.1,⟨fun s m=>?_,fun s m=>(hp s m).1.2,fun s m=>(hp s m).2⟩,vN h6,vN h7,fun t ht=>?_⟩
 ·have:=h2 p m;refine ⟨fun q=>?_,this.1.2,this.2⟩;rw [q] at this;exact absurd this.1.1 (by decide)
 ·have:=(hp s m).1.1;exact ⟨by lia,by lia⟩
 ·have:=h8 t (mem_range.mpr ht);unfold zhs at this;cases e:zqA W 60 0 t [] with
  |none=>rw [e] at this;cases this
  |some made=>
   rw [e] at this;simp only [and_eq_true,decide_eq_true_eq] at this;exact ⟨made,rfl,this.1,this.2,zje e fun s m=>nomatch m⟩
end
section
structure xn(ns:List Int):Prop where
 len:ns.length=4
 le:∀ n∈ns,7≤n∧n≤54
theorem zwM(ns:List Int)(W:zx)(p:Int × List Int)(h:p∈zqq ns W):∃ q∈W,p.1=q.1∧(p.2=q.2∧p.1=0∨p.2=ns.getD (p.1 - 256).toNat 0::q.2∧p.1≠0):=by
 (refine X12 (mem_map.mp h) fun q hq z6=>?_;subst z6)
 refine ⟨q,hq,?_⟩;by_cases e:q.1=0
 ·rw [if_pos e];exact ⟨rfl,.inl ⟨rfl,e⟩⟩
 ·rw [if_neg e];exact ⟨rfl,.inr ⟨rfl,e⟩⟩
theorem zgf{ns:List Int}(N:xn ns){k:Nat}(hk:k<4):7≤ns.getD k 0∧ns.getD k 0≤54:=by
 have hl:k<ns.length:=by rw [N.len];exact hk
 rw [getD_eq_getElem?_getD,getElem?_eq_getElem hl];exact N.le _ (List.getElem_mem hl)
theorem px{ns:List Int}(N:xn ns){k:Int}(hk:k∈zy)(_:k≠0):7≤ns.getD (k - 256).toNat 0∧ns.getD (k - 256).toNat 0≤54:=by
 simp only [zy,mem_cons,not_mem_nil,or_false] at hk;exact zgf N (by lia)
theorem zqj{n:Int}(h:7≤n∧n≤54):z0 n=false:=by
 unfold z0;rw [decide_eq_false (by lia),Bool.or_false];exact beq_false_of_ne (by lia)
theorem xz{W:zx}(F:qx W){p:Int × List Int}(h:p∈W):p.1∈zy:=by rw [←F.keys];exact mem_map.mpr ⟨p,h,rfl⟩
theorem zji{l:List Int}(h:∀ w∈l,z0 w=true):l.filter z0=l:=List.filter_eq_self.mpr h
theorem zj0{ns:List Int}(N:xn ns){W:zx}(F:qx W){q:Int × List Int}(hq:q∈W):(if q.1=0 then q else (q.1,ns.getD (q.1 - 256).toNat 0::q.2)).2.filter z0=q.2.filter z0:=by
 by_cases e:q.1=0
 ·rw [if_pos e]
 ·rw [if_neg e]
  show (_::q.2).filter z0=_
  rw [filter_cons,zqj (px N (xz F hq) e)];rfl
theorem zwN{ns:List Int}(N:xn ns){W:zx}(F:qx W):zX (zqq ns W)=zX W:=by
 unfold zX zqq;rw [List.flatMap_map]
 have:∀ L:zx,(∀ q∈L,q∈W)→(L.flatMap fun a=>((if a.1=0 then a else (a.1,ns.getD (a.1 - 256).toNat 0::a.2)).2.filter z0).map fun w=>512 *(if a.1=0 then a else (a.1,ns.getD (a.1 - 256).toNat 0::a.2)).1+w)=L.flatMap fun p=>(p.2.filter z0).map fun w=>512 *p.1+w:=fun L hL=>by
  induction L with
  |nil=>rfl
  |cons a L ih=>
   rw [flatMap_cons,flatMap_cons,ih fun q m=>hL q (mem_cons_of_mem _ m),zj0 N F (hL a (mem_cons_self ..))];have e:(if a.1=0 then a else (a.1,ns.getD (a.1 - 256).toNat 0::a.2)).1=a.1:=by split<;>rfl
   rw [e]
 exact this W fun q m=>m
theorem zgh{ns:List Int}(W:zx)(k:Int):zr (zqq ns W) k=(zr W k).map fun l=>if k=0 then l else ns.getD (k - 256).toNat 0::l:=by
 unfold zr zqq
 induction W with
 |nil=>rfl
 |cons q r ih=>
  rw [map_cons,find?_cons,find?_cons];have e:(if q.1=0 then q else (q.1,ns.getD (q.1 - 256).toNat 0::q.2)).1=q.1:=by split<;>rfl
  rw [e];by_cases h:q.1=k
  ·rw [decide_eq_true h];subst h
   show some (if q.1=0 then q else (q.1,ns.getD (q.1 - 256).toNat 0::q.2)).2=some (if q.1=0 then q.2 else ns.getD (q.1 - 256).toNat 0::q.2)
   congr 1;split<;>rfl
  ·rw [decide_eq_false h];exact ih
theorem vR{R W:zx}(h:∀ k,(zr R k).map (fun l=>l.filter z0)=(zr W k).map fun l=>l.filter z0):∀ (n:Nat) (k t:Int) (m:List Int),zqA R n k t m=zqA W n k t m
 |0,_,_,_=>rfl
 |n+1,k,t,m=>by
  have hk:=h k;unfold zqA;cases e1:zr R k with
  |none=>
   rw [e1] at hk;cases e2:zr W k with
   |none=>rfl
   |some l=>rw [e2] at hk;cases hk
  |some l=>
   rw [e1] at hk;cases e2:zr W k with
   |none=>rw [e2] at hk;cases hk
   |some l'=>
    rw [e2] at hk;have e:l.filter z0=l'.filter z0:=by injection hk
    dsimp only;rw [e];cases (l'.filter z0)[(t.fmod (l'.filter z0).length).toNat]? with
    |none=>rfl
    |some w=>
     dsimp only
     split
     ·rfl
     ·exact vR h n _ _ _
theorem zdd{ns:List Int}(N:xn ns){W:zx}(F:qx W)(n:Nat)(k t:Int)(m:List Int):zqA (zqq ns W) n k t m=zqA W n k t m:=by
 refine vR (fun k=>?_) n k t m;rw [zgh];cases e:zr W k with
 |none=>rfl
 |some l=>
  (refine X13 (qZ e) fun q hq z4 z5=>?_;subst z4;subst z5)
  show some ((if q.1=0 then q.2 else ns.getD (q.1 - 256).toNat 0::q.2).filter z0)=some (q.2.filter z0)
  by_cases h0:q.1=0
  ·rw [if_pos h0]
  ·rw [if_neg h0,filter_cons,zqj (px N (xz F hq) h0)];rfl
theorem zhl{ns:List Int}(N:xn ns){W:zx}(F:qx W):zqI (zqq ns W):=by
 constructor
 ·intro p hp;obtain ⟨q,hq,e,⟨e2,_⟩|⟨e2,_⟩⟩:=zwM ns W p hp
  ·rw [e2];have:=(F.ways q hq).2.2;exact le_trans ‹_› (by decide)
  ·rw [e2];have:=(F.ways q hq).2.2;simp;exact le_trans ‹_› (by decide)
 ·intro p hp
  (refine X12 (mem_map.mp hp) fun q hq z3=>?_;subst z3)
  rw [zj0 N F hq,zji (F.ways q hq).2.1];exact (F.ways q hq).1
end
section
theorem zgm(a0:D):x22.call "_law_page" [a0]=fnC x13 172 ["script"] ["cells","leads"] [a0]:=by kernel_rfl
theorem zgn(a0 a1:D):x22.call "_law_ends" [a0,a1]=fnC x14 177 ["leads","spaces"] ["columns","ends"] [a0,a1]:=by kernel_rfl
theorem zwR(a0 a1:D):x22.call "_law_rules" [a0,a1]=fnC x15 182 ["ends","numbers"] ["after","rules"] [a0,a1]:=by kernel_rfl
theorem zwS(a0 a1 a2:D):x22.call "_law_roads" [a0,a1,a2]=fnC x16 187 ["steps","start","sides"] ["roads"] [a0,a1,a2]:=by kernel_rfl
theorem zdf(a0 a1:D):x22.call "_law_run" [a0,a1]=fnC x17 192 ["rules","turnings"] ["made"] [a0,a1]:=by kernel_rfl
theorem zgr(a0 a1 a2:D):x22.call "_law_book" [a0,a1,a2]=fnC x18 197 ["names","times","made"] ["book","kept"] [a0,a1,a2]:=by kernel_rfl
theorem zdh(a0 a1 a2 a3 a4:D):x22.call "_law_due" [a0,a1,a2,a3,a4]=fnC x19 202 ["names","times","steps","made","ring"] ["due"] [a0,a1,a2,a3,a4]:=by kernel_rfl
theorem zgs(a0 a1 a2 a3:D):x22.call "_law_told" [a0,a1,a2,a3]=fnC x20 207 ["names","book","counters","inside"] [] [a0,a1,a2,a3]:=by kernel_rfl
theorem zwT(a0 a1 a2 a3:D):x22.call "_law_alike" [a0,a1,a2,a3]=fnC x21 212 ["names","times","steps","ring"] [] [a0,a1,a2,a3]:=by kernel_rfl
theorem zdm(a0:D):x22.call "func_std_string" [a0]=fnC x6 56 ["func_name"] [] [a0]:=by kernel_rfl
theorem zhc(a0:D):x22.call "Whitespace" [a0]=clC x5 94 ["ws"] ["self","count"] 139 [a0]:=by kernel_rfl
theorem zho(a0:D):x22.call "TupleComp" [a0]=clC x4 35 ["comp_select_list"] ["self"] 45 [a0]:=by kernel_rfl
theorem zwL(a0:D):x22.call "len" [a0]=gx a0:=by kernel_rfl
theorem zdn(a0:D):x22.call "sum" [a0]=zd8 a0:=by kernel_rfl
theorem zzf(a0:D):x22.call "str" [a0]=zyD a0:=by kernel_rfl
theorem xj(a0:D):x22.call "sorted" [a0]=yU a0:=by kernel_rfl
noncomputable abbrev LC:=List (List Nat × Int)
noncomputable def xi(c:Int):List Nat:=pj c++[32,9,120]
theorem vS:(qC.all fun w=>(match w with|[]=>false|h::z=> !(h==32)&& !(h==9))&&w.all fun x=>decide (x<128)&& !(x==10))=true:=by decide+kernel
theorem zqy(c:Int):pj c∈qC:=mem_of_getElem? (wB c)
theorem zwC(c:Int):∃ h t,xi c=h::t∧h≠32∧h≠9:=by
 have:=all_eq_true.mp vS _ (zqy c);rw [and_eq_true] at this;unfold xi;cases e:pj c with
 |nil=>rw [e] at this;exact absurd this.1 (by decide)
 |cons h t=>
  rw [e] at this;have h1:=this.1;simp only [and_eq_true,not_eq_true',beq_eq_false_iff_ne] at h1;exact ⟨h,t++[32,9,120],rfl,h1.1,h1.2⟩
theorem zyX(c:Int):∀ x∈xi c,x<128∧x≠10:=fun x hx=>by
 have:=all_eq_true.mp vS _ (zqy c);rw [and_eq_true] at this;rcases mem_append.mp hx with h|h
 ·have:=all_eq_true.mp this.2 x h;simp only [and_eq_true,decide_eq_true_eq,not_eq_true',beq_eq_false_iff_ne] at this;exact this
 ·simp only [mem_cons,not_mem_nil,or_false] at h;rcases h with rfl|rfl|rfl<;>decide
theorem zzh(l:List Nat)(c:Int):qy l c=l++xi c:=by unfold qy xi;rw [append_assoc]
theorem vT{l:List Nat}(hl:∀ x∈l,zpg x)(c:Int):∀ x∈qy l c,x<128∧x≠10:=fun x hx=>by
 rw [zzh] at hx;rcases mem_append.mp hx with h|h
 ·rcases hl x h with rfl|rfl<;>decide
 ·exact zyX c x h
theorem zdr{l:List Nat}(hl:l∈S85)(c:Int):x22.call "Whitespace" [dN (qy l c)]=some (spD (qy l c,wsT l)):=
 X23 (zwC c) fun h t e h1 h2=>(zhc _).trans (by
 have hs:=bO hl;have ha:=vT hs.1 c;rw [zzh,e] at ha ⊢;exact zw1 hs.1 (le_trans hs.2 (by decide)) h1 h2 fun x m=>(ha x m).1)
noncomputable def wL(L:LC):D:=.list (L.map fun p=>spD (qy p.1 p.2,wsT p.1))
theorem znw{s:Sg}{L:LC}(h:s "page"=some (.str (Str.join (sN [10]) (L.map fun p=>sN (qy p.1 p.2)))))(hL:∀ p∈L,p.1∈S85)(h2:2≤L.length)(h3:L.length≤4):RS rl1 s (upd s "spaces" (wL L)) .next:=by
 have sp:Txt.split (Str.join (sN [10]) (L.map fun p=>sN (qy p.1 p.2))) (sN [10])=L.map fun p=>sN (qy p.1 p.2):=by
  refine vH 10 (fun q=>?_) fun p hp=>?_
  ·rw [List.map_eq_nil_iff.mp q] at h2;exact absurd h2 (by decide)
  ·(refine X12 (mem_map.mp hp) fun q hq z2=>?_;subst z2)
   intro m;exact (vT (bO (hL q hq)).1 q.2 10 (by simpa using m)).2 rfl
 have hlen:(Str.join (sN [10]) (L.map fun p=>sN (qy p.1 p.2))).length≤1000:=by
  refine le_trans (PySem.StrLaws.join_length_le _ _) ?_;have:=PySem.StrLaws.sumLen_le (B:=13) (L.map fun p=>sN (qy p.1 p.2)) (fun y hy=>X12 (mem_map.mp hy) fun q hq e=>e▸(ko _).symm▸je (bO (hL q hq)).2 _);rw [ko,length_map] at *;simp only [length_singleton] at *;clear sp h hL;omega
 have m:=zpu sp (by simpa using h2) (by rw [ko];decide) hlen (by rw [length_map];exact le_trans h3 (by decide));exact .A (.lc (.FM (emb:=fun p:List Nat × Int=>dN (qy p.1 p.2)) (.X (.H (.V h) (.C .C .N) ((bH (k:=some)).trans ((congrArg (fun z:Str=>(jP "split" _ [D.str z]).bind some) zfT).trans (bK m)))) (congrArg some map_map)) (fun x x x=>rfl) fun p hp=>.E (.C (.V rfl) .N) (zdr (hL p hp) _)) (cpM h3))
theorem zds{l r:List Nat}{k:Nat}:cut (l++r) (some (l.length:Int)) (some ((l.length+k:Nat):Int))=r.take k:=by
 show ((l++r).drop (clipAt (l++r).length l.length)).take (clipAt (l++r).length ((l.length+k:Nat):Int) - clipAt (l++r).length l.length)=_
 rw [xH,xH,length_append,min_eq_left (le_add_right ..),List.drop_left,Nat.add_min_add_left,Nat.add_sub_cancel_left];exact zjh r k
theorem zru(l:List Nat):(wsT l).n=l.length:=by
 have (l:List Nat) (s:WS):(l.foldl k4 s).n=s.n+l.length:=by
  induction l generalizing s with
  |nil=>rfl
  |cons a l ih=>exact (ih _).trans ((congrArg (· +l.length) (by unfold k4;split<;>rfl:(k4 s a).n=s.n+1)).trans (by rw [length_cons,add_assoc,add_comm 1]))
 exact (this l ⟨0,0,0,[]⟩).trans (zero_add _)
noncomputable def zj1(c:Int):D:=.list ([3,2,1].map fun k=>dN ((xi c).take k))
theorem znv:x22.fld 139 "raw"=true:=by kernel_rfl
theorem k_n:x22.fld 139 "n"=true:=by kernel_rfl
theorem zj2{k:Nat}(h:k≤1000):kJ (nD k)=some (some (k:Int)):=jZ ⟨Int.lt_of_lt_of_le (by decide) (natCast_nonneg k),ofNat_lt.mpr (lt_of_le_of_lt h (by decide))⟩
theorem zwO{l:List Nat}(hl:l.length≤7)(c:Int)(k:Nat):jU (dN (qy l c)) (some (l.length:Int)) (some ((l.length+k:Nat):Int)) none=some (dN ((xi c).take k)):=by
 show (if (sN (qy l c)).length≤zz then some (D.str ⟨(cut (qy l c) (some (l.length:Int)) (some ((l.length+k:Nat):Int))).toArray⟩) else none)=_
 rw [if_pos (by rw [ko];exact cpN (je hl c)),zzh,zds];rfl
theorem znu{s:Sg}{L:LC}(h:s "spaces"=some (wL L))(hL:∀ p∈L,p.1∈S85)(h3:L.length≤4):RS rl2 s (upd s "heads" (.list (L.map fun p=>zj1 p.2))) .next:=
 .A (.lc (.FM (.X (.V h) rfl) (fun z z z=>rfl) fun p hp=>
  have hs:=bO (hL p hp);have hn:p.1.length≤1000:=le_trans hs.2 (by decide);have rn {σ:Sg} (e:σ "space"=some (spD (qy p.1 p.2,wsT p.1))):Rn (aE x22 "n" (vE "space")) σ (nD p.1.length):=zru p.1▸Rn.ws (line:=qy p.1 p.2) (s:=wsT p.1) (.V e) k_n (by kernel_rfl)
  .lc (.FM (n:=[3,2,1]) (emb:=nD) (.X (.T (.C .C (.C .C (.C .C .N)))) rfl) (fun z z z=>rfl) fun k hk=>
   have hk3:k≤3:=(by decide:∀ k∈[3,2,1],k≤3) k hk
   .Z (.ws (line:=qy p.1 p.2) (s:=wsT p.1) (.V rfl) znv (by kernel_rfl)) (.E (rn rfl) (zj2 hn)) (.E (.O (rn rfl) (.V rfl) (vM ..)) (zj2 (le_trans (add_le_add hs.2 hk3) (by decide)))) .N
    (zwO hs.2 p.2 k)) (le_of_ble_eq_true rfl)) (cpM h3))
noncomputable def TOK:List (List Nat × Int):=[([33],54),([33,61],28),([37],24),([37,61],40),([38],19),([38,61],41),([40],7),([41],8),([42],16),([42,42],35),([42,42,61],46),([42,61],38),([43],14),([43,61],36),([44],12),([45],15),([45,61],37),([45,62],51),([46],23),([46,46,46],52),([47],17),([47,47],47),([47,47,61],48),([47,61],39),([58],11),([58,61],53),([59],13),([60],20),([60,60],33),([60,60,61],44),([60,61],29),([61],22),([61,61],27),([62],21),([62,61],30),([62,62],34),([62,62,61],45),([64],49),([64,61],50),([91],9),([93],10),([94],32),([94,61],43),([123],25),([124],18),([124,61],42),([125],26),([126],31)]
noncomputable def zng:D:=.dS (TOK.map fun p=>(sN p.1,.int p.2))
noncomputable def pv(x:List Nat):Option Int:=(TOK.find? fun p=>p.1=x).map (fun z=>z.2)
theorem zj3:x22.glob "EXACT_TOKEN_TYPES"=some zng:=by kernel_rfl
theorem zgt(x:List Nat):zd (TOK.map fun p=>(sN p.1,D.int p.2)) (sN x)=(pv x).map .int:=by
 unfold zd pv
 induction TOK with
 |nil=>rfl
 |cons q r ih=>
  rw [map_cons,find?_cons,find?_cons];have:(sN q.1=sN x)↔q.1=x:=by simp
  by_cases h:q.1=x
  ·rw [decide_eq_true h,decide_eq_true (this.mpr h)];rfl
  ·rw [decide_eq_false h,decide_eq_false fun q=>h (this.mp q)];exact ih
noncomputable def znp(r:List Nat):Int:=(([3,2,1].filterMap fun k=>pv (r.take k))++[0]).headD 0
theorem zwA:((List.range 48).all fun k=>znp (qC.getD k []++[32,9,120])==7+(k:Int))=true:=by decide+kernel
theorem zgl(c:Int):znp (xi c)=7+c.fmod 48:=by
 have q:=kI c (n:=48) (by decide);have:=eq_of_beq (all_eq_true.mp zwA (c.fmod 48).toNat (mem_range.mpr ((toNat_lt q).mpr (ki c (by decide)))));rw [toNat_of_nonneg q] at this;exact this
theorem zwE{f:Nat→Option Int}:∀ l:List Nat,(l.filterMap f).map D.int=l.flatMap fun k=>(f k).toList.map D.int
 |[]=>rfl
 |a::l=>by
  rw [List.filterMap_cons,flatMap_cons, ←zwE l];cases f a<;>rfl
theorem znb{s:Sg}{L:LC}(h:s "heads"=some (.list (L.map fun p=>zj1 p.2)))(h3:L.length≤4):RS rl3 s (upd s "numbers" (iL (L.map fun p=>7+p.2.fmod 48))) .next:=
 have one {σ:Sg} {x:List Nat} (e:σ "head"=some (dN x)):RC (iC (qT .In (vE "head") (gE x22 "EXACT_TOKEN_TYPES")) (mC (jE (gE x22 "EXACT_TOKEN_TYPES") (vE "head")))) σ ((pv x).toList.map D.int):=by
  have l:=zgt x;have t:RT (qT .In (vE "head") (gE x22 "EXACT_TOKEN_TYPES")) σ ((pv x).map D.int).isSome:=.Q (.V e) (.G zj3) (congrArg (fun z:Option D=>some z.isSome) l);cases q:pv x with
  |none=>rw [q] at t;exact .N t
  |some i=>rw [q] at t l;exact .T t (.M (.I (.G zj3) (.V e) l))
 have main:RS rl3 s (upd s "numbers" (.list (L.map fun p=>D.int (7+p.2.fmod 48)))) .next:=
  .A (.lc (.FM (.X (.V h) rfl) (fun y y y=>rfl) fun p y=>.I (c:=iL (([3,2,1].filterMap fun k=>pv ((xi p.2).take k))++[0])) (.O (.lc (l:=([3,2,1].filterMap fun k=>pv ((xi p.2).take k)).map D.int)
    (rwR (P:=RC _ _) (zwE _) (.F (n:=[3,2,1]) (emb:=fun k=>dN ((xi p.2).take k)) (.X (.V rfl) rfl) (fun y y y=>rfl) fun y y=>one rfl)) (cpM (m:=3) (List.length_filterMap_le ..)))
   (.L (.C .C .N)) (jK (b:=[0]) (cpN (m:=4) (succ_le_succ (List.length_filterMap_le ..))))) .C (wZ (by decide) (by decide) (zgl p.2▸(by
    unfold znp;cases [3,2,1].filterMap fun k=>pv ((xi p.2).take k)<;>rfl)))) (cpM h3))
 rwL (P:=fun z=>RS rl3 s (upd s "numbers" (.list z)) .next) (map_map (g:=D.int)).symm main
end
section
theorem znd{s:Sg}{ns:List Int}(h:s "script"=some (iL ns))(hl:ns.length≤63):∃ c0 c1 c2 c3 c4 c5:Int,(∀ c∈[c0,c1,c2,c3,c4,c5],0≤c∧c≤400000)∧
  RS rl0 s (upd (upd (upd s "cells" (iL [c0,c1,c2,c3,c4,c5])) "leads" (.list ((jW c0 c1 c2 c3).map dN))) "page" (.str (zwo c0 c1 c2 c3))) .next:=
 X62 (zfL hl) fun c0 c1 c2 c3 c4 c5 B e=>⟨c0,c1,c2,c3,c4,c5,B,.T3 (.E (.C (.V h) .N) ((zgm _).trans e))⟩
theorem znf{s:Sg}{L:LC}(h4:L.length=4)(h1:s "leads"=some (.list ((L.map (fun z=>z.1)).map dN)))(h2:s "spaces"=some (wL L))(hL:∀ p∈L,p.1∈S85):RS rl4 s (upd s "ends" (cD (zwY ((L.map (fun z=>z.1)).map y9)))) .next:=by
 have e:=zhf (ps:=L.map fun p=>(qy p.1 p.2,p.1)) ((length_map ..).trans h4) (fun p m=>X12 (mem_map.mp m) fun q hq e=>e▸(bO (hL q hq)).1) (fun p m=>X12 (mem_map.mp m) fun q hq e=>e▸zhh (hL q hq))
  fun a ha b hb=>X12 (mem_map.mp ha) fun q hq e=>X12 (mem_map.mp hb) fun q' hq' e'=>e▸e'▸zgk (hL q hq) (hL q' hq')
 have e1:(L.map fun p=>(qy p.1 p.2,p.1)).map (fun z=>z.2)=L.map (fun z=>z.1):=map_map;have e2:((L.map fun p=>(qy p.1 p.2,p.1)).map fun p=>(p.1,wsT p.2)).map spD=L.map fun p=>spD (qy p.1 p.2,wsT p.1):=by rw [map_map,map_map];rfl
 rw [e1,e2] at e;exact .A (.E (.C (.V h1) (.C (.V h2) .N)) ((zgn ..).trans e))
noncomputable def xy(a:Nat):Str:=if a=0 then "p" else "~"
noncomputable def vm:Nat→Str
 |0=>"f"
 |1=>"<f"
 |2=>"f>"
 |_=>"<f>"
noncomputable def zqk:Nat→Str
 |0=>"f"
 |1=>"<f"
 |2=>"f>"
 |_=>"{f}"
noncomputable def nmS(a b:Nat)(n:Int):Str:=if a=1∧n=0 then zqk b else xy a++":"++ofString (toString n)++"("++vm b++")"
theorem zha{a:Nat}(h:a<2):zY (D.str "p~") (.int a)=some (.str (xy a)):=match a,h with
 |0,_=>by kernel_rfl
 |1,_=>by kernel_rfl
 |k+2,h=>absurd h (not_lt.mpr (le_add_left ..))
theorem zhe{b:Nat}(h:b<4):zY (D.list [(D.str "f"),(D.str "<f"),(D.str "f>"),(D.str "<f>")]) (.int b)=some (.str (vm b)):=match b,h with
 |0,_=>by kernel_rfl
 |1,_=>by kernel_rfl
 |2,_=>by kernel_rfl
 |3,_=>by kernel_rfl
 |k+4,h=>absurd h (not_lt.mpr (le_add_left ..))
theorem zdt{b:Nat}(h:b<4):zY (D.list [(D.str "f"),(D.str "<f"),(D.str "f>"),(D.str "{f}")]) (.int b)=some (.str (zqk b)):=match b,h with
 |0,_=>by kernel_rfl
 |1,_=>by kernel_rfl
 |2,_=>by kernel_rfl
 |3,_=>by kernel_rfl
 |k+4,h=>absurd h (not_lt.mpr (le_add_left ..))
theorem znh{s:Sg}{c0 c1 c2 c3 c4 c5:Int}(h:s "cells"=some (iL [c0,c1,c2,c3,c4,c5]))(h4:0≤c4∧c4≤400000):∃ a b:Nat,a<2∧b<4∧
  RS rl5 s (upd (upd (upd s "file" (.str (xy a))) "name" (.str (vm b))) "short" (.str (zqk b))) .next:=
 have q1:=kI c4 (n:=2) (by decide);have q2:=kI (c4.fdiv 2) (n:=4) (by decide);have n1:(c4.fmod 2).toNat<2:=(toNat_lt q1).mpr (ki c4 (by decide));have n2:((c4.fdiv 2).fmod 4).toNat<4:=(toNat_lt q2).mpr (ki _ (by decide));have i0:zY (iL [c0,c1,c2,c3,c4,c5]) (.int 4)=some (.int c4):=by kernel_rfl
 have z:za c4:=⟨Int.lt_of_lt_of_le (by decide) h4.1,Int.lt_of_le_of_lt h4.2 (by decide)⟩
 have m2:Rn (oE .Mod (oE .FloorDiv (jE (vE "cells") (nE 4)) (nE 2)) (nE 4)) s (.int (((c4.fdiv 2).fmod 4).toNat:Int)):=(toNat_of_nonneg q2).symm▸ .m (.q (.I (.V h) .C i0) z ⟨by decide,by decide⟩)
 ⟨(c4.fmod 2).toNat,((c4.fdiv 2).fmod 4).toNat,n1,n2,.Ds (.C (.I .C ((toNat_of_nonneg q1).symm▸ .m (.I (.V h) .C i0)) (zha n1)) (.C (.I (.L (.C .C (.C .C (.C .C (.C .C .N))))) m2 (zhe n2)) (.C (.I (.L (.C .C (.C .C (.C .C (.C .C .N))))) m2 (zdt n2)) .N)))⟩
noncomputable def znH(x:Str):Option D→Bool
 |some (.str y)=>y==x
 |_=>false
theorem zdl{x:Str}{o:Option D}(h:znH x o=true):o=some (.str x):=by
 cases o with
 |none=>exact Bool.noConfusion h
 |some d=>cases d with
  |str y=>exact congrArg (fun z=>some (D.str z)) (eq_of_beq h)
  |_=>exact Bool.noConfusion h
theorem zdc:((List.range 2).all fun a=>(List.range 4).all fun b=>zy.all fun n=>znH (nmS a b n) (fnC x6 56 ["func_name"] [] [.tup [.str (xy a),.int n,.str (vm b)]]))=true:=by decide+kernel
theorem znm{a b:Nat}(ha:a<2)(hb:b<4){n:Int}(hn:n∈zy):x22.call "func_std_string" [.tup [.str (xy a),.int n,.str (vm b)]]=some (.str (nmS a b n)):=
 (zdm _).trans (zdl (all_eq_true.mp (all_eq_true.mp (all_eq_true.mp zdc a (mem_range.mpr ha)) b (mem_range.mpr hb)) n hn))
theorem znn{s:Sg}{a b:Nat}(ha:a<2)(hb:b<4)(h1:s "file"=some (.str (xy a)))(h2:s "name"=some (.str (vm b))):RS rl6 s (upd s "names" (zR (nmS a b))) .next:=
 .A (.dc (.FK (emb:=D.int) (n:=zy) (.X (.T (.C .C (.C .C (.C .C (.C .C (.C .C .N)))))) rfl) (fun z z z=>rfl) (fun z z=>.V rfl) fun n hn=>.E (.C (.T (.C (.V h1) (.C (.V rfl) (.C (.V h2) .N)))) .N) (znm ha hb hn)) (le_of_ble_eq_true rfl) (by kernel_rfl))
noncomputable def zj4(nm:Int→Str):Bool:=(zy.all fun a=>zy.all fun b=>(!(nm a==nm b)||a==b)&& !(nm a==bg nm b)&&(!(bg nm a==bg nm b)||a==b))&&zy.all fun a=>decide ((nm a).length≤100)
theorem zqx:((List.range 2).all fun a=>(List.range 4).all fun b=>zj4 (nmS a b))=true:=by decide+kernel
theorem zgc{a b:Nat}(ha:a<2)(hb:b<4):zZ (nmS a b):=by
 have:=all_eq_true.mp (all_eq_true.mp zqx a (mem_range.mpr ha)) b (mem_range.mpr hb);unfold zj4 at this;rw [and_eq_true] at this
 (refine X02 this fun h1 h2=>?_;try clear this)
 have h (x:Int) (hx:x∈zy) (y:Int) (hy:y∈zy):((!(nmS a b x==nmS a b y)||x==y)&& !(nmS a b x==bg (nmS a b) y)&&(!(bg (nmS a b) x==bg (nmS a b) y)||x==y))=true:=all_eq_true.mp (all_eq_true.mp h1 x hx) y hy;have im {p q:Str} {r:Bool} (e:p=q) (g:(!(p==q)||r)=true):r=true:=by rw [beq_iff_eq.mpr e] at g;exact g
 have h1 {x y} (hx:x∈zy) (hy:y∈zy):=and_eq_true_iff.mp (h x hx y hy);have h2' {x y} (hx:x∈zy) (hy:y∈zy):=and_eq_true_iff.mp (h1 hx hy).1;exact ⟨fun x hx y hy e=>eq_of_beq (im e (h2' hx hy).1),fun x hx y hy e=>Bool.noConfusion ((congrArg (!·) (beq_iff_eq.mpr e)).symm.trans (h2' hx hy).2),fun x hx y hy e=>eq_of_beq (im e (h1 hx hy).2),fun x hx=>of_decide_eq_true (all_eq_true.mp h2 x hx)⟩
end
section
theorem RC.FT{s:Sg}{a:Ex}{t:Ts}{i:Ls}{β:Type}{B:Tg}{emb:β→D}{bd:β→Sg}{n:List β}{g:β→D}(h:RL i s (n.map emb))(hb:∀ z γ k,B γ s (emb z) k=k (bd z))(h1:∀ z∈n,RT t (bd z) true)(h2:∀ z∈n,Rn a (bd z) (g z)):RC (fC B i (iC t (mC a))) s (n.map g):=
 rwL (P:=RC (fC B i (iC t (mC a))) s) (jd n) (.F h hb fun z m=>.T (h1 z m) (.M (h2 z m)))
theorem RB.At{t:Ts}{s:Sg}{R:Bs}(h1:RT t s true)(h2:RB R s true):RB (cB true t R) s true:=(h1 _ _).trans h2
theorem RB.On{t:Ts}{s:Sg}{R:Bs}(h1:RT t s false)(h2:RB R s false):RB (cB false t R) s false:=(h1 _ _).trans h2
theorem zzm(b:Bool):xJ .Is (.bool b) (.bool b)=some true:=congrArg some (beq_self_eq_true b)
theorem znr{s:Sg}{ns:List Int}(h:s "numbers"=some (iL ns))(hl:ns.length≤10):RS rl7 s (upd s "judged" (iL ([-1,0,255,256,257,258,259]++ns))) .next:=
 have hl:7+ns.length≤100:=le_trans (add_le_add_left hl 7) (by decide)
 .A (.lc (.FT (.X (.O (.L (.C .C (.C .C (.C .C (.C .C (.C .C (.C .C (.C .C .N)))))))) (.V h) (jK (a:=[-1,0,255,256,257,258,259]) (cpN hl))) (zf _)) (fun z z z=>rfl)
  (fun i z=>.B (.At (.Q (.E (.C (.V rfl) .N) (b5 i)) (.Q (.Q (.V rfl) .C rfl)) (zzm _)) (.At (.Q (.E (.C (.V rfl) .N) (b6 i)) (.Q (.Q (.V rfl) .C rfl)) (zzm _)) (.At (.Q (.E (.C (.V rfl) .N) (w9 i)) (.Q (.Q (.V rfl) .C rfl)) (zzm _)) .N))))
  fun z z=>.V rfl) (cpM (by rw [length_append];exact hl)))
theorem zph:((List.range 2).all fun a=>decide ((xy a).length≤1)&&((xy a==("~":Str))==decide (a=1)))=true∧((List.range 4).all fun b=>decide ((vm b).length≤3))=true:=by decide+kernel
theorem zgo{a:Nat}(ha:a<2):(xy a).length≤1∧(xy a==("~":Str))=decide (a=1):=X02 (and_eq_true_iff.mp (all_eq_true.mp zph.1 a (mem_range.mpr ha))) fun p q=>⟨of_decide_eq_true p,eq_of_beq q⟩
theorem zj5{b:Nat}(hb:b<4):(vm b).length≤3:=of_decide_eq_true (all_eq_true.mp zph.2 b (mem_range.mpr hb))
theorem zhi:∀ n∈zy,(ofString (toString n)).length≤3∧zK n=true:=by decide+kernel
theorem zh0(x y:Str):xJ .Eq (.str x) (.str y)=some (x==y):=id rfl
theorem pu{x y:Str}{m n:Nat}(hx:x.length≤m)(hy:y.length≤n):(x++y).length≤m+n:=(PySem.Str.length_append x y).symm▸add_le_add hx hy
theorem Rn.cat{s:Sg}{e f:Ex}{x y:Str}{m n:Nat}(h1:Rn e s (.str x))(h2:Rn f s (.str y))(hx:x.length≤m)(hy:y.length≤n)(h:m+n≤zz:=by decide):Rn (oE .Add e f) s (.str (x++y)):=.O h1 h2 (zzz (le_trans (add_le_add hx hy) h))
theorem zdo:(":":Str).length≤1∧("(":Str).length≤1∧(")":Str).length≤1:=by decide+kernel
theorem zns{s:Sg}{a b:Nat}{js:List Int}(ha:a<2)(hb:b<4)(h1:s "file"=some (.str (xy a)))(h2:s "name"=some (.str (vm b)))(h3:s "short"=some (.str (zqk b)))(h4:s "names"=some (zR (nmS a b)))(h5:s "judged"=some (iL js))(hl:js.length≤100):RS rl8 s (upd s "judged" (iL (js++zy))) .next:=
 X02 (zgo ha) fun l1 l2=>X03 zdo fun c1 c2 c3=>
 .A (.O (.V h5) (.lc (.FT (n:=zy) (emb:=D.int) (.X (.V h4) rfl) (fun z z z=>rfl) (fun n hn=>X02 (zhi n hn) fun lt cn=>
   have e:((n==0)&&((xy a==("~":Str))&&true))=decide (a=1∧n=0):=by
    rw [l2,Bool.and_true,Bool.and_comm];exact (Bool.decide_and ..).symm
   have k1:=pu l1 c1;have k2:=pu k1 lt;have k3:=pu k2 c2
   .Q (.I (.V h4) (.V rfl) (qz hn)) (.dec (f:=D.str) (c:=a=1∧n=0) (e▸ .B (.A (.Q (.V rfl) .C rfl) fun z=>.A (.Q (.V h1) .C rfl) fun z=>.N)) (fun z=>.V h3)
    fun z=>.cat (.cat (.cat (.cat (.cat (.V h1) .C l1 c1) (.E (.C (.V rfl) .N) ((zzf _).trans (zbH cn))) k1 lt) .C k2 c2) (.V h2) k3 (zj5 hb)) .C (pu k3 (zj5 hb)) c3) ((zh0 ..).trans (congrArg some (beq_self_eq_true _)))) fun z z=>.V rfl) (le_of_ble_eq_true rfl))
  (jK (b:=zy) (cpN (m:=105) (add_le_add_right hl 5))))
theorem zh1{n:Nat}(l:List Int):eqD (n+2) (iL l) (iL l)=some true:=by
 have:∀ l:List Int,yZ (eqD (n+1)) (l.map .int) (l.map .int)=some true:=fun l=>by
  induction l with
  |nil=>rfl
  |cons a l ih=>
   show ((some (a==a)).bind fun b=>(yZ (eqD (n+1)) (l.map .int) (l.map .int)).bind fun c=>some (b&&c))=_
   rw [beq_self_eq_true,ih];rfl
 show (if (l.map D.int).length=(l.map D.int).length then yZ (eqD (n+1)) (l.map .int) (l.map .int) else some false)=_
 rw [if_pos rfl,this]
theorem pg{d:D}(h:eqD 8 d d=some true):xJ .NotEq d d=some false:=congrArg (·.map (!·)) h
theorem znt{s:Sg}{es:List Nat}{c0 c1 c2 c3 c4 c5:Int}{js:List Int}(h1:s "ends"=some (cD es))(h2:s "cells"=some (iL [c0,c1,c2,c3,c4,c5]))(h3:s "numbers"=some (iL [7+c0.fmod 48,7+c1.fmod 48,7+c2.fmod 48,7+c3.fmod 48]))(h4:s "judged"=some (iL js))(hj:js.length=16):RS rl9 s s .next:=
 .If (.B (.On (.Q (.V h1) .C rfl) (.On (.Q (.V h3) (.lc (.FM (n:=[c0,c1,c2,c3]) (.X (.Z (.V h2) .N (.E .C (jZ ⟨by decide,by decide⟩)) .N rfl) rfl) (fun z z z=>rfl) fun c z=>.O .C (.m (.V rfl)) rfl) (le_of_ble_eq_true rfl)) (pg (zh1 [7+c0.fmod 48,7+c1.fmod 48,7+c2.fmod 48,7+c3.fmod 48]))) (.On (.Q (.E (.C (.V h4) .N) ((zwL _).trans ((zgI (hj▸by decide)).trans (by rw [hj])))) .C rfl) .N)))) .P
theorem zh2{s:Sg}{es:List Nat}{ns:List Int}(h1:s "ends"=some (cD es))(h2:s "numbers"=some (iL ns))(he:es.length=4)(hn:ns.length=4):RS zm8 s (upd s "rules" (zt (zjl es ns))) .next:=
 .A (.E (.C (.V h1) (.C (.V h2) .N)) ((zwR ..).trans (zdp he hn)))
theorem zda:∀ es∈E14,es.length=4:=by decide+kernel
end
section
structure RW(R W:zx)(ns:List Int):Prop where
 put:R=zqq ns W
 nums:xn ns
 facts:qx W
theorem RW.keys{R W:zx}{ns:List Int}(h:RW R W ns):R.map (fun z=>z.1)=zy:=by rw [h.put,zjc,h.facts.keys]
theorem zj6:∀ {R:zx} {p:Int × List Int},(R.map (fun z=>z.1)).Nodup→p∈R→zr R p.1=some p.2
 |[],_,_,h=>nomatch h
 |q::r,p,hn,h=>by
  rw [map_cons,nodup_cons] at hn;unfold zr;rw [find?_cons];rcases mem_cons.mp h with rfl|h
  ·rw [decide_eq_true rfl];rfl
  ·rw [decide_eq_false (fun e:q.1=p.1=>hn.1 (mem_map.mpr ⟨p,h,e.symm⟩))];exact zj6 hn.2 h
theorem RW.look{R W:zx}{ns:List Int}(h:RW R W ns){p:Int × List Int}(hp:p∈R):zr R p.1=some p.2:=zj6 (by rw [h.keys];decide+kernel) hp
noncomputable def isT(i:Int):Bool:=decide (i<256)&& !(i==0)
noncomputable def zj7(ns:List Int)(k:Int):Int:=if k=0 then 0 else ns.getD (k - 256).toNat 0
theorem zde{w:Int}(h:z0 w=true):isT w=false:=by
 unfold z0 at h;unfold isT;rw [or_eq_true,beq_iff_eq,decide_eq_true_eq] at h;rcases h with rfl|h
 ·rfl
 ·rw [decide_eq_false (by lia)];rfl
theorem vL{l:List Int}(h:∀ w∈l,z0 w=true):l.filter isT=[]:=List.filter_eq_nil_iff.mpr fun w m=>by rw [zde (h w m)];decide
theorem RW.sum{R W:zx}{ns:List Int}(h:RW R W ns){p:Int × List Int}(hp:p∈R):p.2.filter isT=(if p.1=0 then [] else [zj7 ns p.1])∧0≤zj7 ns p.1∧zj7 ns p.1≤54∧p.2.length≤11:=by
 have hp':=hp;rw [h.put] at hp';obtain ⟨q,hq,e,⟨e2,e0⟩|⟨e2,e0⟩⟩:=zwM ns W p hp'
 ·have w:=h.facts.ways q hq;rw [e2,if_pos e0,vL w.2.1];unfold zj7;rw [if_pos e0];exact ⟨rfl,by exact natCast_nonneg _,by exact natCast_nonneg _,by lia⟩
 ·have w:=h.facts.ways q hq;have hk:p.1∈zy:=by rw [e];exact xz h.facts hq
  have b:=px h.nums hk e0;rw [e2,if_neg e0,filter_cons,vL w.2.1]
  have t:isT (ns.getD (p.1 - 256).toNat 0)=true:=by
   unfold isT;rw [decide_eq_true (by omega),Bool.true_and,beq_false_of_ne (by omega)];rfl
  unfold zj7;rw [if_pos t,if_neg e0];exact ⟨rfl,by omega,by omega,by simp;lia⟩
theorem zpm{R:zx}:jB (zt R)=some (R.map fun p=>D.int p.1):=congrArg some map_map
theorem znl{s:Sg}{i:Int}(h:s "one"=some (.int i)):RT (bT (cB true (eT (CE x22 "ISTERMINAL" (cL (vE "one") nL))) (cB true (nT (eT (CE x22 "ISEOF" (cL (vE "one") nL)))) (nB true)))) s (isT i):=
 .B (.A (.E (.E (.C (.V h) .N) (b5 i))) fun z=>Bool.and_true (!(i==0))▸RB.A (.N (.E (.E (.C (.V h) .N) (w9 i)))) fun z=>.N)
theorem zdi{s:Sg}{x:Str}{i:Int}(h:s x=some (.int i)):RT (bT (cB false (eT (CE x22 "ISEOF" (cL (vE x) nL))) (cB false (eT (CE x22 "ISNONTERMINAL" (cL (vE x) nL))) (nB false)))) s (z0 i):=
 .B (.O (.E (.E (.C (.V h) .N) (w9 i))) fun z=>Bool.or_false (decide (i≥256))▸RB.O (.E (.E (.C (.V h) .N) (b6 i))) fun z=>.N)
theorem RW.len{R W:zx}{ns:List Int}(X:RW R W ns):R.length=5:=(length_map ..).symm.trans (congrArg List.length X.keys)
theorem zh3{s:Sg}{R W:zx}{ns:List Int}(X:RW R W ns)(h:s "rules"=some (zt R)):RS zm9 s (upd s "times" (qf (zj7 ns))) .next:=
 .A (.dc (.FK (emb:=fun p:Int × List Int=>D.int p.1) (g:=fun p=>D.int p.1) (k:=fun p=>D.int (zj7 ns p.1)) (.X (.V h) zpm) (fun y y y=>rfl) (fun y y=>.V rfl) fun p hp=>X04 (X.sum hp) fun e1 e2 e3 e4=>
  .E (.C (.lc (.FI (p:=isT) (g:=D.int) (.X (.I (.V h) (.V rfl) (qe (X.look hp))) (zf _)) (fun y y y=>rfl) (fun i y=>znl rfl) fun y y y=>.V rfl) (cpM (m:=11) (le_trans (length_filter_le ..) e4))) .N) ((zdn _).trans (by
   rw [e1];by_cases z:p.1=0
   ·rw [if_pos z,z];rfl
   ·rw [if_neg z];exact (zjk (l:=[zj7 ns p.1]) (le_of_ble_eq_true rfl) fun i m=>mem_singleton.mp m▸jL e2 (Int.le_trans e3 (by decide))).trans (congrArg (fun z=>some (D.int z)) (List.sum_singleton ..))))) (cpM (m:=5) (le_of_eq X.len))
  ((congrArg qV ((map_map (l:=R) (f:=fun p:Int × List Int=>p.1) (g:=fun n=>(D.int n,D.int (zj7 ns n)))).symm.trans (congrArg (List.map _) X.keys))).trans (show qV (zy.map fun n=>(D.int n,D.int (zj7 ns n)))=some (qf (zj7 ns)) by kernel_rfl)))
theorem zh4{s:Sg}{R W:zx}{ns:List Int}(X:RW R W ns)(h:s "rules"=some (zt R)):RS zmQ s (upd s "steps" (iL (zX W))) .next:=by
 have e:(R.flatMap fun p=>((p.2.filter z0).map fun w=>D.int (512 *p.1+w)))=(zX W).map D.int:=by
  rw [←zwN X.nums X.facts, ←X.put];unfold zX;rw [map_flatMap];exact congrArg (fun f=>R.flatMap f) (funext fun p=>map_map.symm)
 exact .A (.lc (l:=(zX W).map D.int) (rwL (P:=RC _ _) e (.F (emb:=fun p:Int × List Int=>D.int p.1) (.X (.V h) zpm) (fun z z z=>rfl) fun p hp=>.FI (p:=z0) (.X (.I (.V h) (.V rfl) (qe (X.look hp))) (zf _)) (fun z z z=>rfl) (fun i z=>zdi rfl) fun z z z=>.O (.O .C (.V rfl) (gH rfl)) (.V rfl) rfl)) (cpM X.facts.len))
theorem zh5{s:Sg}{R W:zx}{ns:List Int}{c0 c1 c2 c3 c4 c5:Int}(X:RW R W ns)(h:s "rules"=some (zt R))(h2:s "cells"=some (iL [c0,c1,c2,c3,c4,c5]))(h4:0≤c4∧c4≤400000):
  ∃ made:List Int,made.length≤180∧xD made∧(∀ m∈made,m∈zX W)∧RS zmZ s (upd s "made" (iL made)) .next:=
 have run (d:Int):∃ made:List Int,made.length≤60∧kn 0 made=true∧(∀ m∈made,m∈zX W)∧x22.call "_law_run" [zt R,.int ((c4.fdiv d).fmod 16)]=some (iL made):=by
  have q:=kI (c4.fdiv d) (n:=16) (by decide);have l:=ki (c4.fdiv d) (n:=16) (by decide);refine X14 (X.facts.runs ((c4.fdiv d).fmod 16).toNat ((toNat_lt q).mpr l)) fun made e1 e2 e3 e4=>?_;rw [toNat_of_nonneg q, ←zdd X.nums X.facts, ←X.put] at e1;exact ⟨made,e3,e2,e4,(zdf ..).trans (zmM (X.put▸zhl X.nums X.facts) ⟨q,lt_trans l (by decide)⟩ e1)⟩
 have z:za c4:=⟨Int.lt_of_lt_of_le (by decide) h4.1,Int.lt_of_le_of_lt h4.2 (by decide)⟩
 X14 (run 1) fun a a1 a2 a3 a4=>X14 (run 16) fun b b1 b2 b3 b4=>X14 (run 256) fun c c1' c2' c3' c4'=>
 have hl:(a++b++c).length≤180:=by rw [length_append,length_append];exact add_le_add (add_le_add a1 b1) c1'
 have e:(([(1,a),(16,b),(256,c)]:List (Int × List Int)).flatMap fun q=>q.2.map D.int)=(a++b++c).map D.int:=by
  rw [map_append,map_append,append_assoc];show a.map D.int++(b.map D.int++(c.map D.int++[]))=_;rw [append_nil]
 have ok (q:Int × List Int) (m:q∈[(1,a),(16,b),(256,c)]):x22.call "_law_run" [zt R,.int ((c4.fdiv q.1).fmod 16)]=some (iL q.2)∧za q.1∧q.1≠0:=by
  rcases mem_cons.mp m with rfl|m
  ·exact ⟨a4,show za 1 from ⟨by decide,by decide⟩,show (1:Int)≠0 by decide⟩
  ·rcases mem_cons.mp m with rfl|m
   ·exact ⟨b4,show za 16 from ⟨by decide,by decide⟩,show (16:Int)≠0 by decide⟩
   ·rw [mem_singleton.mp m];exact ⟨c4',show za 256 from ⟨by decide,by decide⟩,show (256:Int)≠0 by decide⟩
 ⟨a++b++c,hl,vf a2 b2 c2',fun m hm=>(mem_append.mp hm).elim (fun hm=>(mem_append.mp hm).elim (a3 m) (b3 m)) (c3' m),
  .A (.lc (l:=(a++b++c).map D.int) (rwL (P:=RC _ _) e (.F (emb:=fun q:Int × List Int=>D.int q.1) (n:=[(1,a),(16,b),(256,c)]) (.X (.T (.C .C (.C .C (.C .C .N)))) rfl) (fun y y y=>rfl) fun q m=>.FM (.X (.E (.C (.V h) (.C (.m (.O (.I (.V h2) .C (by kernel_rfl)) (.V rfl) (jc z (ok q m).2.1 (ok q m).2.2))) .N)) (ok q m).1) (zf _)) (fun y y y=>rfl) fun y y=>.V rfl)) (cpM hl))⟩
end
section
theorem zqw{l:List Int}(h:l.Nodup):l.zipIdx=l.map fun s=>(s,l.idxOf s):=by
 apply List.ext_getElem
 ·simp
 ·intro i h1 h2;have hi:i<l.length:=by simpa using h1
  simp [List.getElem_zipIdx,Nodup.idxOf_getElem h i hi]
structure St(st made:List Int):Prop where
 nodup:st.Nodup
 len:st.length≤9
 mlen:made.length≤180
theorem zwI{st:List Int}(h:st.Nodup):yJ (st.map D.int)=st.map fun s=>D.tup [nD (st.idxOf s),D.int s]:=by
 unfold yJ;rw [zipIdx_map,zqw h,map_map,map_map];rfl
noncomputable def yj(made st:List Int)(s:Int):D:=.tup [.int (cnt made s),nD (st.idxOf s)]
theorem zh6{s:Sg}{st made:List Int}(X:St st made)(h1:s "steps"=some (iL st))(h2:s "made"=some (iL made)):RS zmY s (upd s "rows" (.list (st.map (yj made st)))) .next:=
 .A (.lc (.FM (emb:=fun x=>.tup [nD (st.idxOf x),.int x]) (zwI X.nodup▸ .E (.V h1)) (fun z z z=>rfl) fun x z=>.T (.C (.many zwL h2 (le_trans X.mlen (by decide)) fun z=>.V rfl) (.C (.V rfl) .N))) (cpM X.len))
def jh(i:Int):Prop:=i=1∨i= -1
theorem zvq{m:Int}(h0:0≤m)(h1:m<2):jh (2 *m - 1)∧jh (1 - 2 *m):=
 (show m=0∨m=1 by omega).elim (fun e=>e.symm▸⟨.inr rfl,.inl rfl⟩) fun e=>e.symm▸⟨.inl rfl,.inr rfl⟩
theorem zh7{s:Sg}{c0 c1 c2 c3 c4 c5:Int}(h:s "cells"=some (iL [c0,c1,c2,c3,c4,c5]))(h5:0≤c5∧c5≤400000):∃ many tie:Int,jh many∧jh tie∧
  RS zmK s (upd (upd (upd s "many" (.int many)) "tie" (.int tie)) "bare" (D.list [])) .next:=
 have i5:Rn (jE (vE "cells") (nE 5)) s (.int c5):=.I (.V h) .C (by kernel_rfl)
 ⟨2 *c5.fmod 2 - 1,1 - 2 *(c5.fdiv 2).fmod 2,(zvq (kI c5 (by decide)) (ki c5 (by decide))).1,(zvq (kI (c5.fdiv 2) (by decide)) (ki (c5.fdiv 2) (by decide))).2,
  .Ds (.C (.O (.O .C (.m i5) (gH rfl)) .C rfl) (.C (.O .C (.O .C (.m (.q i5 ⟨Int.lt_of_lt_of_le (by decide) h5.1,Int.lt_of_le_of_lt h5.2 (by decide)⟩ ⟨by decide,by decide⟩)) (gH rfl)) rfl) (.C (.L .N) .N)))⟩
noncomputable def tcD(many tie:Int):D:=.obj 45 [("comp_select_list",.list [.tup [.int 0,.int many],.tup [.int 1,.int tie]])]
theorem zrg(many tie:Int):x22.call "TupleComp" [.list [.tup [.int 0,.int many],.tup [.int 1,.int tie]]]=some (tcD many tie):=
 (zho _).trans (zx6 (c:=45) (.S (.V rfl) rfl ⟨by kernel_rfl,zero_le _⟩) (by kernel_rfl))
noncomputable def kOf(many tie:Int)(made st:List Int)(s:Int):Int × Int:=(many *cnt made s,tie *(st.idxOf s:Int))
noncomputable def jm(p:Int × Int):D:=.tup [.int p.1,.int p.2]
theorem xM{i:Int}(h:jh i)(x:Int):yQ .Mult (D.int i) (D.int x)=some (.int (i *x)):=gH (h.elim (fun e=>e▸rfl) fun e=>e▸rfl)
theorem zga(made st:List Int)(s:Int):zY (yj made st s) (.int 0)=some (.int (cnt made s)):=by kernel_rfl
theorem zd0(made st:List Int)(s:Int):zY (yj made st s) (.int 1)=some (nD (st.idxOf s)):=by kernel_rfl
theorem zh8{s:Sg}{st made:List Int}{many tie:Int}(X:St st made)(hm:jh many)(ht:jh tie)(h1:s "many"=some (.int many))(h2:s "tie"=some (.int tie))(h3:s "rows"=some (.list (st.map (yj made st)))):
  RS zmX s (upd (upd s "comp" (tcD many tie)) "keys" (.list (st.map fun x=>jm (kOf many tie made st x)))) .next:=
 .Ds (l:=[tcD many tie,.list (st.map fun x=>jm (kOf many tie made st x))]) (.C (.E (.C (.L (.C (.T (.C .C (.C (.V h1) .N))) (.C (.T (.C .C (.C (.V h2) .N))) .N))) .N) (zrg ..)) (.C (.lc (.FM (emb:=yj made st) (bd:=fun x=>upd s "row" (yj made st x)) (.X (.V h3) rfl) (fun z z z=>rfl) fun x z=>
  .T (.C (.O (.V h1) (.I (.V rfl) .C (zga ..)) (xM hm _)) (.C (.O (.V h2) (.I (.V rfl) .C (zd0 ..)) (xM ht _)) .N))) (cpM X.len)) .N))
noncomputable def gI(u a b z:Int):Int:=if a<b then -u else if a>b then u else z
noncomputable def sgI(many tie a i b j:Int):Int:=gI many a b (gI tie i j 0)
noncomputable def sgF(va vb:Int→Int):List (Int × Int)→Int
 |[]=>0
 |p::l=>gI p.2 (va p.1) (vb p.1) (sgF va vb l)
theorem zvz{many tie a i b j:Int}{l r:D}(l0:zY l (.int 0)=some (.int a))(l1:zY l (.int 1)=some (.int i))(r0:zY r (.int 0)=some (.int b))(r1:zY r (.int 1)=some (.int j)):
  fnC x0 42 ["self","left","right"] [] [tcD many tie,l,r]=some (.int (sgI many tie a i b j)):=
 (To.loop (emb:=jm) (bd:=fun p s=>upd (upd s "index" (.int p.1)) "direction" (.int p.2)) (b:=vU) (t:=zgM "index" "direction") (i:=xI (aE x0 "comp_select_list" (vE "self"))) (l:=[(0,many),(1,tie)]) (s:=par ["self","left","right"] [tcD many tie,l,r])
  (Inv:=fun t s=>s "left"=some l∧s "right"=some r∧sgF (fun k=>if k=0 then a else i) (fun k=>if k=0 then b else j) t=sgI many tie a i b j∧∀ p∈t,p.1=0∨p.1=1)
  (Q:=fun y f=>(f= .next∧0=sgI many tie a i b j)∨f= .ret (.int (sgI many tie a i b j)))
  (.X (.A (.V rfl) (by kernel_rfl) rfl) rfl) (fun y y=>rfl) (fun p t s x=>X04 x fun h1 h2 e hp=>by
   have h3:zY l (.int p.1)=some (.int (if p.1=0 then a else i))∧zY r (.int p.1)=some (.int (if p.1=0 then b else j)):=(hp p (mem_cons_self ..)).elim (fun e=>by rw [e];exact ⟨l0,r0⟩) fun e=>by rw [e];exact ⟨l1,r1⟩
   have e:gI p.2 (if p.1=0 then a else i) (if p.1=0 then b else j) (sgF (fun k=>if k=0 then a else i) (fun k=>if k=0 then b else j) t)=sgI many tie a i b j:=e;generalize (if p.1=0 then a else i)=u at h3 e;generalize (if p.1=0 then b else j)=v at h3 e;refine .S (.A (.I (.V h1) (.V rfl) h3.1)) (.S (.A (.I (.V h2) (.V rfl) h3.2)) ?_);unfold gI at e;by_cases q1:u<v
   ·rw [if_pos q1] at e;exact .mk (.Qr (.It (.Q (.V rfl) (.V rfl) (congrArg some (decide_eq_true q1))) (.R (.M (.V rfl))))) (.inr (congrArg (fun z=>Fl.ret (.int z)) e))
   ·rw [if_neg q1] at e;refine .S (.If (.Q (.V rfl) (.V rfl) (congrArg some (decide_eq_false q1))) .P) ?_;by_cases q2:u>v
    ·rw [if_pos q2] at e;exact .mk (.It (.Q (.V rfl) (.V rfl) (congrArg some (decide_eq_true q2))) (.R (.V rfl))) (.inr (congrArg (fun z=>Fl.ret (.int z)) e))
    ·rw [if_neg q2] at e;exact .mk (.If (.Q (.V rfl) (.V rfl) (congrArg some (decide_eq_false q2))) .P) ⟨h1,h2,e,fun p m=>hp p (mem_cons_of_mem _ m)⟩)
  (fun y x=>.inl ⟨rfl,x.2.2.1⟩) ⟨rfl,rfl,rfl,fun p m=>(mem_cons.mp m).elim (fun e=>e▸ .inl rfl) fun m=>mem_singleton.mp m▸ .inr rfl⟩).on fun s' f h q=>
 q.elim (fun q=>(bn (r:=.int 0) (.Q (q.1▸h) (.R .C))).trans (congrArg (fun z=>some (D.int z)) q.2)) fun q=>bn (.Qr (q▸h))
noncomputable def sgS(p q:Int × Int):Str:=if ltP p q=true then "-1" else if ltP q p=true then "1" else "0"
theorem zvj{u:Int}(h:jh u)(a b z:Int):gI u a b z=gI 1 (u *a) (u *b) z:=by
 rcases h with rfl|rfl
 ·rw [one_mul,one_mul]
 ·rw [Int.neg_one_mul,Int.neg_one_mul];unfold gI;rcases Int.lt_trichotomy a b with q|q|q
  ·rw [if_pos q,if_neg (Int.not_lt.mpr (Int.le_of_lt (neg_lt_neg q))),if_pos (neg_lt_neg q)];rfl
  ·rw [q,if_neg (Int.lt_irrefl _),if_neg (Int.lt_irrefl _),if_neg (Int.lt_irrefl _),if_neg (Int.lt_irrefl _)]
  ·rw [if_neg (Int.not_lt.mpr (Int.le_of_lt q)),if_pos q,if_pos (neg_lt_neg q)]
theorem zh9(x y i j:Int):zyD (.int (sgI 1 1 x i y j))=some (.str (sgS (x,i) (y,j))):=by
 have h1:zyD (.int 1)=some (.str "1"):=by kernel_rfl
 have h2:zyD (.int (-1))=some (.str "-1"):=by kernel_rfl
 have h3:zyD (.int 0)=some (.str "0"):=by kernel_rfl
 have lt {p q:Int} (a b:Int) (h:p<q):ltP (p,a) (q,b)=true∧ltP (q,b) (p,a)=false:=by
  unfold ltP;exact ⟨by rw [decide_eq_true h];rfl,by rw [decide_eq_false (Int.not_lt.mpr (Int.le_of_lt h)),decide_eq_false (Int.ne_of_gt h)];rfl⟩
 have eq (p a b:Int):ltP (p,a) (p,b)=decide (a<b):=by
  unfold ltP;rw [decide_eq_false (Int.lt_irrefl _),decide_eq_true rfl];rfl
 unfold sgI gI sgS;rcases Int.lt_trichotomy x y with q|q|q
 ·rw [if_pos q,(lt i j q).1];exact h2
 ·rw [q,if_neg (Int.lt_irrefl _),if_neg (Int.lt_irrefl _),eq,eq];rcases Int.lt_trichotomy i j with q|q|q
  ·rw [if_pos q,decide_eq_true q];exact h2
  ·rw [q,if_neg (Int.lt_irrefl _),if_neg (Int.lt_irrefl _),decide_eq_false (Int.lt_irrefl _)];exact h3
  ·rw [if_neg (Int.not_lt.mpr (Int.le_of_lt q)),if_pos q,decide_eq_false (Int.not_lt.mpr (Int.le_of_lt q)),decide_eq_true q];exact h1
 ·rw [if_neg (Int.not_lt.mpr (Int.le_of_lt q)),if_pos q,(lt j i q).1,(lt j i q).2];exact h1
theorem znc{many tie:Int}(hm:jh many)(ht:jh tie)(a i b j:Int):zyD (.int (sgI many tie a i b j))=some (.str (sgS (many *a,tie *i) (many *b,tie *j))):=
 (congrArg (fun z=>zyD (.int z)) ((zvj hm a b _).trans (congrArg (gI 1 (many *a) (many *b)) (zvj ht i j 0)))).trans (zh9 ..)
end
section
noncomputable def zvy(K:Int→Int × Int)(st:List Int):D:=.list (st.map fun s=>.list (st.map fun o=>.str (sgS (K o) (K s))))
theorem zrp{α:Type}{l:List α}(h:l.length≤9):l.length≤zz:=cpN h
theorem zvk{many tie:Int}(made st:List Int)(o x:Int):
  yC x22 "compare" false (tcD many tie) [yj made st o,yj made st x] some=some (.int (sgI many tie (cnt made o) (st.idxOf o) (cnt made x) (st.idxOf x))):=
 (show _=(fnC x0 42 ["self","left","right"] [] [tcD many tie,yj made st o,yj made st x]).bind some by kernel_rfl).trans (bK (zvz (zga made st o) (zd0 made st o) (zga made st x) (zd0 made st x)))
theorem zhQ{s:Sg}{st made:List Int}{many tie:Int}(X:St st made)(hm:jh many)(ht:jh tie)(h1:s "rows"=some (.list (st.map (yj made st))))(h2:s "comp"=some (tcD many tie)):
  RS zmW s (upd s "signs" (zvy (kOf many tie made st) st)) .next:=
 .A (.lc (.FM (emb:=yj made st) (.X (.V h1) rfl) (fun z z z=>rfl) fun x z=>.lc (.FM (emb:=yj made st) (.X (.V h1) rfl) (fun z z z=>rfl) fun o z=>.E (.C (.H (.V h2) (.C (.V rfl) (.C (.V rfl) .N)) (zvk ..)) .N) ((zzf _).trans (znc hm ht ..))) (cpM X.len)) (cpM X.len))
theorem zvx{f g:Int→D}(l:List Int):zqf (l.map f) (l.map g)=l.map fun x=>D.tup [f x,g x]:=by
 unfold zqf
 induction l with
 |nil=>rfl
 |cons a l ih=>simpa using ih
theorem zge(p q:Int × Int):(sgS p q==("-1":Str))=ltP p q:=by
 unfold sgS;cases ltP p q
 ·rw [if_neg (by decide)]
  split
  ·decide+kernel
  ·decide+kernel
 ·rw [if_pos rfl];decide+kernel
noncomputable def xr(K:Int→Int × Int)(st:List Int)(s:Int):List Int:=st.filter fun o=>ltP (K o) (K s)
noncomputable def zzn(K:Int→Int × Int)(st:List Int):List Int:=st.filter fun s=> !(zr (zv (xr K st s) (s.fdiv 512) [1, -1]) (s.fmod 512)).isSome
theorem zzr{s:Sg}{a b:Ex}{steps:List Int}{start:Int}(h1:Rn a s (iL steps))(h2:Rn b s (.int start))(hs:∀ i∈steps,za i)(hn:steps.length≤40):Rn (CE x22 "_law_roads" (cL a (cL b (cL (tE (cL (nE 1) (cL (nE (-1)) nL))) nL)))) s (zt (zv steps start [1, -1])):=
 .E (.C h1 (.C h2 (.C (.T (.C .C (.C .C .N))) .N))) ((zwS ..).trans (zxM (sides:=[1, -1]) hs hn (by decide)))
theorem zhZ{s:Sg}{st made:List Int}{K:Int→Int × Int}(X:St st made)(M:zH st)(h1:s "steps"=some (iL st))(h2:s "signs"=some (zvy K st)):RS zmV s (upd s "free" (iL (zzn K st))) .next:=
 have z (f:Int→D):zqf (st.map D.int) (st.map f)=st.map fun x=>D.tup [.int x,f x]:=zvx st
 .A (.lc (.FI (g:=D.int) (emb:=fun x=>.tup [.int x,.list (st.map fun o=>.str (sgS (K o) (K x)))]) (z _▸ .Z (.V h1) (.V h2)) (fun y y y=>rfl) (fun x hx=>
  have lb:(xr K st x).length≤9:=le_trans (length_filter_le ..) X.len
  .Q (.m (.V rfl)) (zzr (.lc (.FI (p:=fun o=>ltP (K o) (K x)) (g:=D.int) (emb:=fun o=>.tup [.int o,.str (sgS (K o) (K x))]) (z (fun o=>.str (sgS (K o) (K x)))▸ .Z (.V h1) (.V rfl)) (fun y y y=>rfl) (fun o y=>.Q (.V rfl) .C (congrArg some (zge _ _))) fun y y y=>.V rfl) (cpM lb)) (.O (.V rfl) .C (zgA (M.small x hx))) (fun i hi=>M.small i (mem_filter.mp hi).1) (le_trans lb (by decide))) qR) fun y y y=>.V rfl) (cpM (le_trans (length_filter_le ..) X.len)))
theorem zd1(p q:Int × Int):xJ .Lt (jm p) (jm q)=some (ltP p q):=rfl
theorem zd2(p q:Int × Int):xJ .Gt (jm p) (jm q)=some (ltP q p):=by
 show some (decide (p.1>q.1)||(p.1==q.1&&decide (p.2>q.2)))=_
 unfold ltP;rw [show (p.1==q.1)=decide (q.1=p.1) from decide_eq_decide.mpr eq_comm]
theorem zhJ{s:Sg}{st made:List Int}{K:Int→Int × Int}(X:St st made)(h1:s "keys"=some (.list (st.map fun x=>jm (K x)))):RS zmG s (upd s "due" (zvy K st)) .next:=
 .A (.lc (.FM (.X (.V h1) rfl) (fun z z z=>rfl) fun x z=>.lc (.FM (.X (.V h1) rfl) (fun z z z=>rfl) fun o z=>.bo (f:=D.str) (.Q (.V rfl) (.V rfl) (zd1 ..)) (fun z=>.C) fun z=>.bo (f:=D.str) (.Q (.V rfl) (.V rfl) (zd2 ..)) (fun z=>.C) fun z=>.C) (cpM X.len)) (cpM X.len))
theorem zvw{n:Nat}{α:Type}{f:α→D}{l:List α}(h:∀ x∈l,eqD n (f x) (f x)=some true):eqD (n+1) (.list (l.map f)) (.list (l.map f))=some true:=by
 have:∀ l:List α,(∀ x∈l,eqD n (f x) (f x)=some true)→yZ (eqD n) (l.map f) (l.map f)=some true:=fun l=>by
  induction l with
  |nil=>intro z;rfl
  |cons a l ih=>
   intro h
   show ((eqD n (f a) (f a)).bind fun b=>(yZ (eqD n) (l.map f) (l.map f)).bind fun c=>some (b&&c))=_
   rw [h a (mem_cons_self ..),ih fun x m=>h x (mem_cons_of_mem _ m)];rfl
 show (if (l.map f).length=(l.map f).length then yZ (eqD n) (l.map f) (l.map f) else some false)=_
 rw [if_pos rfl,this l h]
theorem zgi(K:Int→Int × Int)(st:List Int):xJ .NotEq (zvy K st) (zvy K st)=some false:=pg (zvw (n:=7) fun x z=>zvw (n:=6) fun o z=>congrArg some (beq_self_eq_true (sgS (K o) (K x))))
end
section
section
variable {many tie:Int} {made st:List Int}
noncomputable def zvt(tie:Int)(st:List Int)(p:Int × Int):Int:=st.getD (tie *p.2).toNat 0
theorem wC(ht:jh tie){x:Int}(hx:x∈st):zvt tie st (kOf many tie made st x)=x:=by
 unfold zvt kOf;have e:tie *(tie *(st.idxOf x:Int))=(st.idxOf x:Int):=by rcases ht with rfl|rfl<;>simp
 show st.getD (tie *(tie *(st.idxOf x:Int))).toNat 0=x
 rw [e,toNat_natCast];have hl:=List.idxOf_lt_length_iff.mpr hx;rw [getD_eq_getElem?_getD,getElem?_eq_getElem hl];exact getElem_idxOf hl
noncomputable def zj8(many tie:Int)(made st:List Int):List Int:=(wt (st.map (kOf many tie made st))).map (zvt tie st)
theorem zj9(ht:jh tie):(zj8 many tie made st).Perm st:=by
 refine ((yd _).map _).trans ?_;rw [map_map]
 have:st.map (zvt tie st ∘ kOf many tie made st)=st:=by
  have:∀ l:List Int,(∀ x∈l,x∈st)→l.map (zvt tie st ∘ kOf many tie made st)=l:=fun l=>by
   induction l with
   |nil=>intro z;rfl
   |cons a l ih=>
    intro h;rw [map_cons,ih fun x m=>h x (mem_cons_of_mem _ m)]
    show zvt tie st (kOf many tie made st a)::l=_
    rw [wC ht (h a (mem_cons_self ..))]
  exact this st fun x m=>m
 rw [this]
theorem zjQ(p:Int × Int)(h:p∈wt (st.map (kOf many tie made st))):∃ x∈st,p=kOf many tie made st x:=by
 refine X12 (mem_map.mp ((yd _).mem_iff.mp h)) fun x hx e=>?_;exact ⟨x,hx,e.symm⟩
theorem zd3(ht:jh tie):(zj8 many tie made st).map (kOf many tie made st)=wt (st.map (kOf many tie made st)):=by
 unfold zj8;rw [map_map]
 have:∀ l:List (Int × Int),(∀ p∈l,∃ x∈st,p=kOf many tie made st x)→l.map (kOf many tie made st ∘ zvt tie st)=l:=fun l=>by
  induction l with
  |nil=>intro z;rfl
  |cons a l ih=>
   intro h;refine X12 (h a (mem_cons_self ..)) fun x hx e=>?_;rw [map_cons,ih fun p m=>h p (mem_cons_of_mem _ m)]
   show kOf many tie made st (zvt tie st a)::l=_
   rw [e,wC ht hx]
 exact this _ fun p h=>zjQ p h
theorem zyW(ht:jh tie):(zj8 many tie made st).Pairwise fun a b=>leQ (kOf many tie made st a) (kOf many tie made st b):=by
 have:=jT (st.map (kOf many tie made st));rw [←zd3 ht] at this;exact List.pairwise_map.mp this
theorem zd4(ht:jh tie){x y:Int}(hx:x∈st)(hy:y∈st)(h:kOf many tie made st x=kOf many tie made st y):x=y:=by
 have:=congrArg (zvt tie st) h
 rwa [wC ht hx,wC ht hy] at this
theorem jn:∀ (l acc:List Int),(yq acc l).Sublist (acc++l)
 |[],acc=>by simp [yq]
 |x::l,acc=>by
  unfold yq
  split
  ·exact (jn l acc).trans (List.Sublist.append_left (List.sublist_cons_self x l) acc)
  ·have:=jn l (acc++[x])
   rwa [append_assoc] at this
theorem zzs(ht:jh tie)(M:zH st)(hn:st.Nodup):(yq [] (zj8 many tie made st)).Perm (zzn (kOf many tie made st) st):=by
 have hp:=zj9 (many:=many) (made:=made) (st:=st) ht;have hno:(zj8 many tie made st).Nodup:=hp.nodup_iff.mpr hn;have Mo:zH (zj8 many tie made st):=M.sub fun s h=>hp.mem_iff.mp h;refine (List.perm_ext_iff_of_nodup ?_ (hn.filter _)).mpr fun s=>?_
 ·exact hno.sublist (jn _ [])
 rw [kA (zj8 many tie made st) [] [] Mo (fun s h=>nomatch h) (fun s h=>nomatch h) hno s]
 have key:∀ a b:List Int,zj8 many tie made st=a++s::b→s∈st∧∀ u v,zA ([]++a) u v↔zA (xr (kOf many tie made st) st s) u v:=fun a b e=>by
  have hs:s∈st:=hp.mem_iff.mp (by rw [e];simp);have srt:=zyW (many:=many) (made:=made) (st:=st) ht;rw [e] at srt hno;have h1:=List.pairwise_append.mp srt;have h2:=pairwise_cons.mp h1.2.1;have n1:=nodup_append.mp hno
  have mem:∀ x,x∈a↔x∈xr (kOf many tie made st) st s:=fun x=>by
   unfold xr;rw [mem_filter];constructor
   ·intro hx;have hxs:x∈st:=hp.mem_iff.mp (by rw [e];simp [hx]);refine ⟨hxs,?_⟩;have le:=h1.2.2 x hx s (mem_cons_self ..);cases q:ltP (kOf many tie made st x) (kOf many tie made st s) with
    |true=>rfl
    |false=>exact absurd (zd4 ht hxs hs (zzM le (yb q))) fun z=>n1.2.2 x hx s (mem_cons_self ..) z
   ·rintro ⟨hx,lt⟩
    have:x∈a++s::b:=by rw [←e];exact hp.mem_iff.mpr hx
    rcases mem_append.mp this with h|h
    ·exact h
    rcases mem_cons.mp h with rfl|h
    ·have:=zmr.refl (kOf many tie made st x);exact absurd (this.symm.trans lt) (by decide)
    ·rw [kN (h2.1 x h)] at lt;cases lt
  refine ⟨hs,fun u v=>⟨zA.mono fun x hx=>.of_mem ((mem x).mp hx),zA.mono fun x hx=>.of_mem ((mem x).mpr hx)⟩⟩
 have fr:s∈zzn (kOf many tie made st) st↔s∈st∧¬ zA (xr (kOf many tie made st) st s) (s.fdiv 512) (s.fmod 512):=by
  unfold zzn;rw [mem_filter];refine and_congr_right fun hs=>?_;have r:=jQ (L:=xr (kOf many tie made st) st s) (M.sub fun x hx=>(mem_filter.mp hx).1) (M.tail s hs) (s.fmod 512);rw [←r];unfold has;cases (zr (zv (xr (kOf many tie made st) st s) (s.fdiv 512) [1, -1]) (s.fmod 512)).isSome<;>simp
 refine Iff.trans ?_ fr.symm;constructor
 ·rintro (h|⟨a,b,e,h⟩)
  ·cases h
  ·refine X02 (key a b e) fun hs k=>?_;exact ⟨hs,fun q=>h ((k _ _).mpr q)⟩
 ·rintro ⟨hs,h⟩
  refine X21 (List.append_of_mem (hp.mem_iff.mpr hs)) fun a b e=>?_;exact .inr ⟨a,b,e,fun q=>h (((key a b e).2 _ _).mp q)⟩
theorem zyV{a b:List Int}(h:a.Perm b):vk a=vk b:=zzH ((kM a).trans h) (jS a)
end
end
section
theorem zqv{l:List Int}(h:l.length≤60):yU (iL l)=some (iL (vk l)):=by
 show (if (l.map D.int).length<64 then (match qp asI (l.map D.int) with|some is=>some (D.list ((vk is).map .int))|none=>_) else none)=_
 rw [if_pos (lt_of_le_of_lt (lnM h) (by decide)),xB];rfl
theorem vC:∀ l:List (Int × Int),qp asP (l.map jm)=some l
 |[]=>rfl
 |a::l=>jF rfl (vC l)
theorem zqu{l:List (Int × Int)}(h:l.length≤60)(h2:2≤l.length):yU (.list (l.map jm))=some (.list ((wt l).map jm)):=by
 have e:qp asI (l.map jm)=none:=by
  cases l with
  |nil=>exact absurd h2 (by decide)
  |cons a l=>rfl
 show (if (l.map jm).length<64 then (match qp asI (l.map jm) with|some is=>some (D.list ((vk is).map .int))|none=>if (l.map jm).length<2 then none else (match qp asP (l.map jm) with|some ps=>some (D.list ((wt ps).map fun p=>.tup [.int p.1,.int p.2]))|none=>none)) else none)=_
 rw [if_pos (lt_of_le_of_lt (lnM h) (by decide)),e];dsimp only;rw [if_neg (by rw [length_map];exact not_lt.mpr h2),vC];rfl
theorem zvv{s:Sg}{acc:List Int}{x:Int}(h:s "bare"=some (iL acc))(hs:∀ i∈acc,za i)(hx:za x)(hl:acc.length≤20):
  RS zxU (upd s "step" (.int x)) (upd (upd s "step" (.int x)) "bare" (iL (if has (zv acc (x.fdiv 512) [1, -1]) (x.fmod 512) then acc else acc++[x]))) .next:=
 .A (.F (.Q (.m (.V rfl)) (zzr (.V h) (.O (.V rfl) .C (zgA hx)) hs (le_trans hl (by decide))) qR)
  (fun q=>rwR (P:=fun z=>Rn _ _ (iL z)) (if_neg fun e=>Bool.noConfusion ((congrArg (!·) e).symm.trans q)) (.O (.V h) (.L (.C (.V rfl) .N)) (jK (b:=[x]) (cpN (m:=21) (succ_le_succ hl)))))
  fun q=>rwR (P:=fun z=>Rn _ _ (iL z)) (if_pos ((not_not _).symm.trans (congrArg (!·) q))) (.V h))
theorem zhY{s:Sg}{st made:List Int}{many tie:Int}(X:St st made)(M:zH st)(ht:jh tie)(h2:2≤st.length)(h1:s "keys"=some (.list (st.map fun x=>jm (kOf many tie made st x))))(h3:s "steps"=some (iL st))(h4:s "tie"=some (.int tie))(h5:s "bare"=some (D.list [])):
  ∃ s',RS zmU s s' .next∧s' "bare"=some (iL (yq [] (zj8 many tie made st)))∧∀ x:Str,(x=="step")=false→(x=="bare")=false→s' x=s x:=
 have hp:=zj9 (many:=many) (made:=made) (st:=st) ht;have lo:(zj8 many tie made st).length≤9:=le_trans (le_of_eq hp.length_eq) X.len;have ks:(st.map (kOf many tie made st)).length=st.length:=length_map ..
 RS.loop (emb:=D.int) (bd:=fun x s=>upd s "step" (.int x)) (b:=zxU) (t:=.Name "step" default) (l:=zj8 many tie made st) (i:=xI (LE (f1C "key" (xI (CE x22 "sorted" (cL (vE "keys") nL))) (mC (jE (vE "steps") (oE .Mult (vE "tie") (jE (vE "key") (nE 1))))))))
  (Inv:=fun r σ=>(∃ acc,σ "bare"=some (iL acc)∧yq acc r=yq [] (zj8 many tie made st)∧acc.length+r.length≤9∧∀ i∈acc,i∈st)∧(∀ i∈r,i∈st)∧∀ x:Str,(x=="step")=false→(x=="bare")=false→σ x=s x)
  (.X (.lc (l:=(zj8 many tie made st).map D.int) (rwR (P:=RC _ s) map_map (.FM (emb:=jm) (.X (.E (.C (.V (h1.trans (congrArg (fun l=>some (D.list l)) (map_map (g:=jm)).symm))) .N) ((xj _).trans (zqu (ks▸le_trans X.len (by decide)) (ks▸h2)))) rfl) (fun y y y=>rfl) fun p hp'=>X12 (zjQ p hp') fun x hx e=>by
   subst e;have e:tie *(tie *(st.idxOf x:Int))=(st.idxOf x:Int):=by rcases ht with rfl|rfl<;>simp
   have hl:=List.idxOf_lt_length_iff.mpr hx
   exact .I (.V h3) (.O (.V h4) (.I (.V rfl) .C (d:=.int 1) (r:=.int (tie *(st.idxOf x:Int))) (by kernel_rfl)) (xM ht _)) (e.symm▸wZ (natCast_nonneg _) (ofNat_lt.mpr (lt_of_lt_of_le hl (le_trans X.len (by decide)))) (by
    show st[((st.idxOf x:Nat):Int).toNat]? =some (zvt tie st (kOf many tie made st x))
    rw [wC ht hx,toNat_natCast,getElem?_eq_getElem hl,getElem_idxOf hl])))) (cpM lo)) rfl) (fun y y=>rfl)
  (fun a r σ i=>X03 i fun e0 e5 e6=>X14 e0 fun acc e1 e2 e3 e4=>
   have ha:=e5 a (mem_cons_self ..);have e3:acc.length+1+r.length≤9:=by rw [add_right_comm];exact e3
   .mk (zvv e1 (fun i m=>M.small i (e4 i m)) (M.small a ha) (le_trans (le_of_succ_le (le_of_add_right_le e3)) (by decide)))
    ⟨rfl,⟨_,rfl,e2,by
     split
     ·exact le_trans (add_le_add_right (le_succ _) _) e3
     ·rw [length_append];exact e3,fun i hi=>by
     split at hi
     ·exact e4 i hi
     ·exact (mem_append.mp hi).elim (e4 i) fun m=>mem_singleton.mp m▸ha⟩,fun i m=>e5 i (mem_cons_of_mem _ m),fun x hx1 hx2=>((if_neg (ne_of_beq_false hx2)).trans (if_neg (ne_of_beq_false hx1))).trans (e6 x hx1 hx2)⟩)
  ⟨⟨[],h5,rfl,(zero_add _).symm▸lo,fun i m=>absurd m not_mem_nil⟩,fun i m=>hp.mem_iff.mp m,fun y y y=>rfl⟩ fun s' j1 j2=>X02 j2 fun e0 e=>X14 e0 fun acc e1 e2 y y=>
 ⟨s',j1,e1.trans (congrArg (fun z=>some (iL z)) e2),e.2⟩
section
variable {nm:Int→Str} {tm:Int→Int}
theorem zg0(made:List Int)(s:Int):jX made [] s=cnt made s:=by rw [zzx,yD,yD];rfl
theorem zhK{s:Sg}{st made bare free:List Int}{K:Int→Int × Int}{book:KV}(X:St st made)(M:zH st)(N:zZ nm)(T:zwk tm)(hm:∀ m∈made,m∈st)(B:ze nm tm (gC made) book)(hb:bare.Perm free)(hf:free.length≤9)
  (h1:s "signs"=some (zvy K st))(h2:s "due"=some (zvy K st))(h3:s "book"=some (.dS book))(h4:s "names"=some (zR nm))(h5:s "times"=some (qf tm))(h6:s "steps"=some (iL st))(h7:s "made"=some (iL made))(h8:s "bare"=some (iL bare))(h9:s "free"=some (iL free)):RS zmP s s .next:=
 X12 (zbV N T M X.nodup (steps:=st) (made:=made) (ring:=[]) (le_trans X.len (by decide)) (le_trans X.mlen (by decide)) (zero_le _)) fun kvs e1 e2=>
 have eqb:eqD 8 (.dS book) (.dS kvs)=some true:=ze.eq (n:=3) B e2 (qi made) (yH X.nodup) fun u y t y=>yF X.nodup hm (fun x y=>(zg0 made x).symm) u t
 .If (.B (.On (.Q (.V h1) (.V h2) (zgi ..)) (.On (.Q (.V h3) (.E (.C (.V h4) (.C (.V h5) (.C (.V h6) (.C (.V h7) (.C (.L .N) .N))))) ((zdh ..).trans e1)) (congrArg (·.map (!·)) eqb))
  (.On (.Q (.E (.C (.V h8) .N) ((xj _).trans ((zqv (hb.length_eq▸le_trans hf (by decide))).trans (congrArg (fun z=>some (iL z)) (zyV hb))))) (.E (.C (.V h9) .N) ((xj _).trans (zqv (le_trans hf (by decide))))) (pg (zh1 _))) .N)))) .P
end
end
section
theorem zyU{codes p q:List Int}{u v w:Int}(h:jO codes u p v)(h':jO codes v q w):jO codes u (p++q) w:=by
 induction h' with
 |nil=>rw [append_nil];exact h
 |snoc z h2 h3 ih=>rw [←append_assoc];exact .snoc ih h2 h3
theorem zvu{c c' p:List Int}{u v:Int}(hc:∀ x∈c,x∈c')(h:jO c u p v):jO c' u p v:=by
 induction h with
 |nil=>exact .nil _
 |snoc z h2 h3 ih=>exact .snoc ih (hc _ h2) h3
theorem zyG{a b sides:List Int}(h:∀ x∈a,x∈b):∀ x∈jw a sides,x∈jw b sides:=fun x hx=>by
 refine X12 (mem_flatMap.mp hx) fun s hs e=>?_;exact mem_flatMap.mpr ⟨s,h s hs,e⟩
def zqg(r:zx):Prop:=∀ q∈r,q.2.length<r.length
theorem zqg.step{r:zx}(h:zqg r)(a:Arc):zqg (qd r a):=by
 unfold qd;cases e1:zr r a.1 with
 |none=>exact h
 |some p=>
  dsimp only
  split
  ·exact h
  ·(refine X13 (qZ e1) fun q hq z z4=>?_;subst z4)
   have hl:=h q hq;intro x hx;rw [length_append,length_singleton];rcases mem_append.mp hx with hx|hx
   ·have:=h x hx;exact le_succ_of_le ‹_›
   ·rw [mem_singleton.mp hx]
    show (q.2++[a.2.2]).length<_
    rw [length_append,length_singleton];exact Nat.lt_succ_of_le ‹_›
theorem vO:∀ (L:List Arc) {r:zx},zqg r→zqg (L.foldl qd r)
 |[],_,h=>h
 |a::L,_,h=>vO L (h.step a)
theorem zzt{L:List Int}(S:zH L){u:Int}(hu:u∈zy){v:Int}{p:List Int}(h:zr (zv L u [1, -1]) v=some p):p.length≤4:=by
 have hA:∀ a∈jf L [1, -1],a.2.1∈zy:=fun a ha=>by
  obtain ⟨s,hs,rfl|rfl⟩:=pq ha
  ·exact S.head s hs
  ·exact S.tail s hs
 have x0:qW [(u,[])]:=⟨by simp,fun k hk=>by simp at hk;subst hk;exact hu⟩
 have x1:=zwm (L:=(replicate 4 (jf L [1, -1])).flatten) (fun a ha=>by
  refine X12 (mem_flatten.mp ha) fun l hl ha=>?_;rw [List.eq_of_mem_replicate hl] at ha;exact hA a ha) x0
 have x2:=vO (replicate 4 (jf L [1, -1])).flatten (r:=[(u,[])]) (fun q hq=>by rw [mem_singleton.mp hq];simp)
 (refine X13 (qZ h) fun q hq z z3=>?_;subst z3)
 have h1:=x2 q hq;have h2:=x1.len;unfold zv at hq;lia
theorem zvg{st bare:List Int}(M:zH st)(hp:∀ s∈st,0<s)(hb:∀ s∈bare,s∈st){x:Int}(hx:x∈st){p:List Int}(h:zr (zv bare (x.fmod 512) [1, -1]) (x.fdiv 512)=some p):
  jO (jw st [1, -1]) (x.fdiv 512) (x::p) (x.fdiv 512)∧p.length≤4:=by
 refine ⟨?_,zzt (M.sub hb) (M.head x hx) h⟩
 (refine X13 (qZ h) fun q hq e z2=>?_;subst z2)
 have h1:=wX (fun s hs=>hp s (hb s hs)) (x.fmod 512) q hq;rw [e] at h1;have h0:=hp x hx;have h2:jO (jw st [1, -1]) (x.fdiv 512) ([]++[x]) (zwv x):=.snoc (.nil _) (mem_flatMap.mpr ⟨x,hx,by simp⟩) (by unfold zuP;rw [if_pos h0]);have e2:zwv x=x.fmod 512:=by unfold zwv;rw [if_pos h0]
 rw [e2] at h2;exact zyU h2 (zvu (zyG hb) h1)
theorem zhX{nm:Int→Str}{tm:Int→Int}(N:zZ nm){s:Sg}{st made:List Int}(X:St st made)(M:zH st)(hm:∀ m∈made,m∈st)(h1:s "names"=some (zR nm))(h2:s "times"=some (qf tm))(h3:s "made"=some (iL made)):
  ∃ book,ze nm tm (gC made) book∧RS zmJ s (upd s "book" (.dS book)) .next:=
 X12 (zwq (tm:=tm) N (M.sub hm) (le_trans X.mlen (by decide))) fun kvs e B=>⟨kvs,B,.A (.E (.C (.V h1) (.C (.V h2) (.C (.V h3) .N))) ((zgr ..).trans e))⟩
theorem zhW(x:Int)(l:List Int):xJ .In (.int x) (iL l)=some (l.any (· ==x)):=congrArg (Option.map fun ns:List Int=>ns.any (· ==x)) (ji l)
theorem pp(x:Int)(l:List Int):xJ .NotIn (.int x) (iL l)=some (!l.any (· ==x)):=congrArg (·.map (!·)) (zhW x l)
theorem zqp{i:Nat}(h:i<10):(2:Int) ^ i≠0∧za ((2:Int) ^ i):=(by decide:∀ i∈List.range 10,(2:Int) ^ i≠0∧ -1000000<(2:Int) ^ i∧(2:Int) ^ i<1000000) i (mem_range.mpr h)
theorem zhV{s:Sg}{st made free:List Int}{c0 c1 c2 c3 c4 c5:Int}(X:St st made)(h1:s "steps"=some (iL st))(h2:s "free"=some (iL free))(h3:s "cells"=some (iL [c0,c1,c2,c3,c4,c5]))(h5:0≤c5∧c5≤400000):
  ∃ q:Int→Bool,RS zmB s (upd (upd s "bare" (iL (st.filter q))) "shown" (D.list [])) .next:=
 have z5:za c5:=⟨Int.lt_of_lt_of_le (by decide) h5.1,Int.lt_of_le_of_lt h5.2 (by decide)⟩
 have z4:za (c5.fdiv 4):=by
  rw [Int.fdiv_eq_ediv_of_nonneg _ (by decide)];exact ⟨Int.lt_of_lt_of_le (by decide) (Int.ediv_nonneg h5.1 (by decide)),Int.lt_of_le_of_lt (Int.le_trans (Int.ediv_le_self _ h5.1) h5.2) (by decide)⟩
 ⟨fun x=>(free.any (· ==x))==(((c5.fdiv 4).fdiv (2 ^ (st.idxOf x):Int)).fmod 2==0),.Ds (l:=[iL (st.filter fun x=>(free.any (· ==x))==(((c5.fdiv 4).fdiv (2 ^ (st.idxOf x):Int)).fmod 2==0)),.list []]) (.C (.lc (.FI (g:=D.int) (emb:=fun x=>.tup [nD (st.idxOf x),.int x]) (zwI X.nodup▸ .E (.V h1)) (fun z z z=>rfl) (fun x hx=>
  have hi:st.idxOf x<10:=lt_of_lt_of_le (List.idxOf_lt_length_iff.mpr hx) (le_succ_of_le X.len)
  .Q (.Q (.Q (.V rfl) (.V h2) (zhW ..))) (.Q (.Q (.m (.O (.q (.I (.V h3) .C (d:=.int 5) (by kernel_rfl)) z5 ⟨by decide,by decide⟩) (.O .C (.V rfl) (if_pos ⟨rfl,natCast_nonneg _,ofNat_le.mpr (le_trans (le_of_lt hi) (by decide))⟩)) (jc z4 (zqp hi).2 (zqp hi).1))) .C rfl)) rfl) fun z z z=>.V rfl) (cpM (le_trans (length_filter_le ..) X.len))) (.C (.L .N) .N))⟩
end
section
structure zqb(st made:List Int):Prop where
 s:St st made
 m:zH st
 pos:∀ s∈st,0<s
 there:qJ (zv st 0 [1])
 home:qJ (zv st 0 [-1])
 sub:∀ m∈made,m∈st
 bal:xD made
structure AtL(nm:Int→Str)(tm:Int→Int)(s:Sg)(st made bare:List Int)(book:KV):Prop where
 names:s "names"=some (zR nm)
 times:s "times"=some (qf tm)
 steps:s "steps"=some (iL st)
 rows:s "rows"=some (.list (st.map (yj made st)))
 book:s "book"=some (.dS book)
 bare:s "bare"=some (iL bare)
theorem zqd(l:List Int)(x:Int):l.any (· ==x)=l.contains x:=by
 rw [Bool.eq_iff_iff];simp
theorem RB.Af{t:Ts}{s:Sg}{R:Bs}(h:RT t s false):RB (cB true t R) s false:=h _ _
theorem RB.As{t:Ts}{s:Sg}{R:Bs}{b:Bool}(h:RT t s true)(h2:RB R s b):RB (cB true t R) s b:=(h _ _).trans h2
theorem zd5{st:List Int}{x:Int}(hx:x∈st)(hl:st.length≤9):yC x22 "index" false (iL st) [.int x] some=some (nD (st.idxOf x)):=
 (show _=(jP "index" (iL st) [.int x]).bind some by kernel_rfl).trans (bK (by
  exact (show _=(yi (st.map D.int)).bind fun ns=>if ns.contains x=true∧ns.length≤zz then some (D.int (ns.idxOf x)) else none by kernel_rfl).trans ((bK (ji st)).trans (if_pos ⟨by simpa using hx,zrp hl⟩))))
section
variable {nm:Int→Str} {tm:Int→Int} {st made bare:List Int} {book:KV}
theorem zhU(N:zZ nm)(G:zqb st made)(B:ze nm tm (gC made) book){s:Sg}(A:AtL nm tm s st made bare book)(hb:bare=st.filter fun s=>bare.contains s){x:Int}(hx:x∈bare)
  (hout:(zr (zv (bare.filter fun s=>s !=x) (x.fmod 512) [1, -1]) (x.fdiv 512)).isSome=false)(h1:s "step"=some (.int x))(h2:s "inside"=some (zt (zv (bare.filter fun s=>s !=x) (x.fmod 512) [1, -1]))):
  RT (qT .NotEq (CE x22 "_law_told" (cL (vE "names") (cL (vE "book") (cL (LE (f1C "one" (xI (vE "steps")) (iC (qT .NotIn (vE "one") (vE "bare")) (mC (vE "one"))))) (cL (vE "inside") nL))))) (LE (f1C "sign" (xI (tE (cL (nE 1) (cL (nE (-1)) nL)))) (mC (CE x22 "str" (cL (oE .Mult (vE "sign") (jE (jE (vE "rows") (ME x22 "index" false (vE "steps") (cL (vE "step") nL))) (nE 0))) nL)))))) s false:=
 have hxs:x∈st:=(mem_filter.mp (hb▸hx)).1;have lx:=List.idxOf_lt_length_iff.mpr hxs;have l9:=G.s.len;have hcl:(st.filter fun s=> !bare.contains s).length≤9:=le_trans (length_filter_le ..) l9;have c0:0≤cnt made x:=natCast_nonneg _;have c1:cnt made x≤180:=ofNat_le.mpr (le_trans (length_filter_le ..) G.s.mlen);have tv:=zfH N (qi made) B (inside:=zv (bare.filter fun s=>s !=x) (x.fmod 512) [1, -1]) (counters:=st.filter fun s=> !bare.contains s) (G.m.sub fun s h=>(mem_filter.mp h).1) (le_trans hcl (by decide)) (zy6 G.m G.s.nodup G.sub G.bal hb hx hout) ⟨Int.lt_of_lt_of_le (by decide) c0,Int.lt_of_le_of_lt c1 (by decide)⟩
 .Q (.E (.C (.V A.names) (.C (.V A.book) (.C (.lc (.FI (p:=fun i=> !bare.contains i) (g:=D.int) (.X (.V A.steps) (zf _)) (fun y y y=>rfl) (fun i y=>.Q (.V rfl) (.V A.bare) ((pp ..).trans (congrArg (fun z=>some (!z)) (zqd ..)))) fun y y y=>.V rfl) (cpM hcl)) (.C (.V h2) .N)))) ((zgs ..).trans tv))
  (.lc (.FM (n:=[1, -1]) (emb:=D.int) (g:=fun i:Int=>.str (ofString (toString (i *cnt made x)))) (.X (.T (.C .C (.C .C .N))) rfl) (fun y y y=>rfl) fun i hi=>
   have hu:jh i:=(mem_cons.mp hi).imp id mem_singleton.mp
   .E (.C (.O (.V rfl) (.I (.I (.V A.rows) (.H (.V A.steps) (.C (.V h1) .N) (zd5 hxs l9)) (ja (natCast_nonneg _) (ofNat_lt.mpr (lt_of_lt_of_le lx (le_trans l9 (by decide)))) (by rw [toNat_natCast,getElem?_eq_getElem lx,getElem_idxOf lx]))) .C (zga ..)) (xM hu _)) .N) ((zzf _).trans (zbH (za.cap (by
    rcases hu with rfl|rfl
    ·rw [one_mul];exact ⟨Int.lt_of_lt_of_le (by decide) c0,Int.lt_of_le_of_lt c1 (by decide)⟩
    ·rw [Int.neg_one_mul];exact ⟨neg_lt_neg (Int.lt_of_le_of_lt c1 (by decide)),Int.lt_of_le_of_lt (Int.neg_nonpos_of_nonneg c0) (by decide)⟩))))) (le_of_ble_eq_true rfl))
  (pg (zvw (n:=7) (f:=fun i:Int=>.str (ofString (toString (i *cnt made x)))) (l:=[1, -1]) fun i y=>congrArg some (beq_self_eq_true (ofString (toString ((i:Int) *cnt made x))))))
end
end
section
section
variable {nm:Int→Str} {tm:Int→Int} {st made bare:List Int} {book:KV}
theorem zd6(d:D):x22.call "abs" [d]=zdN d:=by kernel_rfl
def ShI(nm:Int→Str)(tm:Int→Int)(st made bare:List Int)(book:KV)(r:List Int)(s:Sg):Prop:=AtL nm tm s st made bare book∧(∀ i∈r,i∈bare)∧∃ sh,s "shown"=some (iL sh)∧sh.length+5 *r.length≤100
theorem zvp(N:zZ nm)(T:zwk tm)(G:zqb st made)(B:ze nm tm (gC made) book)(hb:bare=st.filter fun s=>bare.contains s)(x:Int)(r:List Int)(s:Sg)(I:ShI nm tm st made bare book (x::r) s):
  To zxG (upd s "step" (.int x)) fun s f=>f= .next∧ShI nm tm st made bare book r s:=
 X03 I fun A hr e=>X12 e fun sh hs hl=>
 have hx:x∈bare:=hr x (mem_cons_self ..);have hr':∀ i∈r,i∈bare:=fun i m=>hr i (mem_cons_of_mem _ m);have hbs (s:Int) (h:s∈bare):s∈st:=(mem_filter.mp (hb▸h)).1;have hxs:=hbs x hx;have l9:=G.s.len;have lb:bare.length≤9:=hb▸le_trans (length_filter_le ..) l9;have lf:(bare.filter fun s=>s !=x).length≤9:=le_trans (length_filter_le ..) lb;have hfs (s:Int) (h:s∈bare.filter fun s=>s !=x):s∈st:=hbs s (mem_filter.mp h).1;have hl:sh.length+(5 *r.length+5)≤100:=hl
 have ins:RS (aS "inside" (CE x22 "_law_roads" (cL (LE (f1C "one" (xI (vE "bare")) (iC (qT .NotEq (vE "one") (vE "step")) (mC (vE "one"))))) (cL (oE .Mod (vE "step") (nE 512)) (cL (tE (cL (nE 1) (cL (nE (-1)) nL))) nL))))) (upd s "step" (.int x)) (upd (upd s "step" (.int x)) "inside" (zt (zv (bare.filter fun s=>s !=x) (x.fmod 512) [1, -1]))) .next:=
  .A (zzr (.lc (.FI (p:=fun s=>s !=x) (g:=D.int) (.X (.V A.bare) (zf _)) (fun y y y=>rfl) (fun y y=>.Q (.V rfl) (.V rfl) rfl) fun y y y=>.V rfl) (cpM lf)) (.m (.V rfl)) (fun i hi=>G.m.small i (hfs i hi)) (le_trans lf (by decide)))
 have A1:AtL nm tm (upd (upd s "step" (.int x)) "inside" (zt (zv (bare.filter fun s=>s !=x) (x.fmod 512) [1, -1]))) st made bare book:=⟨A.names,A.times,A.steps,A.rows,A.book,A.bare⟩
 have dv {s:Sg} (h:s "step"=some (.int x)):Rn (oE .FloorDiv (vE "step") (nE 512)) s (.int (x.fdiv 512)):=.O (.V h) .C (zgA (G.m.small x hxs));have l2:sh.length+5 *r.length≤100:=le_trans (add_le_add_left (le_add_right ..) _) hl
 .S ins (match hin:(zr (zv (bare.filter fun s=>s !=x) (x.fmod 512) [1, -1]) (x.fdiv 512)).isSome with
 |false=>.S (.If (.B (.As (.Q (dv rfl) (.V rfl) (qR.trans (congrArg (fun z=>some (!z)) hin))) (.Af (zhU N G B A1 hb hx hin rfl rfl)))) .P)
   (.mk (.If (.B (.Af (.Q (dv rfl) (.V rfl) (jy.trans (congrArg some hin))))) .P) ⟨rfl,A1,hr',sh,hs,l2⟩)
 |true=>X11 (isSome_iff_exists.mp hin) fun p hp=>X02 (zvg G.m G.pos hfs hxs hp) fun rp rl=>
  have al:=zy4 N T G.m G.s.nodup (le_trans l9 (by decide)) G.pos G.there G.home (ring:=x::p) (le_trans (succ_le_succ rl) (by decide)) rp;have ring {s:Sg} (h1:s "step"=some (.int x)) (h2:s "inside"=some (zt (zv (bare.filter fun s=>s !=x) (x.fmod 512) [1, -1]))):Rn (oE .Add (lE (cL (vE "step") nL)) (jE (vE "inside") (oE .FloorDiv (vE "step") (nE 512)))) s (iL (x::p)):=.O (.L (.C (.V h1) .N)) (.I (.V h2) (dv h1) (qe hp)) (jK (a:=[x]) (le_trans (add_le_add_left rl 1) (by decide)))
  .S (.If (.B (.Af (.Q (dv rfl) (.V rfl) (qR.trans (congrArg (fun z=>some (!z)) hin))))) .P)
  (match hsh:sh.any (· ==x) with
  |true=>.mk (.If (.B (.As (.Q (dv rfl) (.V rfl) (jy.trans (congrArg some hin))) (.Af (.Q (.V rfl) (.V hs) ((pp ..).trans (congrArg (fun z=>some (!z)) hsh)))))) .P) ⟨rfl,A1,hr',sh,hs,l2⟩
  |false=>.mk (.It (.B (.As (.Q (dv rfl) (.V rfl) (jy.trans (congrArg some hin))) (.As (.Q (.V rfl) (.V hs) ((pp ..).trans (congrArg (fun z=>some (!z)) hsh))) .N)))
    (.Q (.A (.O (.V hs) (.lc (.FM (.X (ring rfl rfl) (zf _)) (fun y y y=>rfl) fun i y=>.E (.C (.V rfl) .N) ((zd6 _).trans (zuH i))) (cpM (succ_le_succ rl)))
      ((congrArg (fun l=>yQ .Add (iL sh) (.list l)) (map_map (l:=x::p) (f:=jA) (g:=D.int)).symm).trans (jK (b:=(x::p).map jA) (cpN (m:=105) (add_le_add (b:=100) (d:=5) (le_of_add_right_le l2) (lnM (f:=jA) (l:=x::p) (succ_le_succ rl))))))))
     (.If (.N (p:=true) (.E (.E (.C (.V A.names) (.C (.V A.times) (.C (.V A.steps) (.C (ring rfl rfl) .N)))) ((zwT ..).trans al)))) .P)))
    ⟨rfl,⟨A.names,A.times,A.steps,A.rows,A.book,A.bare⟩,hr',_,rfl,by
     rw [length_append,length_map,add_assoc,add_comm _ (5 *r.length)];exact le_trans (add_le_add_left (add_le_add_left (succ_le_succ rl) _) _) hl⟩))
theorem zhG(N:zZ nm)(T:zwk tm)(G:zqb st made)(B:ze nm tm (gC made) book){s:Sg}(A:AtL nm tm s st made bare book)(hb:bare=st.filter fun s=>bare.contains s)(hs:s "shown"=some (D.list [])):∃ s',RS zmD s s' .next:=
 have lb:bare.length≤9:=hb▸le_trans (length_filter_le ..) G.s.len
 RS.loop (emb:=D.int) (bd:=fun x s=>upd s "step" (.int x)) (b:=zxG) (t:=.Name "step" default) (i:=xI (vE "bare")) (l:=bare) (Inv:=ShI nm tm st made bare book) (.X (.V A.bare) (zf _)) (fun z z=>rfl) (zvp N T G B hb)
  ⟨A,fun i m=>m,[],hs,le_trans (add_le_add_left (mul_le_mul_left 5 lb) 0) (by decide)⟩ fun s' j z=>⟨s',j⟩
end
end
section
theorem zvb{W:zx}(F:qx W):2≤(zX W).length:=by
 have hk:=F.keys;have hw:=F.ways;unfold zX
 match W,hk,hw with
 |[],hk,_=>cases hk
 |[_],hk,_=>
  have:=congrArg List.length hk;simp [zy] at this
 |p::q::r,_,hw=>
  have one:∀ x∈p::q::r,1≤((x.2.filter z0).map fun w=>512 *x.1+w).length:=fun x hx=>by
   have:=hw x hx;rw [zji this.2.1,length_map];exact List.length_pos_iff.mpr this.1
  have h1:=one p (by simp);have h2:=one q (by simp);rw [flatMap_cons,flatMap_cons,length_append,length_append];omega
theorem zzl{st:List Int}(q:Int→Bool):st.filter q=st.filter fun s=>(st.filter q).contains s:=by
 refine List.filter_congr fun x hx=>?_;rw [Bool.eq_iff_iff,contains_iff_mem,mem_filter];exact ⟨fun h=>⟨hx,h⟩,fun h=>h.2⟩
noncomputable def M20:Sm:=qS zmU (qS zmG (qS zmP (qS zmB (qS zmD (qS znU pS)))))
noncomputable def M14:Sm:=qS zmJ (qS zmY (qS zmK (qS zmX (qS zmW (qS zmV M20)))))
noncomputable def M10:Sm:=qS zm8 (qS zm9 (qS zmQ (qS zmZ M14)))
section
variable {nm:Int→Str} {tm:Int→Int} {st made:List Int} {c0 c1 c2 c3 c4 c5:Int}
structure AtM(nm:Int→Str)(tm:Int→Int)(st made cells:List Int)(s:Sg):Prop where
 cells:s "cells"=some (iL cells)
 names:s "names"=some (zR nm)
 times:s "times"=some (qf tm)
 steps:s "steps"=some (iL st)
 made:s "made"=some (iL made)
theorem zno(N:zZ nm)(T:zwk tm)(G:zqb st made)(two:2≤st.length){book:KV}(B:ze nm tm (gC made) book){many tie:Int}(htie:jh tie)(h5:0≤c5∧c5≤400000){s:Sg}(A:AtM nm tm st made [c0,c1,c2,c3,c4,c5] s)
  (i2:s "book"=some (.dS book))(i3:s "rows"=some (.list (st.map (yj made st))))(i4:s "tie"=some (.int tie))(i5:s "bare"=some (D.list []))(i6:s "keys"=some (.list (st.map fun x=>jm (kOf many tie made st x))))(i7:s "signs"=some (zvy (kOf many tie made st) st))(i8:s "free"=some (iL (zzn (kOf many tie made st) st))):
  ∃ s',RS M20 s s' (.ret (.bool true)):=
 have lfree:(zzn (kOf many tie made st) st).length≤9:=le_trans (length_filter_le ..) G.s.len
 X13 (zhY G.s G.m htie two i6 A.steps i4 i5) fun s4 e20 bare kp=>
 have k {x:Str} {d:D} (h:s x=some d) (h1:(x=="step")=false) (h2:(x=="bare")=false):s4 x=some d:=(kp x h1 h2).trans h;have names:=k A.names (by decide+kernel) (by decide+kernel);have times:=k A.times (by decide+kernel) (by decide+kernel);have steps:=k A.steps (by decide+kernel) (by decide+kernel);have book:=k i2 (by decide+kernel) (by decide+kernel);have free:=k i8 (by decide+kernel) (by decide+kernel)
 X11 (zhV (s:=upd s4 "due" (zvy (kOf many tie made st) st)) G.s steps free (k A.cells (by decide+kernel) (by decide+kernel)) h5) fun q e23=>
 X11 (zhG (s:=upd (upd (upd s4 "due" (zvy (kOf many tie made st) st)) "bare" (iL (st.filter q))) "shown" (.list [])) N T G B ⟨names,times,steps,k i3 (by decide+kernel) (by decide+kernel),book,rfl⟩ (zzl q) rfl) fun s5 e24=>
 ⟨s5,.Q e20 (.Q (zhJ G.s (k i6 (by decide+kernel) (by decide+kernel))) (.Q (zhK G.s G.m N T G.sub B (zzs htie G.m G.s.nodup) lfree (k i7 (by decide+kernel) (by decide+kernel)) rfl book names times steps (k A.made (by decide+kernel) (by decide+kernel)) bare free) (.Q e23 (.Q e24 (.Qr (.R .C))))))⟩
theorem zna(N:zZ nm)(T:zwk tm)(G:zqb st made)(two:2≤st.length)(h5:0≤c5∧c5≤400000){s:Sg}(A:AtM nm tm st made [c0,c1,c2,c3,c4,c5] s):∃ s',RS M14 s s' (.ret (.bool true)):=
 X12 (zhX N G.s G.m G.sub A.names A.times A.made) fun book B e14=>
 X23 (zh7 (s:=upd (upd s "book" (.dS book)) "rows" (.list (st.map (yj made st)))) A.cells h5) fun many tie hm ht e16=>
 X11 (zno (s:=upd (upd (upd (upd (upd (upd (upd (upd (upd s "book" (.dS book)) "rows" (.list (st.map (yj made st)))) "many" (.int many)) "tie" (.int tie)) "bare" (D.list [])) "comp" (tcD many tie)) "keys" (.list (st.map fun x=>jm (kOf many tie made st x)))) "signs" (zvy (kOf many tie made st) st)) "free" (iL (zzn (kOf many tie made st) st)))
  N T G two B ht h5 ⟨A.cells,A.names,A.times,A.steps,A.made⟩ rfl rfl rfl rfl rfl rfl rfl) fun s' e=>
 ⟨s',.Q e14 (.Q (zh6 G.s A.steps A.made) (.Q e16 (.Q (zh8 G.s hm ht rfl rfl rfl) (.Q (zhQ G.s hm ht rfl rfl) (.Q (zhZ G.s G.m (K:=kOf many tie made st) A.steps rfl) e)))))⟩
end
theorem zd7{s:Sg}{es:List Nat}{ns:List Int}{a b:Nat}{c0 c1 c2 c3 c4 c5:Int}(he:es∈E14)(hns:xn ns)(ha:a<2)(hb:b<4)(h4:0≤c4∧c4≤400000)(h5:0≤c5∧c5≤400000)
  (g1:s "ends"=some (cD es))(g2:s "numbers"=some (iL ns))(g3:s "cells"=some (iL [c0,c1,c2,c3,c4,c5]))(g4:s "names"=some (zR (nmS a b))):∃ s',RS M10 s s' (.ret (.bool true)):=by
 have hm:ns.map (fun n=>n.fmod 3)∈M81:=by
  have:=hns.len
  match ns,this with
  |[a,b,c,d],_=>exact zdb a b c d
 have F:=zyK (zgd he hm);rw [←zht] at F;have X:RW (zjl es ns) (wT es (m3 ns)) ns:=⟨rfl,hns,F⟩
 have T:zwk (zj7 ns):=⟨fun t ht=>by
  rw [←X.keys] at ht
  (refine X12 (mem_map.mp ht) fun p hp z1=>?_;subst z1)
  have:=X.sum hp;exact ⟨this.2.1,Int.le_trans this.2.2.1 (by decide)⟩⟩
 have e10:=zh2 g1 g2 (zda es he) hns.len;generalize wT es (m3 ns)=W at X F;generalize zjl es ns=R at X e10;refine X14 (zh5 (s:=upd (upd (upd s "rules" (zt R)) "times" (qf (zj7 ns))) "steps" (iL (zX W))) X rfl g3 h4) fun made m1 m2 m3' e13=>?_;refine X11 (zna (s:=upd (upd (upd (upd s "rules" (zt R)) "times" (qf (zj7 ns))) "steps" (iL (zX W))) "made" (iL made)) (zgc ha hb) T ⟨⟨F.nodup,F.len,m1⟩,F.made,F.pos,F.there,F.home,m3',m2⟩ (zvb F) h5 ⟨g3,g4,rfl,rfl,rfl⟩) fun s' e=>?_;exact ⟨s',.Q e10 (.Q (zh3 X rfl) (.Q (zh4 X rfl) (.Q e13 e)))⟩
end
section
theorem zhP(c:Int):7≤7+c.fmod 48∧7+c.fmod 48≤54:=⟨Int.le_add_of_nonneg_right (kI c (n:=48) (by decide)),Int.add_le_add_left (b:=47) (Int.le_of_lt_add_one (ki c (n:=48) (by decide))) 7⟩
theorem zvd(ns:List Int)(hl:ns.length≤63):fnC x22 217 ["script"] [] [.list (ns.map .int)]=some (.bool true):=
 X62 (znd (s:=par ["script"] [iL ns]) rfl hl) fun c0 c1 c2 c3 c4 c5 B e0=>by
 have hL:=zwU c0 c1 c2 c3;have h4:=B c4 (by simp);have h5:=B c5 (by simp);unfold zwo wF jW at e0;unfold jW at hL;generalize zU (zU (zU (zU [] c0) c1) c2) c3=l3 at e0 hL;generalize zU (zU (zU [] c0) c1) c2=l2 at e0 hL;generalize zU (zU [] c0) c1=l1 at e0 hL;generalize zU [] c0=l0 at e0 hL;have hLC (p:List Nat × Int) (m:p∈([(l0,c0),(l1,c1),(l2,c2),(l3,c3)]:LC)):p.1∈S85:=hL _ (List.mem_map_of_mem (f:=fun p:List Nat × Int=>p.1) m);generalize hs:upd (upd (upd (par ["script"] [iL ns]) "cells" (iL [c0,c1,c2,c3,c4,c5])) "leads" (.list ([l0,l1,l2,l3].map dN))) "page" _=s at e0;have f1:s "cells"=some (iL [c0,c1,c2,c3,c4,c5]):=hs▸rfl;have f2:s "leads"=some (.list ([l0,l1,l2,l3].map dN)):=hs▸rfl;have f3:s "page"=some (.str (Str.join (sN [10]) (([(l0,c0),(l1,c1),(l2,c2),(l3,c3)]:LC).map fun p=>sN (qy p.1 p.2)))):=hs▸rfl;clear hs;have e1:=znw (L:=[(l0,c0),(l1,c1),(l2,c2),(l3,c3)]) f3 hLC (le_of_ble_eq_true rfl) (le_of_ble_eq_true rfl);have es:=zgx (yt l0) (yt l1) (yt l2) (yt l3);have e4:=znf (L:=[(l0,c0),(l1,c1),(l2,c2),(l3,c3)]) (s:=upd (upd (upd s "spaces" (wL [(l0,c0),(l1,c1),(l2,c2),(l3,c3)])) "heads" (.list (([(l0,c0),(l1,c1),(l2,c2),(l3,c3)]:LC).map fun p=>zj1 p.2))) "numbers" (iL [7+c0.fmod 48,7+c1.fmod 48,7+c2.fmod 48,7+c3.fmod 48])) rfl f2 rfl hLC;have e4:RS rl4 _ (upd _ "ends" (cD (zwY [y9 l0,y9 l1,y9 l2,y9 l3]))) .next:=e4
 generalize zwY [y9 l0,y9 l1,y9 l2,y9 l3]=en at es e4;generalize hs:upd (upd (upd (upd s "spaces" (wL [(l0,c0),(l1,c1),(l2,c2),(l3,c3)])) "heads" (.list (([(l0,c0),(l1,c1),(l2,c2),(l3,c3)]:LC).map fun p=>zj1 p.2))) "numbers" (iL [7+c0.fmod 48,7+c1.fmod 48,7+c2.fmod 48,7+c3.fmod 48])) "ends" (cD en)=s1 at e4;have g1:s1 "ends"=some (cD en):=hs▸rfl;have g2:s1 "numbers"=some (iL [7+c0.fmod 48,7+c1.fmod 48,7+c2.fmod 48,7+c3.fmod 48]):=hs▸rfl;have g3:s1 "cells"=some (iL [c0,c1,c2,c3,c4,c5]):=hs▸f1;refine X23 (znh g3 h4) fun a b ha hb e5=>?_;refine X11 (zd7 (s:=upd (upd (upd (upd (upd (upd s1 "file" (.str (xy a))) "name" (.str (vm b))) "short" (.str (zqk b))) "names" (zR (nmS a b))) "judged" (iL ([-1,0,255,256,257,258,259]++[7+c0.fmod 48,7+c1.fmod 48,7+c2.fmod 48,7+c3.fmod 48]))) "judged" (iL ([-1,0,255,256,257,258,259]++[7+c0.fmod 48,7+c1.fmod 48,7+c2.fmod 48,7+c3.fmod 48]++zy))) es ⟨rfl,fun n m=>X12 (mem_map.mp (show n∈[c0,c1,c2,c3].map fun c=>7+c.fmod 48 from m)) fun c z e=>e▸zhP c⟩ ha hb h4 h5 g1 g2 g3 rfl) fun s' e=>?_;exact zmF (.Q e0 (.Q e1 (.Q (znu (L:=[(l0,c0),(l1,c1),(l2,c2),(l3,c3)]) rfl hLC (le_of_ble_eq_true rfl)) (.Q (znb (L:=[(l0,c0),(l1,c1),(l2,c2),(l3,c3)]) rfl (le_of_ble_eq_true rfl)) (.Q e4 (.Q e5 (.Q (znn ha hb rfl rfl) (.Q (znr g2 (le_of_ble_eq_true rfl)) (.Q (zns ha hb rfl rfl rfl rfl rfl (le_of_ble_eq_true rfl)) (.Q (znt g1 g3 g2 rfl rfl) e))))))))))
end
section
theorem zne{P:Params}:gIn (KK P) ("law":Str)=some (some (.ref 217)):=by kernel_rfl
theorem zg1{P:Params}{h:Heap}{l:Addr}{vs:List Value}{xs:List PyData}(hl:h.IsList l vs.toArray)(w:Well P h (.ref l) (ofPy (.list xs))):h.PlainList l vs.toArray:=by
  obtain ⟨o,ho,hc,n,hd⟩:=hl;have w:Well P h (.ref l) (.list (ofPys xs)):=w;cases w with|list e z=>
  rw [ho] at e;cases e;cases hd;exact ⟨_,ho⟩
theorem zni:g₀.Goal:=fun z KX T hg vs ns z hl hI hn Q E hQ=>zbc KX T hg hl hI (zvd ns hn) Q E hQ

end
end Mine.Internal
open PySem PySem.Calls PyProof.Rows PySem.W Mine.Internal
set_option tactic.hygienic true in
set_option maxHeartbeats 8000000 in
theorem PySem.Challenge.cw_wz0032_01_holds : PySem.Challenge.rw_wz0032_01.Holds :=
 zjZ (by
  intro w s₀ s₁ mg mb G Y fa o pm cd doc dV kV ho hdd hcd hD hmg hg args vals as hpre hlay hrd hwl hlo
  have KX:=kIn_of Y
  refine Ground.open G ?_
  intro T B D TE TW
  try (refine guard_noD D (by decide+kernel) ?_;clear D)
  have hfa:fa=217:=by
    have h1:=mg_of KX T.g zne
    have h2:=hmg.symm.trans h1
    simpa using h2
  subst hfa
  clear hdd hcd hD hmg ho
  wrow_args hpre hlay hrd hwl hlo
  rename_i ns _ _ _ _ _ _ _ l vs _ hL _ w1 _ hI _ hn _
  refine G0.all zni ⟨w,s₁,mg,mb⟩ _ KX T hg vs ns l (zg1 hL w1) hI (by lia) _ _ fun s' hK hos hb=>?_
  refine ⟨.inl ⟨_,.bool true,[],rfl,fun cls=>?_,.bool _,?_,fun _=>⟨.nil,fun a h=>nomatch h⟩⟩,hK,hos,hb⟩
  · rfl
  · kernel_rfl)
