import PyProof.Rows.All
import Wide.All
import OpenK.AllK
import Wide.FinOn
import PyProof.SetScanFacts
import OpenK.KNot
import KE.KSuperObj
import Lean
import PySem.Challenge.RW_jw0001_01
set_option Elab.async false
set_option linter.unusedVariables false
set_option linter.defProp false
set_option compiler.extract_closed false
set_option bootstrap.genMatcherCode false
set_option genSizeOfSpec false
set_option maxRecDepth 100000
set_option maxHeartbeats 8000000
noncomputable section
namespace Mine
local macro_rules | `(tactic| tm_at"d") => `(tactic| decide +kernel)
local macro_rules | `(tactic| tm_at"k") => `(tactic| kernel_rfl!)
section
open PySem PySem.W PySem.Calls PyProof.Rows PySem.SeqAt PySem.Builtin
def G:=@wpAny_bind
def ac:=@wpAny_pure
def ad:=@Heap.get?_push_of_some
abbrev ae:=@Value
def af:=@List.mem_cons
def ag:=@List.mem_append_right
def ah:=@List.length_map
def ai:=@wpAny_mono
abbrev aj:=@Shared
def am:=@Heap.get?_push_size
def ao:=@Nat.le_refl
def aq:=@Heap.get?_none_of_le
def au:=@Bool.false_eq_true
def ax:=@Array.getElem?_toList
def ay:=@Option.map_eq_some_iff
abbrev az:=@Option
def aA:=@if_neg
def aB:=@if_pos
def aC:=@List.getElem?_eq_some_iff
def aD:=@List.mem_filter
def aF:=@wpAny_holding
def aG:=@beq_iff_eq
def aH:=@List.mem_append_left
def aI:=@List.length_cons
def aJ:=@Bool.and_eq_true
def aK:=@List.nodup_append
def aL:=@List.nodup_cons
def aM:=@List.mem_map
def aN:=@List.mem_singleton
def aO:=@List.mem_cons_of_mem
def aP:=@wpAny_setState_of
def aQ:=@Array.length_toList
def aR:=@List.getElem?_append_right
def aU:=@List.getElem?_of_mem
def aV:=@Around.under_plainId
abbrev aW:=@Params
def aX:=@List.nil_append
abbrev aY:=@Bool
def aZ:=@List.all_eq_true
def ba:=@List.mem_append
def bc:=@List.mem_cons_self
def bg:=@List.map_cons
def bh:=@List.append_nil
def bj:=@codeAny_builtin
def bk:=@List.length_append
def bl:=@List.not_mem_nil
def bn:=@wpAny_call_entry
def bq:=@Nat.le_trans
def br:=@wpAny_newObj_type
def bv:=@List.mem_of_getElem?
def bw:=@List.take_append_drop
def bx:=@List.perm_middle
def bz:=@List.mem_map_of_mem
def bA:=@Heap.get?_update_self
def bB:=@List.map_append
def bC:=@wpAny_of_eq
def bD:=@if_false
def bF:=@Ne.symm
def bG:=@PySem.F.plain_extend_loop
def bH:=@Option.isSome_iff_exists
def bI:=@PySem.F.called_set
def bJ:=@Bool.not_eq_true'
def bK:=@Heap.SameBut.update
def bL:=@List.length_nil
abbrev bM:=@Array
def bN:=@wpAny_isInstance
abbrev bO:=@Around
def bP:=@List.getElem?_map
def bQ:=@List.filterMap_cons
def bR:=@wpAny_standAt
def bS:=@plainId_quiet
def bT:=@Heap.get?_update_other
def bU:=@wpAny_askSetting
def bV:=@List.length_filter_le
def bW:=@beq_self_eq_true
def bX:=@codeAny_of_tree
def bY:=@Heap.size_push
abbrev bZ:=@SetTable
def b5:=@isSubtype_type
def b6:=@wpAny_setField_rec
def b7:=@codeAny_mono
def b8:=@wpAny_callSpecial?_slot
def b9:=@wpAny_rule
def cb:=@List.mem_reverse
def ce:=@List.getElem?_set_ne
def cg:=@Nat.zero_le
def ci:=@wpAny_field
abbrev cj:=@Heap
def ck:=@Heap.lt_size
def cn:=@List.length_reverse
def cq:=@congrArg
def cr:=@Array.getElem?_eq_some_iff
def cu:=@PySem.W.Fast.te14364793385576792824
def cw:=@List.append_assoc
def cx:=@List.getElem?_append_left
abbrev cy:=@World
def cz:=@Bool.or_eq_true
def cA:=@wpAny_specialOf
def cB:=@wpAny_seqItems
def cC:=@List.isEmpty_nil
def cD:=@seg_bind_wrap
abbrev cF:=@NameKind
def cG:=@Array.getD_eq_getD_getElem?
def cH:=@decide_eq_true
def cI:=@or_false
def cJ:=@List.perm_ext_iff_of_nodup
def cK:=@List.getElem?_set_self
def cL:=@List.filter_cons
def cM:=@Nat.sub_self
def cN:=@Classical.byContradiction
def cO:=@Array.getElem?_eq_getElem
def cP:=@PySem.F.entry_extend_loop
def cQ:=@PyProof.Rows.F.plain_set_update_loop
def cR:=@List.flatMap_cons
def cS:=@wpAny_storeSet_of
def cT:=@List.eq_nil_of_length_eq_zero
abbrev cU:=@DictEntry
def cV:=@builtinLookup_eq_fast
def cW:=@List.forIn_cons
def cX:=@wpAny_typeOf
def cY:=@wpAny_updateSeq
def cZ:=@List.lookup_cons
abbrev c5:=@Program
def c6:=@looks_findIn
def c7:=@List.map_map
def c8:=@List.getElem?_drop
def c9:=@decide_eq_true_iff
def da:=@List.getElem?_eq_getElem
def db:=@Bool.and_eq_true_iff
def dc:=@List.mem_range
def de:=@PySem.F.called_tuple
def df:=@List.mem_of_mem_take
def dg:=@List.reverse_cons
def dh:=@List.any_eq_false
def dj:=@bne_self_eq_false
def dk:=@Array.toList_push
def dm:=@Int.toNat_natCast
abbrev dq:=@Obj
def dw:=@PyProof.Rows.F.entry_set_update_loop
def dy:=@Bool.not_true
def dz:=@sizeLine_eq
def dA:=@wpAny_forIn_list
def dB:=@wpAny_load
def dC:=@bne_iff_ne
def dD:=@Array.forIn_toList
abbrev dF:=@Scope
def dG:=@List.findIdx?_eq_some_iff_getElem
def dH:=@List.pairwise_iff_getElem
def dI:=@List.getElem?_eq_none_iff
def dJ:=@decide_eq_false
def dK:=@typeLookup_type
def dL:=@wpAny_truthy_bool
def dM:=@Nat.ne_of_lt
def dN:=@PySem.F.type_set_add
def dO:=@Array.size_setIfInBounds
abbrev dP:=@Comprehension
def dQ:=@wpAny_call
def dR:=@if_true
def dS:=@List.drop_drop
def dT:=@Nat.min_le_right
def dU:=@wpAny_items_cons
def dW:=@List.forIn_nil
def dX:=@Option.bind_some
def dY:=@PySem.F.plain_list_iadd
def dZ:=@PySem.F.plain_tuple_new
def ed:=@PySem.Str.length_append
def ee:=@List.mem_flatMap
def eg:=@And.left
def eh:=@List.map_reverse
def eo:=@Nat.le_succ
def eq:=@PySem.F.slot_set_getattribute
def er:=@List.take_of_length_le
def et:=@Bool.false_ne_true
def eu:=@PySem.F.plain_any_loop
def eA:=@wpAny_items_nil
def eB:=@Nat.lt_irrefl
def eE:=@wpAny_onRaise
def eF:=@wpAny_attempt
def eG:=@List.eraseIdx_sublist
def eH:=@PySem.F.plain_set_new
def eI:=@wpAny_Call_ofName
def eJ:=@wpAny_pyIter_list
def eK:=@wpAny_assign_Name
def eL:=@decide_eq_true_eq
def eM:=@Bool.or_eq_false_iff
def eN:=@Array.toList_extract
def eO:=@List.length_eraseIdx_of_lt
def eP:=@PySem.F.slot_set_add
def eQ:=@wpAny_loadPart
def eR:=@wpAny_runValue
def eS:=@List.cons_append
def eT:=@sub_set_self
def eU:=@Nat.le_of_eq
def eV:=@List.length_drop
def eW:=@Bool.or_eq_true_iff
def eX:=@List.foldl_cons
def eY:=@Option.some.inj
def eZ:=@not_or
def e6:=@List.filterMap_map
def e7:=@slot_tuple_getitem
def e8:=@PySem.F.slot_set_difference_update
def e9:=@PySem.F.slot_list_index
def fb:=@wpAny_letGo
def fc:=@Nat.add_zero
def fg:=@Nat.ne_of_gt
def fh:=@of_decide_eq_true
def fj:=@Nat.zero_add
def fk:=@getMethod_builtin
def fv:=@Array.getElem?_eq_none
def fy:=@wpAny_of_in1
def fz:=@List.eraseIdx_eq_take_drop_succ
def fA:=@wpAny_pyIter_listiter
def fC:=@List.mem_of_mem_erase
def fD:=@List.length_take
def fF:=@List.mem_eraseIdx_iff_getElem?
def fG:=@putSet_of
def fH:=@of_pureOf
def fK:=@entryFor_of_tree
abbrev fL:=@Model
def fM:=@Nat.mul_le_mul_right
def fN:=@codeAny_call_builtin
def fO:=@wpAny_updateSeq_pair
def fP:=@setGen_self
def fQ:=@pushCells_keeps
def fR:=@Option.map_some
def fU:=@Nat.not_lt_zero
def fV:=@Array.size_push
def fW:=@Array.toList_append
def fX:=@call_function_entry
def fY:=@Sem.onRaise_eq_wrap
def fZ:=@Array.eraseIdxIfInBounds_eq
def f5:=@PySem.F.entry_proto_collect
def f6:=@PySem.F.plain_proto_collect
abbrev f7:=@FuncData
def f8:=@wpAny_pyIter_tuple
def f9:=@List.pairwise_cons
def gd:=@Option.isSome_none
def ge:=@List.findIdx?_cons
def gf:=@wpAny_tryCatch
def gi:=@entryFor_alias
def gj:=@wpAny_newFunctionEnv_cells
def gk:=@PySem.F.args_object_init_2
def gm:=@GenOnly.setGen
def gn:=@List.extract_eq_take_drop
def gp:=@PySem.F.args_list_index_2
def gq:=@List.findIdx?_eq_none_iff
def gu:=@Calls.call_function_entry
def gw:=@PySem.F.entry_object_init
def gx:=@List.drop_eq_getElem_cons
def gy:=@Nat.lt_succ_of_lt
def gz:=@Nat.lt_trichotomy
def gA:=@List.pairwise_map
def gB:=@wpAny_throw
def gC:=@List.size_toArray
def gD:=@List.length_range
def gE:=@List.map_inj_left
def gG:=@Bool.or_false
def gH:=@Bool.and_self
def gI:=@wpAny_handled
def gJ:=@PySem.F.entry_list_index
def gK:=@PySem.F.slot_list_remove
def gL:=@PySem.F.slot_list_insert
def gM:=@arm_eval_Call
def gN:=@PySem.F.typeCall_tuple_1
def gO:=@Array.getElem?_push_size
def gP:=@Nat.lt_succ_self
def gQ:=@List.pairwise_filterMap
def gR:=@wpAny_list_append_plain
def gS:=@Option.bind_eq_some_iff
def gT:=@List.ext_getElem
def gU:=@entryFor_of_fast
def gV:=@PySem.F.entry_type_call
def gW:=@PySem.F.entry_list_iadd
def gX:=@PySem.F.newCall_tuple_1
def gY:=@PySem.F.entry_tuple_new
def gZ:=@PySem.F.slot_set_update
def g9:=@wpAny_pyIter_gen
def hH:=@List.eraseIdx_cons_succ
def hK:=@List.map_flatMap
def hW:=@List.map_nil
def hZ:=@Nat.mod_lt
def ia:=@List.getElem?_eraseIdx
def ib:=@List.pairwise_lt_range
def ic:=@subscriptTail_builtinR
def ie:=@List.filter_eq_nil_iff
def ig:=@call_meets
def ii:=@PySem.F.plainAttrs_set
def ij:=@PySem.F.entry_any_loop
def ik:=@PySem.F.entry_set_init
def il:=@Array.mem_iff_getElem?
def im:=@List.reverse_singleton
def io:=@Bool.false_and
def iq:=@wpAny_alloc
def ir:=@wpAny_noted
def iu:=@Option.or_none
def iw:=@callType_codes
def ix:=@isSubtype_stop
def iy:=@List.any_cons
def iz:=@slot_gen_next
def iA:=@special_fn
def iB:=@clipAt_nat
def iC:=@dif_pos
def iD:=@handedOut_of
def iE:=@wpAny_mkText
def iF:=@List.set_set
abbrev iG:=@PyData
def iH:=@seg_again
def iI:=@ne_eq
abbrev iJ:=PySem.Addr
end
abbrev jj:=List PySem.Addr
abbrev jK:=List PySem.Str
abbrev jr:=List PySem.Value
abbrev j5:=List PySem.Expr
abbrev p6:=List PySem.Stmt
abbrev kd:=List (PySem.Str×PySem.Str)
abbrev lB:=List (PySem.Str×PySem.Addr)
abbrev nz:=PySem.Value->PySem.Shared->Prop
namespace H
open PySem PySem.W PyProof.Rows
abbrev pw:=PySem.Challenge.pw_jw0001_01
def S (x:String):PySem.Str:=PySem.Str.ofString x
def Z (l:List Nat):PySem.Str:=⟨l.toArray⟩
def N:ae:=.none
def b (x:aY):ae:=.bool x
def i (n:Int):ae:=.int n 0
def I (n:Int)(k:Nat):ae:=.int n k
def s (x:String)(k:Nat):ae:=.str (PySem.Str.ofString x) k
def z (l:List Nat)(k:Nat):ae:=.str ⟨l.toArray⟩ k
def t (x:String):ae:=.type x
def f (x:String):ae:=.builtin x
def r (a:Nat):ae:=.ref a
def e (P:aW)(x:String)(k:Nat)(v:ae):cU:=⟨PyData.keyHash P (PySem.Str.ofString x),.str (PySem.Str.ofString x) k,v⟩
def ez (P:aW)(l:List Nat)(k:Nat)(v:ae):cU:=⟨PyData.keyHash P ⟨l.toArray⟩,.str ⟨l.toArray⟩ k,v⟩
def sq (l:jr)(n:Nat):Data:=.seq l.toArray n
def di (l:List cU)(n:Nat):Data:=.dict l.toArray n
def fl (l:jr):Data:=.fields l.toArray
def o (c:ae)(d:Data):dq:=⟨c,none,d,#[]⟩
def O (c:ae)(x:az iJ)(d:Data)(l:List (az ae)):dq:=⟨c,x,d,l.toArray⟩
def st (k:Nat):Stmt:=match pw.main.body.drop k with|x::_=>x|[]=>.Pass default
def sc (k j:Nat):Stmt:=match st k with|.ClassDef _ _ _ y _ _ _ _ _ _ _=>(match y.drop j with|x::_=>x|[]=>.Pass default)|_=>.Pass default
def F (x:Stmt)(q:String)(g:Nat)(cl:List (PySem.Str×iJ))(dfl kwd doc pm code ct:ae)(an:az iJ)(bi:Nat):f7:=match x with
 |.FunctionDef name args body _ _ _ b_ _ _ _=>{name:=name,qualname:=PySem.Str.ofString q,params:=args,body:=.stmts body,scope:=b_,globals:=g,closure:=cl,defaults:=dfl,kwdefaults:=kwd,doc:=doc,pyModule:=pm,annotations:=an,code:=code,closureTuple:=ct,builtins:=bi}
 |_=>default
def put (x:BT)(l:List (Nat×dq)):BT:=l.foldl (λx p=>x.ins p.1 p.2) x
def T (l:jr):dq:=o (t "tuple") (sq l 0)
def T0:dq:=T []
def N0:dq:=o N (fl [])
def ss (k:Nat):List String->jr
 |[]=>[]
 |x::l=>s x k::ss (k+1) l
def tS (k:Nat)(l:List String):dq:=T (ss k l)
def Fs (x:Stmt)(q:String):dq:=o N (.func (F x q 0 [] N N N N N N none 0))
def Fg (x:Stmt)(q:String)(m:ae)(c:Nat):f7:=F x q 3 [] N N N m (r c) N none 0
def Fu (x:Stmt)(q:String)(m:ae)(c:Nat):dq:=o (t "function") (.func (Fg x q m c))
def Fe (x:Stmt)(q:String)(m:ae)(c:Nat)(d:ae):f7:=F x q 3 [] d N N m (r c) N none 0
def Fd (x:Stmt)(q:String)(m:ae)(c:Nat)(d:ae):dq:=o (t "function") (.func (Fe x q m c d))
def Cc (n q:String)(k l a f x m:Nat)(v:jr):dq:=o (t "code") (fl ([s n k,s q (k+1),s "/claim/cut.py" (k+2),i l,i a,i 0,i 0,i f,r x,b true,i 273,r (x+1),N]++v++[i m,i l,s "/claim/cut.py" (m+1)]))
def Ca (n q:String)(k l a f x m:Nat):dq:=Cc n q k l a f x m [r (x+2),r (x+3),r (x+4)]
def Cb (n q:String)(k l a f x m:Nat):dq:=Cc n q k l a f x m [N,N,r (x+2)]
abbrev LO:=List (Nat×dq)
def bm (x:String)(a:Nat):dq:=o (t "builtin_function_or_method") (fl [f x,r a])
def zb:List Nat:=[95,102,114,111,122,101,110,95,105,109,112,111,114,116,108,105,98,46,66,117,105,108,116,105,110,73,109,112,111,114,116,101,114,46]
def zm:List Nat:=[95,102,114,111,122,101,110,95,105,109,112,111,114,116,108,105,98,46,77,111,100,117,108,101,83,112,101,99,46]
def zi:List Nat:=[95,102,114,111,122,101,110,95,105,109,112,111,114,116,108,105,98]
def zd:List Nat:=[46,95,95,100,111,99,95,95,58,115,116,114,35,111,112,97,113,117,101]
def bf (k:Nat):List String->List (String×Nat×ae)
 |[]=>[]
 |x::l=>(x,k,f x)::bf (k+1) l
def bt (k:Nat):List String->List (String×Nat×ae)
 |[]=>[]
 |x::l=>(x,k,t x)::bt (k+1) l
def fa (a:Nat)(x:Stmt)(n q:String)(k l c:Nat)(m:ae)(v:List String):LO:=[(a,T0),(a+1,N0),(a+2,tS (k+3) v),(a+3,T0),(a+4,Fs x q),(a+5,Ca n q k l c 3 a (k+3+v.length)),(a+6,Fu x q m (a+5))]
def De (P:aW)(l:List (String×Nat×ae)):List cU:=l.map λx=>e P x.1 x.2.1 x.2.2
def Dd (P:aW)(l:List (String×Nat×ae))(n:Nat):dq:=o (t "dict") (di (De P l) n)
def Cl (c:ae)(n:String)(bs m:jr)(a:Nat)(h:aY)(u:jr)(x:aY)(l:List (az ae)):dq:=O c none (.cls {name:=S n,bases:=bs,mro:=m,ns:=a,qualname:=S n,hasDict:=h,slotNames:=[],subclasses:=u,abstract:=x,collection:=none,hasDel:=false}) l
def Ma:ae:=s "collections.abc" 312
def Mt:ae:=s "concepts.tools" 826
def Md:ae:=s "concepts.definitions" 968
def Ml:ae:=s "law_jw0001_01" 1314
def Mm:ae:=s "__main__" 164
def Mc:ae:=s "_collections" 249
def Mb:ae:=s "abc" 286
def y0:List (String×Nat×ae):=[("__doc__",166,N),("__package__",167,N),("__loader__",168,f "__main__.__loader__#opaque"),("__spec__",169,N),("__annotations__",170,r 6),("__builtins__",171,r 4),("__file__",173,s "/claim/cut.py" 172),("__cached__",174,N),("deque",272,t "collections.deque")]
noncomputable def Vh(P:aW):LO:=[(0,Dd P ([("__name__",1,s "builtins" 160),("__doc__",2,f "builtins.__doc__:str#opaque"),("__package__",3,f "builtins.__package__:str#opaque"),("__loader__",4,f "builtins.__loader__:shared#opaque"),("__spec__",5,f "builtins.__spec__#opaque")]++bf 6 ["__build_class__","__import__","abs","all","any","ascii","bin","breakpoint","callable","chr","compile","delattr","dir","divmod","eval","exec","format","getattr","globals","hasattr","hash","hex","id","input","isinstance","issubclass","iter","aiter","len","locals","max","min","next","anext","oct","ord","pow","print","repr","round","setattr","sorted","sum","vars"]++[("None",50,N),("Ellipsis",51,.ellipsis),("NotImplemented",52,.notImplemented),("False",53,b false),("True",54,b true)]++bt 55 ["bool","memoryview","bytearray","bytes","classmethod","complex","dict","enumerate","filter","float","frozenset","property","int","list","map","object","range","reversed","set","slice","staticmethod","str","super","tuple","type","zip"]++[("__debug__",81,b true)]++bt 82 ["BaseException","BaseExceptionGroup","Exception","GeneratorExit","KeyboardInterrupt","SystemExit","ArithmeticError","AssertionError","AttributeError","BufferError","EOFError","ImportError","LookupError","MemoryError","NameError","OSError","ReferenceError","RuntimeError","StopAsyncIteration","StopIteration","SyntaxError","SystemError","TypeError","ValueError","Warning","FloatingPointError","OverflowError","ZeroDivisionError","BytesWarning","DeprecationWarning","EncodingWarning","FutureWarning","ImportWarning","PendingDeprecationWarning","ResourceWarning","RuntimeWarning","SyntaxWarning","UnicodeWarning","UserWarning","BlockingIOError","ChildProcessError","ConnectionError","FileExistsError","FileNotFoundError","InterruptedError","IsADirectoryError","NotADirectoryError","PermissionError","ProcessLookupError","TimeoutError","IndentationError","_IncompleteInputError","IndexError","KeyError","ModuleNotFoundError","NotImplementedError","PythonFinalizationError","RecursionError","UnboundLocalError","UnicodeError","BrokenPipeError","ConnectionAbortedError","ConnectionRefusedError","ConnectionResetError","TabError","UnicodeDecodeError","UnicodeEncodeError","UnicodeTranslateError","ExceptionGroup"]++[("EnvironmentError",151,t "OSError"),("IOError",152,t "OSError"),("open",153,f "open"),("quit",154,f "builtins.quit#opaque"),("exit",155,f "builtins.exit#opaque"),("copyright",156,f "builtins.copyright#opaque"),("credits",157,f "builtins.credits#opaque"),("license",158,f "builtins.license#opaque"),("help",159,f "builtins.help#opaque")]) 159),
 (1,Dd P [("builtins",162,r 4),("__main__",163,r 5),("_collections",246,r 13)] 3),
 (2,o N (di [ez P [105,109,112,111,114,116,46,108,111,97,100,101,100,46,95,99,111,108,108,101,99,116,105,111,110,115] 185 (b true),e P "class._frozen_importlib.BuiltinImporter" 187 (r 15),ez P [119,97,116,99,104,101,100,46,105,109,112,111,114,116] 208 (r 19),e P "class._frozen_importlib.ModuleSpec" 218 (r 23),e P "sys.modules.booked-epoch" 247 (i 3),e P "sys.modules.landed._collections" 248 (b true),ez P [105,109,112,111,114,116,46,108,97,116,101,114,45,108,97,105,100,46,95,99,111,108,108,101,99,116,105,111,110,115] 263 (b true),e P "watched.library" 265 (r 28),e P "watched.library-objects" 0 (z [13] 0),e P "watched.library-deep._collections" 266 (z [4,0,0,12,4,0,0,12,4,0,0,3,4,0,0,12,8,4,100,105,99,116,2] 0)] 10)),
 (3,Dd P (("__name__",165,Mm)::y0) 10),
 (4,O (t "module") (some 0) .plain []),
 (5,O (t "module") (some 3) .plain []),
 (6,Dd P [] 0),
 (7,T0),
 (8,N0),
 (9,o (t "code") (fl [s "<module>" 176,s "<module>" 177,s "/claim/cut.py" 178,i 1,i 0,i 0,i 0,i 0,r 7,b false,i 175,r 8,N,N,N,N,i 179,i 1,s "/claim/cut.py" 180])),
 (10,O (t "frame") none .plain [some (r 9),some (r 3),some (r 3),none,some Mm,none,some (r 0)]),
 (11,tS 182 ["deque"]),
 (12,Dd P [("__name__",250,Mc),("__doc__",251,f "_collections.__doc__:str#opaque"),("__package__",253,s "" 252),("__loader__",254,r 15),("__spec__",255,r 27),("_count_elements",256,f "_collections._count_elements"),("deque",257,t "collections.deque"),("defaultdict",258,t "collections.defaultdict"),("_deque_iterator",259,t "collections._deque_iterator"),("_deque_reverse_iterator",260,t "collections._deque_reverse_iterator"),("_tuplegetter",261,t "collections._tuplegetter"),("OrderedDict",262,t "collections.OrderedDict")] 12),
 (13,O (t "module") (some 12) .plain []),
 (14,Dd P [("__module__",191,s "_frozen_importlib" 188),("__firstlineno__",192,I 971 189),("__doc__",193,f "_frozen_importlib.BuiltinImporter.__doc__:str#opaque"),("_ORIGIN",194,s "built-in" 190),("find_spec",195,f "_frozen_importlib.BuiltinImporter.find_spec#opaque"),("create_module",196,f "_frozen_importlib.BuiltinImporter.create_module#opaque"),("exec_module",197,f "_frozen_importlib.BuiltinImporter.exec_module#opaque"),("get_code",198,f "_frozen_importlib.BuiltinImporter.get_code#opaque"),("get_source",199,f "_frozen_importlib.BuiltinImporter.get_source#opaque"),("is_package",200,f "_frozen_importlib.BuiltinImporter.is_package#opaque"),("load_module",201,f "_frozen_importlib.BuiltinImporter.load_module#opaque"),("__static_attributes__",202,r 16),("__dict__",204,r 17),("__weakref__",206,r 18)] 14),
 (15,o (t "type") (.cls {name:=S "BuiltinImporter",bases:=[t "object"],mro:=[r 15,t "object"],ns:=14,qualname:=S "BuiltinImporter",hasDict:=true,slotNames:=[],subclasses:=[],abstract:=false,collection:=none,hasDel:=false})),
 (16,T0),
 (17,o (t "getset_descriptor") (fl [s "__dict__" 203,r 15,f "function.__dict__",f "function.__dict__#set"])),
 (18,o (t "getset_descriptor") (fl [s "__weakref__" 205,r 15,f "ExceptionGroup.__weakref__",N])),
 (19,o N (sq [i 14,z ([6,191,10,95,95,109,111,100,117,108,101,95,95,6,188,17]++zi++[6,192,15,95,95,102,105,114,115,116,108,105,110,101,110,111,95,95,4,189,0,971,6,193,7,95,95,100,111,99,95,95,9,52]++zb++[95,95,100,111,99,95,95,58,115,116,114,35,111,112,97,113,117,101,6,194,7,95,79,82,73,71,73,78,6,190,8,98,117,105,108,116,45,105,110,6,195,9,102,105,110,100,95,115,112,101,99,9,50]++zb++[102,105,110,100,95,115,112,101,99,35,111,112,97,113,117,101,6,196,13,99,114,101,97,116,101,95,109,111,100,117,108,101,9,54]++zb++[99,114,101,97,116,101,95,109,111,100,117,108,101,35,111,112,97,113,117,101,6,197,11,101,120,101,99,95,109,111,100,117,108,101,9,52]++zb++[101,120,101,99,95,109,111,100,117,108,101,35,111,112,97,113,117,101,6,198,8,103,101,116,95,99,111,100,101,9,49]++zb++[103,101,116,95,99,111,100,101,35,111,112,97,113,117,101,6,199,10,103,101,116,95,115,111,117,114,99,101,9,51]++zb++[103,101,116,95,115,111,117,114,99,101,35,111,112,97,113,117,101,6,200,10,105,115,95,112,97,99,107,97,103,101,9,51]++zb++[105,115,95,112,97,99,107,97,103,101,35,111,112,97,113,117,101,6,201,11,108,111,97,100,95,109,111,100,117,108,101,9,52]++zb++[108,111,97,100,95,109,111,100,117,108,101,35,111,112,97,113,117,101,6,202,21,95,95,115,116,97,116,105,99,95,97,116,116,114,105,98,117,116,101,115,95,95,4,0,0,16,6,204,8,95,95,100,105,99,116,95,95,4,0,0,17,6,206,11,95,95,119,101,97,107,114,101,102,95,95,4,0,0,18]) 0,b true,b true,s "" 207,i 22,z ([6,229,10,95,95,109,111,100,117,108,101,95,95,6,219,17]++zi++[6,230,15,95,95,102,105,114,115,116,108,105,110,101,110,111,95,95,4,220,0,562,6,231,7,95,95,100,111,99,95,95,9,47]++zm++[95,95,100,111,99,95,95,58,115,116,114,35,111,112,97,113,117,101,6,232,8,95,95,105,110,105,116,95,95,9,44]++zm++[95,95,105,110,105,116,95,95,35,111,112,97,113,117,101,6,233,8,95,95,114,101,112,114,95,95,9,44]++zm++[95,95,114,101,112,114,95,95,35,111,112,97,113,117,101,6,234,6,95,95,101,113,95,95,9,42]++zm++[95,95,101,113,95,95,35,111,112,97,113,117,101,6,235,6,99,97,99,104,101,100,9,42]++zm++[99,97,99,104,101,100,35,111,112,97,113,117,101,6,236,6,112,97,114,101,110,116,9,42]++zm++[112,97,114,101,110,116,35,111,112,97,113,117,101,6,237,12,104,97,115,95,108,111,99,97,116,105,111,110,9,48]++zm++[104,97,115,95,108,111,99,97,116,105,111,110,35,111,112,97,113,117,101,6,238,21,95,95,115,116,97,116,105,99,95,97,116,116,114,105,98,117,116,101,115,95,95,4,0,0,24,6,240,8,95,95,100,105,99,116,95,95,4,0,0,25,6,242,11,95,95,119,101,97,107,114,101,102,95,95,4,0,0,26,6,243,8,95,95,104,97,115,104,95,95,0]) 0,b true,b true,s "" 244] 1)),
 (20,o (t "list") (sq [] 0)),
 (21,Dd P [("name",210,s "_collections" 209),("loader",211,r 15),("origin",212,s "built-in" 186),("loader_state",213,N),("submodule_search_locations",214,N),("_uninitialized_submodules",215,r 20),("_set_fileattr",216,b false),("_cached",217,N),("_initializing",245,b false)] 9),
 (22,Dd P [("__module__",229,s "_frozen_importlib" 219),("__firstlineno__",230,I 562 220),("__doc__",231,f "_frozen_importlib.ModuleSpec.__doc__:str#opaque"),("__init__",232,f "_frozen_importlib.ModuleSpec.__init__#opaque"),("__repr__",233,f "_frozen_importlib.ModuleSpec.__repr__#opaque"),("__eq__",234,f "_frozen_importlib.ModuleSpec.__eq__#opaque"),("cached",235,f "_frozen_importlib.ModuleSpec.cached#opaque"),("parent",236,f "_frozen_importlib.ModuleSpec.parent#opaque"),("has_location",237,f "_frozen_importlib.ModuleSpec.has_location#opaque"),("__static_attributes__",238,r 24),("__dict__",240,r 25),("__weakref__",242,r 26),("__hash__",243,N)] 13),
 (23,o (t "type") (.cls {name:=S "ModuleSpec",bases:=[t "object"],mro:=[r 23,t "object"],ns:=22,qualname:=S "ModuleSpec",hasDict:=true,slotNames:=[],subclasses:=[],abstract:=false,collection:=none,hasDel:=false})),
 (24,tS 221 ["_cached","_set_fileattr","_uninitialized_submodules","loader","loader_state","name","origin","submodule_search_locations"])]
noncomputable def Vi(P:aW):LO:=[(25,o (t "getset_descriptor") (fl [s "__dict__" 239,r 23,f "function.__dict__",f "function.__dict__#set"])),
 (26,o (t "getset_descriptor") (fl [s "__weakref__" 241,r 23,f "ExceptionGroup.__weakref__",N])),
 (27,O (r 23) (some 21) .plain []),
 (28,o N (sq [i 12,z ([6,250,8,95,95,110,97,109,101,95,95,6,249,12,95,99,111,108,108,101,99,116,105,111,110,115,6,251,7,95,95,100,111,99,95,95,9,31,95,99,111,108,108,101,99,116,105,111,110,115]++zd++[6,253,11,95,95,112,97,99,107,97,103,101,95,95,6,252,0,6,254,10,95,95,108,111,97,100,101,114,95,95,4,0,0,15,6,255,8,95,95,115,112,101,99,95,95,4,0,0,27,6,256,15,95,99,111,117,110,116,95,101,108,101,109,101,110,116,115,9,28,95,99,111,108,108,101,99,116,105,111,110,115,46,95,99,111,117,110,116,95,101,108,101,109,101,110,116,115,6,257,5,100,101,113,117,101,8,17,99,111,108,108,101,99,116,105,111,110,115,46,100,101,113,117,101,6,258,11,100,101,102,97,117,108,116,100,105,99,116,8,23,99,111,108,108,101,99,116,105,111,110,115,46,100,101,102,97,117,108,116,100,105,99,116,6,259,15,95,100,101,113,117,101,95,105,116,101,114,97,116,111,114,8,27,99,111,108,108,101,99,116,105,111,110,115,46,95,100,101,113,117,101,95,105,116,101,114,97,116,111,114,6,260,23,95,100,101,113,117,101,95,114,101,118,101,114,115,101,95,105,116,101,114,97,116,111,114,8,35,99,111,108,108,101,99,116,105,111,110,115,46,95,100,101,113,117,101,95,114,101,118,101,114,115,101,95,105,116,101,114,97,116,111,114,6,261,12,95,116,117,112,108,101,103,101,116,116,101,114,8,24,99,111,108,108,101,99,116,105,111,110,115,46,95,116,117,112,108,101,103,101,116,116,101,114,6,262,11,79,114,100,101,114,101,100,68,105,99,116,8,23,99,111,108,108,101,99,116,105,111,110,115,46,79,114,100,101,114,101,100,68,105,99,116]) 0,b true,b false,s "_collections" 264] 0))]
def dE (P:aW):BT:=(put (put BT.nil (Vh P)) (Vi P))
noncomputable def Vj(P:aW):LO:=[(12,Dd P [("__name__",250,Mc),("__doc__",251,f "off-the-table:_collections.__doc__:shared#opaque"),("__package__",253,s "" 252),("__loader__",254,f "off-the-table:_collections.__loader__:shared#opaque"),("__spec__",255,f "off-the-table:_collections.__spec__:shared#opaque"),("_count_elements",256,f "_collections._count_elements"),("deque",257,t "collections.deque"),("defaultdict",258,t "collections.defaultdict"),("_deque_iterator",259,f "off-the-table:_collections._deque_iterator:shared#opaque"),("_deque_reverse_iterator",260,f "off-the-table:_collections._deque_reverse_iterator:shared#opaque"),("_tuplegetter",261,t "collections._tuplegetter"),("OrderedDict",262,t "collections.OrderedDict")] 12)]
def d0 (P:aW):BT:=(put (dE P) (Vj P))
def Vk (P:aW):LO:=[]
def Vl (P:aW):LO:=[(29,T0),
 (30,N0),
 (31,o (t "code") (fl [s "<module>" 274,s "<module>" 275,s "/claim/cut.py" 276,i 1,i 0,i 0,i 0,i 0,r 29,b false,i 273,r 30,N,N,N,N,i 277,i 1,s "/claim/cut.py" 278])),
 (32,O (t "frame") none .plain [some (r 31),some (r 3),some (r 3),none,some Mm,none,some (r 0)])]
def d1 (P:aW):BT:=(put (put (d0 P) (Vk P)) (Vl P))
def y1:List (String×Nat×ae):=[("_wall",285,r 39),("ABCMeta",311,r 56),("_ABCLike",354,r 89),("_abc_plain_meta",361,r 98),("_abc_has_iter",368,r 105),("_abc_has_len",375,r 112),("_abc_has_contains",382,r 119),("_abc_is_mappingproxy",389,r 126),("_abc_is_builtin_collection",396,r 133)]
def vp:jr:=[i 2,i 0,r 38,i 6,i 0,r 45,i 11,i 0,r 64,i 26,i 0,r 97,i 29,i 0,r 104,i 32,i 0,r 111,i 35,i 0,r 118,i 38,i 0,r 125,i 40,i 0,r 132]
noncomputable def Vm(P:aW):LO:=[(3,Dd P (("__name__",165,Ma)::y0++y1) 19),
 (30,o N (fl (vp)))]
 ++fa 33 (st 1) "_wall" "_wall" 279 2 1 Mm ["k"]
 ++[(40,T [t "type"]),
 (41,o (t "builtin_function_or_method") (fl [f "type.__prepare__",t "type"])),
 (42,Dd P [("__module__",295,Mb),("__qualname__",297,s "ABCMeta" 296),("__firstlineno__",299,I 6 298),("register",307,r 53),("__static_attributes__",308,r 54)] 5),
 (43,T0),
 (44,o N (fl [i 8,i 4,r 52])),
 (45,o (t "code") (fl [s "ABCMeta" 290,s "ABCMeta" 291,s "/claim/cut.py" 292,i 6,i 0,i 0,i 0,i 0,r 43,b false,i 273,r 44,N,N,N,N,i 293,i 6,s "/claim/cut.py" 294])),
 (46,O (t "frame") none .plain [some (r 45),some (r 3),some (r 42),none,some Mb,none,some (r 0)])]
 ++fa 47 (sc 3 0) "register" "ABCMeta.register" 300 8 2 Mb ["cls","subclass"]
 ++[(54,T0),
 (55,Dd P [("__module__",295,Mb),("__firstlineno__",299,I 6 298),("register",307,r 53),("__static_attributes__",308,r 54),("__doc__",309,N)] 2)]
noncomputable def Vn(P:aW):LO:=[(56,Cl (t "type") "ABCMeta" [t "type"] [r 56,t "type",t "object"] 55 true [r 89] false [some (r 40),none,some (s "ABCMeta" 288),some (s "ABCMeta" 296),some (f "type.__new__"),some (b true)]),
 (57,o (t "super") (fl [r 56,r 56,r 56])),
 (58,bm "object.__init_subclass__" 56),
 (59,T [r 56]),
 (60,o (t "builtin_function_or_method") (fl [f "type.__prepare__",t "type"])),
 (61,Dd P [("__module__",321,Ma),("__qualname__",323,s "_ABCLike" 322),("__firstlineno__",325,I 11 324),("__instancecheck__",334,r 72),("__subclasscheck__",342,r 79),("register",350,r 86),("__static_attributes__",351,r 87)] 7),
 (62,T0),
 (63,o N (fl [i 13,i 4,r 71,i 19,i 4,r 78,i 24,i 4,r 85])),
 (64,o (t "code") (fl [s "_ABCLike" 316,s "_ABCLike" 317,s "/claim/cut.py" 318,i 11,i 0,i 0,i 0,i 0,r 62,b false,i 273,r 63,N,N,N,N,i 319,i 11,s "/claim/cut.py" 320])),
 (65,O (t "frame") none .plain [some (r 64),some (r 3),some (r 61),none,some Ma,none,some (r 0)])]
 ++fa 66 (sc 5 0) "__instancecheck__" "_ABCLike.__instancecheck__" 326 13 2 Ma ["cls","instance","C"]
 ++fa 73 (sc 5 1) "__subclasscheck__" "_ABCLike.__subclasscheck__" 335 19 2 Ma ["cls","C"]
 ++[(80,T0)]
noncomputable def Vo(P:aW):LO:=[(81,N0),
 (82,tS 346 ["cls","subclass"]),
 (83,T0),
 (84,Fs (sc 5 2) "_ABCLike.register"),
 (85,Ca "register" "_ABCLike.register" 343 24 2 3 80 348),
 (86,Fu (sc 5 2) "_ABCLike.register" Ma 85),
 (87,T0),
 (88,Dd P [("__module__",321,Ma),("__firstlineno__",325,I 11 324),("__instancecheck__",334,r 72),("__subclasscheck__",342,r 79),("register",350,r 86),("__static_attributes__",351,r 87),("__doc__",352,N)] 2),
 (89,Cl (t "type") "_ABCLike" [r 56] [r 89,r 56,t "type",t "object"] 88 true [] false [some (r 59),none,some (s "_ABCLike" 314),some (s "_ABCLike" 322),some (f "type.__new__"),some (b true)]),
 (90,o (t "super") (fl [r 89,r 89,r 89])),
 (91,bm "object.__init_subclass__" 89)]
 ++fa 92 (st 6) "_abc_plain_meta" "_abc_plain_meta" 355 26 1 Ma ["C"]
 ++fa 99 (st 7) "_abc_has_iter" "_abc_has_iter" 362 29 1 Ma ["C"]
def Vp (P:aW):LO:=fa 106 (st 8) "_abc_has_len" "_abc_has_len" 369 32 1 Ma ["C"]
 ++fa 113 (st 9) "_abc_has_contains" "_abc_has_contains" 376 35 1 Ma ["C"]
 ++fa 120 (st 10) "_abc_is_mappingproxy" "_abc_is_mappingproxy" 383 38 1 Ma ["C"]
 ++[(127,T0),
 (128,N0),
 (129,tS 393 ["C"]),
 (130,T0)]
def Vq (P:aW):LO:=[(131,Fs (st 11) "_abc_is_builtin_collection"),
 (132,Ca "_abc_is_builtin_collection" "_abc_is_builtin_collection" 390 40 1 3 127 394),
 (133,Fu (st 11) "_abc_is_builtin_collection" Ma 132)]
def d2 (P:aW):BT:=(put (put (put (put (put (d1 P) (Vm P)) (Vn P)) (Vo P)) (Vp P)) (Vq P))
def y2:List (String×Nat×ae):=[("Iterable",437,r 166),("Sized",474,r 196)]
def xx:jr:=[i 42,i 0,r 139,i 58,i 0,r 176]
noncomputable def Vr(P:aW):LO:=[(3,Dd P (("__name__",165,Ma)::y0++y1++y2) 21),
 (30,o N (fl (vp++xx))),
 (134,T0),
 (135,bm "type.__prepare__" 89),
 (136,Dd P [("__module__",404,Ma),("__qualname__",406,s "Iterable" 405),("__firstlineno__",408,I 42 407),("__slots__",409,r 141),("__iter__",416,r 148),("_abc_kind",424,r 155),("__class_getitem__",432,r 162),("__static_attributes__",433,r 163)] 8),
 (137,T0),
 (138,o N (fl [i 45,i 4,r 147,i 49,i 4,r 154,i 55,i 4,r 161])),
 (139,o (t "code") (fl [s "Iterable" 399,s "Iterable" 400,s "/claim/cut.py" 401,i 42,i 0,i 0,i 0,i 0,r 137,b false,i 273,r 138,N,N,N,N,i 402,i 42,s "/claim/cut.py" 403])),
 (140,O (t "frame") none .plain [some (r 139),some (r 3),some (r 136),none,some Ma,none,some (r 0)]),
 (141,T0),
 (142,T0),
 (143,N0),
 (144,tS 413 ["self"]),
 (145,T0),
 (146,Fs (sc 12 1) "Iterable.__iter__"),
 (147,Ca "__iter__" "Iterable.__iter__" 410 45 1 35 142 414),
 (148,Fu (sc 12 1) "Iterable.__iter__" Ma 147)]
 ++fa 149 (sc 12 2) "_abc_kind" "Iterable._abc_kind" 417 49 2 Ma ["cls","C"]
 ++[(156,T0)]
noncomputable def Vs(P:aW):LO:=[(157,N0),
 (158,tS 428 ["cls","item"]),
 (159,T0),
 (160,Fs (sc 12 3) "Iterable.__class_getitem__"),
 (161,Ca "__class_getitem__" "Iterable.__class_getitem__" 425 55 2 3 156 430),
 (162,Fu (sc 12 3) "Iterable.__class_getitem__" Ma 161),
 (163,T0),
 (164,o (t "list") (sq [] 0)),
 (165,Dd P [("__module__",404,Ma),("__firstlineno__",408,I 42 407),("__slots__",409,r 141),("__iter__",416,r 148),("_abc_kind",424,r 155),("__class_getitem__",432,r 167),("__static_attributes__",433,r 163),("__doc__",435,N),("__abstractmethods__",442,r 170)] 3),
 (166,Cl (r 89) "Iterable" [t "object"] [r 166,t "object"] 165 false [] true [none,none,some (s "Iterable" 397),some (s "Iterable" 405),some (f "object.__new__"),some (b false)]),
 (167,o (t "classmethod") (fl [r 162])),
 (168,o (t "super") (fl [r 166,r 166,r 166])),
 (169,bm "object.__init_subclass__" 166),
 (170,tS 438 ["__iter__"]),
 (171,T0),
 (172,bm "type.__prepare__" 89),
 (173,Dd P [("__module__",450,Ma),("__qualname__",452,s "Sized" 451),("__firstlineno__",454,I 58 453),("__slots__",455,r 178),("__len__",462,r 185),("_abc_kind",470,r 192),("__static_attributes__",471,r 193)] 7),
 (174,T0),
 (175,o N (fl [i 61,i 4,r 184,i 64,i 4,r 191])),
 (176,o (t "code") (fl [s "Sized" 445,s "Sized" 446,s "/claim/cut.py" 447,i 58,i 0,i 0,i 0,i 0,r 174,b false,i 273,r 175,N,N,N,N,i 448,i 58,s "/claim/cut.py" 449])),
 (177,O (t "frame") none .plain [some (r 176),some (r 3),some (r 173),none,some Ma,none,some (r 0)]),
 (178,T0),
 (179,T0),
 (180,N0),
 (181,tS 459 ["self"])]
noncomputable def Vt(P:aW):LO:=[(182,T0),
 (183,Fs (sc 14 1) "Sized.__len__"),
 (184,Ca "__len__" "Sized.__len__" 456 61 1 3 179 460),
 (185,Fu (sc 14 1) "Sized.__len__" Ma 184)]
 ++fa 186 (sc 14 2) "_abc_kind" "Sized._abc_kind" 463 64 2 Ma ["cls","C"]
 ++[(193,T0),
 (194,o (t "list") (sq [] 0)),
 (195,Dd P [("__module__",450,Ma),("__firstlineno__",454,I 58 453),("__slots__",455,r 178),("__len__",462,r 185),("_abc_kind",470,r 192),("__static_attributes__",471,r 193),("__doc__",472,N),("__abstractmethods__",479,r 199)] 3),
 (196,Cl (r 89) "Sized" [t "object"] [r 196,t "object"] 195 false [] true [none,none,some (s "Sized" 443),some (s "Sized" 451),some (f "object.__new__"),some (b false)]),
 (197,o (t "super") (fl [r 196,r 196,r 196])),
 (198,bm "object.__init_subclass__" 196),
 (199,tS 475 ["__len__"])]
def d3 (P:aW):BT:=(put (put (put (d2 P) (Vr P)) (Vs P)) (Vt P))
def y3:List (String×Nat×ae):=[("Container",521,r 232),("Collection",551,r 255)]
def yT:jr:=[i 70,i 0,r 205,i 85,i 0,r 242]
noncomputable def Vu(P:aW):LO:=[(3,Dd P (("__name__",165,Ma)::y0++y1++y2++y3) 23),
 (30,o N (fl (vp++xx++yT))),
 (166,Cl (r 89) "Iterable" [t "object"] [r 166,t "object"] 165 false [r 255] true [none,none,some (s "Iterable" 397),some (s "Iterable" 405),some (f "object.__new__"),some (b false)]),
 (196,Cl (r 89) "Sized" [t "object"] [r 196,t "object"] 195 false [r 255] true [none,none,some (s "Sized" 443),some (s "Sized" 451),some (f "object.__new__"),some (b false)]),
 (200,T0),
 (201,bm "type.__prepare__" 89),
 (202,Dd P [("__module__",487,Ma),("__qualname__",489,s "Container" 488),("__firstlineno__",491,I 70 490),("__slots__",492,r 207),("__contains__",500,r 214),("_abc_kind",508,r 221),("__class_getitem__",516,r 228),("__static_attributes__",517,r 229)] 8),
 (203,T0),
 (204,o N (fl [i 73,i 4,r 213,i 76,i 4,r 220,i 82,i 4,r 227])),
 (205,o (t "code") (fl [s "Container" 482,s "Container" 483,s "/claim/cut.py" 484,i 70,i 0,i 0,i 0,i 0,r 203,b false,i 273,r 204,N,N,N,N,i 485,i 70,s "/claim/cut.py" 486])),
 (206,O (t "frame") none .plain [some (r 205),some (r 3),some (r 202),none,some Ma,none,some (r 0)]),
 (207,T0)]
 ++fa 208 (sc 16 1) "__contains__" "Container.__contains__" 493 73 2 Ma ["self","x"]
 ++[(215,T0),
 (216,N0),
 (217,tS 504 ["cls","C"]),
 (218,T0),
 (219,Fs (sc 16 2) "Container._abc_kind"),
 (220,Ca "_abc_kind" "Container._abc_kind" 501 76 2 3 215 506)]
noncomputable def Vv(P:aW):LO:=[(221,Fu (sc 16 2) "Container._abc_kind" Ma 220)]
 ++fa 222 (sc 16 3) "__class_getitem__" "Container.__class_getitem__" 509 82 2 Ma ["cls","item"]
 ++[(229,T0),
 (230,o (t "list") (sq [] 0)),
 (231,Dd P [("__module__",487,Ma),("__firstlineno__",491,I 70 490),("__slots__",492,r 207),("__contains__",500,r 214),("_abc_kind",508,r 221),("__class_getitem__",516,r 233),("__static_attributes__",517,r 229),("__doc__",519,N),("__abstractmethods__",526,r 236)] 3),
 (232,Cl (r 89) "Container" [t "object"] [r 232,t "object"] 231 false [r 255] true [none,none,some (s "Container" 480),some (s "Container" 488),some (f "object.__new__"),some (b false)]),
 (233,o (t "classmethod") (fl [r 228])),
 (234,o (t "super") (fl [r 232,r 232,r 232])),
 (235,bm "object.__init_subclass__" 232),
 (236,tS 522 ["__contains__"]),
 (237,T [r 196,r 166,r 232]),
 (238,bm "type.__prepare__" 89),
 (239,Dd P [("__module__",534,Ma),("__qualname__",536,s "Collection" 535),("__firstlineno__",538,I 85 537),("__slots__",539,r 244),("_abc_kind",547,r 251),("__static_attributes__",548,r 252)] 6),
 (240,T0),
 (241,o N (fl [i 88,i 4,r 250])),
 (242,o (t "code") (fl [s "Collection" 529,s "Collection" 530,s "/claim/cut.py" 531,i 85,i 0,i 0,i 0,i 0,r 240,b false,i 273,r 241,N,N,N,N,i 532,i 85,s "/claim/cut.py" 533])),
 (243,O (t "frame") none .plain [some (r 242),some (r 3),some (r 239),none,some Ma,none,some (r 0)]),
 (244,T0),
 (245,T0)]
noncomputable def Vw(P:aW):LO:=[(246,N0),
 (247,tS 543 ["cls","C"]),
 (248,T0),
 (249,Fs (sc 18 1) "Collection._abc_kind"),
 (250,Ca "_abc_kind" "Collection._abc_kind" 540 88 2 3 245 545),
 (251,Fu (sc 18 1) "Collection._abc_kind" Ma 250),
 (252,T0),
 (253,o (t "list") (sq [] 0)),
 (254,Dd P [("__module__",534,Ma),("__firstlineno__",538,I 85 537),("__slots__",539,r 244),("_abc_kind",547,r 251),("__static_attributes__",548,r 252),("__doc__",549,N),("__abstractmethods__",558,r 258)] 3),
 (255,Cl (r 89) "Collection" [r 196,r 166,r 232] [r 255,r 196,r 166,r 232,t "object"] 254 false [] true [some (r 237),none,some (s "Collection" 527),some (s "Collection" 535),some (f "object.__new__"),some (b false)]),
 (256,o (t "super") (fl [r 255,r 255,r 255])),
 (257,bm "object.__init_subclass__" 255),
 (258,tS 552 ["__contains__","__iter__","__len__"])]
def d4 (P:aW):BT:=(put (put (put (d3 P) (Vu P)) (Vv P)) (Vw P))
def y4:List (String×Nat×ae):=[("Set",708,r 371)]
def Bn:jr:=[i 96,i 0,r 264]
def SE:jr:=[i 99,i 4,r 272,i 109,i 4,r 279,i 114,i 4,r 286,i 119,i 4,r 293,i 129,i 4,r 300,i 135,i 4,r 307,i 138,i 4,r 317,i 144,i 4,r 324,i 147,i 4,r 331,i 154,i 4,r 338,i 161,i 4,r 345,i 168,i 4,r 352,i 176,i 4,r 359,i 179,i 4,r 366]
noncomputable def Vx(P:aW):LO:=[(3,Dd P (("__name__",165,Ma)::y0++y1++y2++y3++y4) 24),
 (30,o N (fl (vp++xx++yT++Bn))),
 (255,Cl (r 89) "Collection" [r 196,r 166,r 232] [r 255,r 196,r 166,r 232,t "object"] 254 false [r 371] true [some (r 237),none,some (s "Collection" 527),some (s "Collection" 535),some (f "object.__new__"),some (b false)]),
 (259,T [r 255]),
 (260,bm "type.__prepare__" 89),
 (261,Dd P [("__module__",566,Ma),("__qualname__",568,s "Set" 567),("__firstlineno__",570,I 96 569),("__slots__",571,r 266),("__le__",580,r 273),("__lt__",588,r 280),("__gt__",596,r 287),("__ge__",605,r 294),("__eq__",613,r 301),("_from_iterable",633,r 310),("__and__",642,r 318),("__rand__",643,r 318),("isdisjoint",651,r 325),("__or__",660,r 332),("__ror__",661,r 332),("__sub__",670,r 339),("__rsub__",679,r 346),("__xor__",687,r 353),("__rxor__",688,r 353),("_hash",695,r 360),("_abc_kind",703,r 367),("__static_attributes__",704,r 368)] 22),
 (262,T0),
 (263,o N (fl (SE))),
 (264,o (t "code") (fl [s "Set" 561,s "Set" 562,s "/claim/cut.py" 563,i 96,i 0,i 0,i 0,i 0,r 262,b false,i 273,r 263,N,N,N,N,i 564,i 96,s "/claim/cut.py" 565])),
 (265,O (t "frame") none .plain [some (r 264),some (r 3),some (r 261),none,some Ma,none,some (r 0)]),
 (266,T0)]
 ++fa 267 (sc 20 1) "__le__" "Set.__le__" 572 99 2 Ma ["self","other","elem"]
 ++fa 274 (sc 20 2) "__lt__" "Set.__lt__" 581 109 2 Ma ["self","other"]
def Vy (P:aW):LO:=fa 281 (sc 20 3) "__gt__" "Set.__gt__" 589 114 2 Ma ["self","other"]
 ++fa 288 (sc 20 4) "__ge__" "Set.__ge__" 597 119 2 Ma ["self","other","elem"]
 ++fa 295 (sc 20 5) "__eq__" "Set.__eq__" 606 129 2 Ma ["self","other"]
 ++[(302,T0),
 (303,N0),
 (304,tS 617 ["cls","it"]),
 (305,T0)]
noncomputable def VA(P:aW):LO:=[(306,Fs (sc 20 6) "Set._from_iterable"),
 (307,Ca "_from_iterable" "Set._from_iterable" 614 134 2 3 302 619),
 (308,o (t "function") (.func (F (sc 20 6) "Set._from_iterable" 3 [] N N N Ma (r 307) N (some 311) 0))),
 (309,Dd P [("__module__",622,Ma),("__name__",625,s "_from_iterable" 624),("__qualname__",628,s "Set._from_iterable" 627),("__doc__",630,N),("__annotations__",632,r 311)] 5),
 (310,O (t "classmethod") (some 309) (fl [r 308,b false]) []),
 (311,Dd P [] 0),
 (312,T0),
 (313,N0),
 (314,tS 637 ["self","other"]),
 (315,tS 639 ["self"]),
 (316,Fs (sc 20 7) "Set.__and__"),
 (317,Ca "__and__" "Set.__and__" 634 138 2 3 312 640),
 (318,Fu (sc 20 7) "Set.__and__" Ma 317)]
 ++fa 319 (sc 20 9) "isdisjoint" "Set.isdisjoint" 644 144 2 Ma ["self","other"]
 ++[(326,T0),
 (327,N0),
 (328,tS 655 ["self","other","chain"]),
 (329,T0),
 (330,Fs (sc 20 10) "Set.__or__")]
def VB (P:aW):LO:=[(331,Ca "__or__" "Set.__or__" 652 147 2 3 326 658),
 (332,Fu (sc 20 10) "Set.__or__" Ma 331),
 (333,T0),
 (334,N0),
 (335,tS 665 ["self","other"]),
 (336,tS 667 ["other"]),
 (337,Fs (sc 20 12) "Set.__sub__"),
 (338,Ca "__sub__" "Set.__sub__" 662 154 2 3 333 668),
 (339,Fu (sc 20 12) "Set.__sub__" Ma 338),
 (340,T0),
 (341,N0),
 (342,tS 674 ["self","other"]),
 (343,tS 676 ["self"]),
 (344,Fs (sc 20 13) "Set.__rsub__"),
 (345,Ca "__rsub__" "Set.__rsub__" 671 161 2 3 340 677),
 (346,Fu (sc 20 13) "Set.__rsub__" Ma 345)]
 ++fa 347 (sc 20 14) "__xor__" "Set.__xor__" 680 168 2 Ma ["self","other"]
 ++[(354,T0),
 (355,N0)]
noncomputable def VC(P:aW):LO:=[(356,tS 692 ["self"]),
 (357,T0),
 (358,Fs (sc 20 16) "Set._hash"),
 (359,Ca "_hash" "Set._hash" 689 176 1 3 354 693),
 (360,Fu (sc 20 16) "Set._hash" Ma 359)]
 ++fa 361 (sc 20 17) "_abc_kind" "Set._abc_kind" 696 179 2 Ma ["cls","C"]
 ++[(368,T0),
 (369,o (t "list") (sq [] 0)),
 (370,Dd P [("__module__",566,Ma),("__firstlineno__",570,I 96 569),("__slots__",571,r 266),("__le__",580,r 273),("__lt__",588,r 280),("__gt__",596,r 287),("__ge__",605,r 294),("__eq__",613,r 301),("_from_iterable",633,r 310),("__and__",642,r 318),("__rand__",643,r 318),("isdisjoint",651,r 325),("__or__",660,r 332),("__ror__",661,r 332),("__sub__",670,r 339),("__rsub__",679,r 346),("__xor__",687,r 353),("__rxor__",688,r 353),("_hash",695,r 360),("_abc_kind",703,r 367),("__static_attributes__",704,r 368),("__doc__",705,N),("__hash__",706,N)] 3),
 (371,Cl (r 89) "Set" [r 255] [r 371,r 255,r 196,r 166,r 232,t "object"] 370 false [] false [some (r 259),none,some (s "Set" 559),some (s "Set" 567),some (f "object.__new__"),some (b false)]),
 (372,o (t "super") (fl [r 371,r 371,r 371])),
 (373,bm "object.__init_subclass__" 371)]
def d5 (P:aW):BT:=(put (put (put (put (put (d4 P) (Vx P)) (Vy P)) (VA P)) (VB P)) (VC P))
def y5:List (String×Nat×ae):=[("MutableSet",816,r 456)]
def DU:jr:=[i 185,i 0,r 380]
def SF:jr:=[i 188,i 4,r 388,i 191,i 4,r 395,i 194,i 4,r 402,i 199,i 4,r 409,i 208,i 4,r 416,i 215,i 4,r 423,i 220,i 4,r 430,i 225,i 4,r 437,i 238,i 4,r 444,i 246,i 4,r 451]
noncomputable def VD(P:aW):LO:=[(3,Dd P (("__name__",165,Mt)::y0++y1++y2++y3++y4++y5) 25),
 (30,o N (fl (vp++xx++yT++Bn++DU))),
 (370,Dd P [("__module__",566,Ma),("__firstlineno__",570,I 96 569),("__slots__",571,r 266),("__le__",580,r 273),("__lt__",588,r 280),("__gt__",596,r 287),("__ge__",605,r 294),("__eq__",613,r 301),("_from_iterable",633,r 310),("__and__",642,r 318),("__rand__",643,r 318),("isdisjoint",651,r 325),("__or__",660,r 332),("__ror__",661,r 332),("__sub__",670,r 339),("__rsub__",679,r 346),("__xor__",687,r 353),("__rxor__",688,r 353),("_hash",695,r 360),("_abc_kind",703,r 367),("__static_attributes__",704,r 368),("__doc__",705,N),("__hash__",706,N),("__abstractmethods__",715,r 374)] 4),
 (371,Cl (r 89) "Set" [r 255] [r 371,r 255,r 196,r 166,r 232,t "object"] 370 false [r 456] true [some (r 259),none,some (s "Set" 559),some (s "Set" 567),some (f "object.__new__"),some (b false)]),
 (374,tS 709 ["__contains__","__iter__","__len__"]),
 (375,T [r 371]),
 (376,bm "type.__prepare__" 89),
 (377,Dd P [("__module__",723,Ma),("__qualname__",725,s "MutableSet" 724),("__firstlineno__",727,I 185 726),("__slots__",728,r 382),("add",736,r 389),("discard",744,r 396),("remove",752,r 403),("pop",761,r 410),("clear",768,r 417),("__ior__",777,r 424),("__iand__",786,r 431),("__ixor__",795,r 438),("__isub__",804,r 445),("_abc_kind",812,r 452),("__static_attributes__",813,r 453)] 15),
 (378,T0),
 (379,o N (fl (SF))),
 (380,o (t "code") (fl [s "MutableSet" 718,s "MutableSet" 719,s "/claim/cut.py" 720,i 185,i 0,i 0,i 0,i 0,r 378,b false,i 273,r 379,N,N,N,N,i 721,i 185,s "/claim/cut.py" 722])),
 (381,O (t "frame") none .plain [some (r 380),some (r 3),some (r 377),none,some Ma,none,some (r 0)]),
 (382,T0)]
 ++fa 383 (sc 22 1) "add" "MutableSet.add" 729 188 2 Ma ["self","value"]
 ++[(390,T0),
 (391,N0),
 (392,tS 740 ["self","value"]),
 (393,T0),
 (394,Fs (sc 22 2) "MutableSet.discard")]
def VE (P:aW):LO:=[(395,Ca "discard" "MutableSet.discard" 737 191 2 3 390 742),
 (396,Fu (sc 22 2) "MutableSet.discard" Ma 395)]
 ++fa 397 (sc 22 3) "remove" "MutableSet.remove" 745 194 2 Ma ["self","value"]
 ++fa 404 (sc 22 4) "pop" "MutableSet.pop" 753 199 1 Ma ["self","it","value"]
 ++fa 411 (sc 22 5) "clear" "MutableSet.clear" 762 208 1 Ma ["self"]
 ++[(418,T0),
 (419,N0)]
def VF (P:aW):LO:=[(420,tS 772 ["self","it","value"]),
 (421,T0),
 (422,Fs (sc 22 6) "MutableSet.__ior__"),
 (423,Ca "__ior__" "MutableSet.__ior__" 769 215 2 3 418 775),
 (424,Fu (sc 22 6) "MutableSet.__ior__" Ma 423)]
 ++fa 425 (sc 22 7) "__iand__" "MutableSet.__iand__" 778 220 2 Ma ["self","it","value"]
 ++fa 432 (sc 22 8) "__ixor__" "MutableSet.__ixor__" 787 225 2 Ma ["self","it","value"]
 ++[(439,T0),
 (440,N0),
 (441,tS 799 ["self","it","value"]),
 (442,T0),
 (443,Fs (sc 22 9) "MutableSet.__isub__"),
 (444,Ca "__isub__" "MutableSet.__isub__" 796 238 2 3 439 802)]
noncomputable def VG(P:aW):LO:=[(445,Fu (sc 22 9) "MutableSet.__isub__" Ma 444)]
 ++fa 446 (sc 22 10) "_abc_kind" "MutableSet._abc_kind" 805 246 2 Ma ["cls","C"]
 ++[(453,T0),
 (454,o (t "list") (sq [] 0)),
 (455,Dd P [("__module__",723,Ma),("__firstlineno__",727,I 185 726),("__slots__",728,r 382),("add",736,r 389),("discard",744,r 396),("remove",752,r 403),("pop",761,r 410),("clear",768,r 417),("__ior__",777,r 424),("__iand__",786,r 431),("__ixor__",795,r 438),("__isub__",804,r 445),("_abc_kind",812,r 452),("__static_attributes__",813,r 453),("__doc__",814,N),("__abstractmethods__",825,r 459)] 3),
 (456,Cl (r 89) "MutableSet" [r 371] [r 456,r 371,r 255,r 196,r 166,r 232,t "object"] 455 false [] true [some (r 375),none,some (s "MutableSet" 716),some (s "MutableSet" 724),some (f "object.__new__"),some (b false)]),
 (457,o (t "super") (fl [r 456,r 456,r 456])),
 (458,bm "object.__init_subclass__" 456),
 (459,tS 817 ["__contains__","__iter__","__len__","add","discard"])]
def d6 (P:aW):BT:=(put (put (put (put (d5 P) (VD P)) (VE P)) (VF P)) (VG P))
def y6:List (String×Nat×ae):=[("Unique",967,r 565)]
def Iq:jr:=[i 253,i 0,r 466]
def SG:jr:=[i 256,i 4,r 474,i 262,i 4,r 484,i 267,i 4,r 491,i 270,i 4,r 498,i 273,i 4,r 505,i 276,i 4,r 512,i 279,i 4,r 519,i 282,i 4,r 526,i 287,i 4,r 533,i 292,i 4,r 540,i 300,i 4,r 547,i 306,i 4,r 554,i 309,i 4,r 561]
noncomputable def VH(P:aW):LO:=[(3,Dd P (("__name__",165,Md)::y0++y1++y2++y3++y4++y5++y6) 26),
 (30,o N (fl (vp++xx++yT++Bn++DU++Iq))),
 (456,Cl (r 89) "MutableSet" [r 371] [r 456,r 371,r 255,r 196,r 166,r 232,t "object"] 455 false [r 565] true [some (r 375),none,some (s "MutableSet" 716),some (s "MutableSet" 724),some (f "object.__new__"),some (b false)]),
 (460,T [r 456]),
 (461,bm "type.__prepare__" 89),
 (462,Dd P [("__module__",835,Mt),("__qualname__",837,s "Unique" 836),("__firstlineno__",839,I 253 838),("_fromargs",862,r 477),("__init__",868,r 485),("copy",875,r 492),("__iter__",882,r 499),("__len__",889,r 506),("__contains__",897,r 513),("__repr__",904,r 520),("add",912,r 527),("discard",920,r 534),("replace",930,r 541),("move",940,r 548),("issuperset",948,r 555),("rsub",956,r 562),("__static_attributes__",959,r 563),("__classcell__",960,r 463)] 18),
 (463,o (t "cell") (.cell (some (r 565)))),
 (464,T0),
 (465,o N (fl (SG))),
 (466,o (t "code") (fl [s "Unique" 830,s "Unique" 831,s "/claim/cut.py" 832,i 253,i 0,i 0,i 0,i 0,r 464,b false,i 273,r 465,N,N,N,N,i 833,i 253,s "/claim/cut.py" 834])),
 (467,O (t "frame") none .plain [some (r 466),some (r 3),some (r 462),none,some Mt,none,some (r 0)]),
 (468,T [r 463]),
 (469,tS 843 ["__class__"]),
 (470,N0),
 (471,tS 844 ["cls","_seen","_items","inst"]),
 (472,T0),
 (473,Fs (sc 25 0) "Unique._fromargs"),
 (474,Ca "_fromargs" "Unique._fromargs" 840 255 3 3 469 848),
 (475,o (t "function") (.func (F (sc 25 0) "Unique._fromargs" 3 [(S "__class__",463)] N N N Mt (r 474) (r 468) (some 478) 0))),
 (476,Dd P [("__module__",851,Mt),("__name__",854,s "_fromargs" 853),("__qualname__",857,s "Unique._fromargs" 856),("__doc__",859,N),("__annotations__",861,r 478)] 5),
 (477,O (t "classmethod") (some 476) (fl [r 475,b false]) []),
 (478,Dd P [] 0),
 (479,T0),
 (480,T [r 479]),
 (481,T0)]
def VI (P:aW):LO:=[(482,N0),
 (483,Fs (sc 25 1) "Unique.__init__"),
 (484,Cb "__init__" "Unique.__init__" 863 262 2 3 481 866),
 (485,Fd (sc 25 1) "Unique.__init__" Mt 484 (r 480))]
 ++fa 486 (sc 25 2) "copy" "Unique.copy" 869 267 1 Mt ["self"]
 ++fa 493 (sc 25 3) "__iter__" "Unique.__iter__" 876 270 1 Mt ["self"]
 ++fa 500 (sc 25 4) "__len__" "Unique.__len__" 883 273 1 Mt ["self"]
def VJ (P:aW):LO:=fa 507 (sc 25 5) "__contains__" "Unique.__contains__" 890 276 2 Mt ["self","item"]
 ++fa 514 (sc 25 6) "__repr__" "Unique.__repr__" 898 279 1 Mt ["self"]
 ++fa 521 (sc 25 7) "add" "Unique.add" 905 282 2 Mt ["self","item"]
 ++[(528,T0),
 (529,N0),
 (530,tS 916 ["self","item"]),
 (531,T0)]
def VK (P:aW):LO:=[(532,Fs (sc 25 8) "Unique.discard"),
 (533,Ca "discard" "Unique.discard" 913 287 2 3 528 918),
 (534,Fu (sc 25 8) "Unique.discard" Mt 533)]
 ++fa 535 (sc 25 9) "replace" "Unique.replace" 921 292 3 Mt ["self","item","new_item","idx"]
 ++fa 542 (sc 25 10) "move" "Unique.move" 931 300 3 Mt ["self","item","new_index","idx"]
 ++fa 549 (sc 25 11) "issuperset" "Unique.issuperset" 941 306 2 Mt ["self","items"]
 ++[(556,T0)]
noncomputable def VM(P:aW):LO:=[(557,N0),
 (558,tS 952 ["self","items"]),
 (559,T0),
 (560,Fs (sc 25 12) "Unique.rsub"),
 (561,Ca "rsub" "Unique.rsub" 949 309 2 3 556 954),
 (562,Fu (sc 25 12) "Unique.rsub" Mt 561),
 (563,tS 957 ["_items","_seen"]),
 (564,Dd P [("__module__",835,Mt),("__firstlineno__",839,I 253 838),("_fromargs",862,r 477),("__init__",868,r 485),("copy",875,r 492),("__iter__",882,r 499),("__len__",889,r 506),("__contains__",897,r 513),("__repr__",904,r 520),("add",912,r 527),("discard",920,r 534),("replace",930,r 541),("move",940,r 548),("issuperset",948,r 555),("rsub",956,r 562),("__static_attributes__",959,r 563),("__dict__",962,r 566),("__weakref__",964,r 567),("__doc__",965,N)] 5),
 (565,Cl (r 89) "Unique" [r 456] [r 565,r 456,r 371,r 255,r 196,r 166,r 232,t "object"] 564 true [] false [some (r 460),none,some (s "Unique" 828),some (s "Unique" 836),some (f "object.__new__"),some (b true)]),
 (566,o (t "getset_descriptor") (fl [s "__dict__" 961,r 565,f "function.__dict__",f "function.__dict__#set"])),
 (567,o (t "getset_descriptor") (fl [s "__weakref__" 963,r 565,f "ExceptionGroup.__weakref__",N])),
 (568,o (t "super") (fl [r 565,r 565,r 565])),
 (569,bm "object.__init_subclass__" 565)]
def d7 (P:aW):BT:=(put (put (put (put (put (d6 P) (VH P)) (VI P)) (VJ P)) (VK P)) (VM P))
def y7:List (String×Nat×ae):=[("Triple",1118,r 682)]
def LT:jr:=[i 312,i 0,r 576]
def SH:jr:=[i 315,i 4,r 584,i 322,i 4,r 596,i 331,i 4,r 603,i 334,i 4,r 610,i 339,i 4,r 617,i 342,i 4,r 624,i 347,i 4,r 631,i 356,i 4,r 638,i 360,i 4,r 646,i 364,i 4,r 652,i 369,i 4,r 660,i 372,i 4,r 668,i 375,i 4,r 673,i 378,i 4,r 678]
noncomputable def VN(P:aW):LO:=[(3,Dd P (("__name__",165,Md)::y0++y1++y2++y3++y4++y5++y6++y7) 27),
 (30,o N (fl (vp++xx++yT++Bn++DU++Iq++LT))),
 (570,T [t "object"]),
 (571,o (t "builtin_function_or_method") (fl [f "type.__prepare__",t "type"])),
 (572,Dd P [("__module__",977,Md),("__qualname__",979,s "Triple" 978),("__firstlineno__",981,I 312 980),("_fromargs",1005,r 587),("__init__",1011,r 597),("copy",1018,r 604),("__eq__",1026,r 611),("__ne__",1034,r 618),("__iter__",1041,r 625),("__getitem__",1051,r 632),("objects",1059,r 640),("properties",1067,r 648),("bools",1074,r 654),("__repr__",1081,r 661),("take",1091,r 669),("transposed",1097,r 674),("inverted",1103,r 679),("__neg__",1104,r 674),("__invert__",1105,r 679),("__static_attributes__",1109,r 680),("__classcell__",1110,r 573)] 21),
 (573,o (t "cell") (.cell (some (r 682)))),
 (574,T0),
 (575,o N (fl (SH))),
 (576,o (t "code") (fl [s "Triple" 972,s "Triple" 973,s "/claim/cut.py" 974,i 312,i 0,i 0,i 0,i 0,r 574,b false,i 273,r 575,N,N,N,N,i 975,i 312,s "/claim/cut.py" 976])),
 (577,O (t "frame") none .plain [some (r 576),some (r 3),some (r 572),none,some Md,none,some (r 0)]),
 (578,T [r 573]),
 (579,tS 985 ["__class__"]),
 (580,N0),
 (581,tS 986 ["cls","_objects","_properties","_pairs","inst"]),
 (582,T0),
 (583,Fs (sc 27 0) "Triple._fromargs"),
 (584,Ca "_fromargs" "Triple._fromargs" 982 314 4 3 579 991),
 (585,o (t "function") (.func (F (sc 27 0) "Triple._fromargs" 3 [(S "__class__",573)] N N N Md (r 584) (r 578) (some 588) 0))),
 (586,Dd P [("__module__",994,Md),("__name__",997,s "_fromargs" 996),("__qualname__",1000,s "Triple._fromargs" 999),("__doc__",1002,N),("__annotations__",1004,r 588)] 5),
 (587,O (t "classmethod") (some 586) (fl [r 585,b false]) []),
 (588,Dd P [] 0),
 (589,T0),
 (590,T0),
 (591,T0),
 (592,T [r 589,r 590,r 591])]
def VO (P:aW):LO:=[(593,T0),
 (594,N0),
 (595,Fs (sc 27 1) "Triple.__init__"),
 (596,Cb "__init__" "Triple.__init__" 1006 322 4 3 593 1009),
 (597,Fd (sc 27 1) "Triple.__init__" Md 596 (r 592))]
 ++fa 598 (sc 27 2) "copy" "Triple.copy" 1012 331 1 Md ["self"]
 ++fa 605 (sc 27 3) "__eq__" "Triple.__eq__" 1019 334 2 Md ["self","other"]
 ++[(612,T0),
 (613,N0),
 (614,tS 1030 ["self","other"]),
 (615,T0),
 (616,Fs (sc 27 4) "Triple.__ne__"),
 (617,Ca "__ne__" "Triple.__ne__" 1027 339 2 3 612 1032)]
def VP (P:aW):LO:=[(618,Fu (sc 27 4) "Triple.__ne__" Md 617),
 (619,T0),
 (620,N0),
 (621,tS 1038 ["self"]),
 (622,T0),
 (623,Fs (sc 27 5) "Triple.__iter__"),
 (624,Ca "__iter__" "Triple.__iter__" 1035 342 1 35 619 1039),
 (625,Fu (sc 27 5) "Triple.__iter__" Md 624)]
 ++fa 626 (sc 27 6) "__getitem__" "Triple.__getitem__" 1042 347 2 Md ["self","pair","o","p"]
 ++fa 633 (sc 27 7) "objects" "Triple.objects" 1052 355 1 Md ["self"]
 ++[(640,o (t "property") (fl [r 639,N,N,N,s "objects" 1059,b false])),
 (641,T0),
 (642,N0)]
noncomputable def VQ(P:aW):LO:=[(643,tS 1063 ["self"]),
 (644,T0),
 (645,Fs (sc 27 8) "Triple.properties"),
 (646,Ca "properties" "Triple.properties" 1060 359 1 3 641 1064),
 (647,Fu (sc 27 8) "Triple.properties" Md 646),
 (648,o (t "property") (fl [r 647,N,N,N,s "properties" 1067,b false])),
 (649,T0),
 (650,N0),
 (651,Fs (sc 27 9) "Triple.bools"),
 (652,Cb "bools" "Triple.bools" 1068 363 1 3 649 1071),
 (653,Fu (sc 27 9) "Triple.bools" Md 652),
 (654,o (t "property") (fl [r 653,N,N,N,s "bools" 1074,b false]))]
 ++fa 655 (sc 27 10) "__repr__" "Triple.__repr__" 1075 369 1 Md ["self"]
 ++[(662,T [N,N,b false]),
 (663,T0),
 (664,N0),
 (665,tS 1085 ["self","objects","properties","reorder"]),
 (666,T0),
 (667,Fs (sc 27 11) "Triple.take")]
noncomputable def VR(P:aW):LO:=[(668,Ca "take" "Triple.take" 1082 372 4 3 663 1089),
 (669,Fd (sc 27 11) "Triple.take" Md 668 (r 662)),
 (670,T0),
 (671,N0),
 (672,Fs (sc 27 12) "Triple.transposed"),
 (673,Cb "transposed" "Triple.transposed" 1092 375 1 3 670 1095),
 (674,Fu (sc 27 12) "Triple.transposed" Md 673),
 (675,T0),
 (676,N0),
 (677,Fs (sc 27 13) "Triple.inverted"),
 (678,Cb "inverted" "Triple.inverted" 1098 378 1 3 675 1101),
 (679,Fu (sc 27 13) "Triple.inverted" Md 678),
 (680,tS 1106 ["_objects","_pairs","_properties"]),
 (681,Dd P [("__module__",977,Md),("__firstlineno__",981,I 312 980),("_fromargs",1005,r 587),("__init__",1011,r 597),("copy",1018,r 604),("__eq__",1026,r 611),("__ne__",1034,r 618),("__iter__",1041,r 625),("__getitem__",1051,r 632),("objects",1059,r 640),("properties",1067,r 648),("bools",1074,r 654),("__repr__",1081,r 661),("take",1091,r 669),("transposed",1097,r 674),("inverted",1103,r 679),("__neg__",1104,r 674),("__invert__",1105,r 679),("__static_attributes__",1109,r 680),("__dict__",1112,r 683),("__weakref__",1114,r 684),("__doc__",1115,N),("__hash__",1116,N)] 6),
 (682,Cl (t "type") "Triple" [t "object"] [r 682,t "object"] 681 true [] false [some (r 570),none,some (s "Triple" 970),some (s "Triple" 978),some (f "object.__new__"),some (b true)]),
 (683,o (t "getset_descriptor") (fl [s "__dict__" 1111,r 682,f "function.__dict__",f "function.__dict__#set"])),
 (684,o (t "getset_descriptor") (fl [s "__weakref__" 1113,r 682,f "ExceptionGroup.__weakref__",N])),
 (685,o (t "super") (fl [r 682,r 682,r 682])),
 (686,bm "object.__init_subclass__" 682)]
def d8 (P:aW):BT:=(put (put (put (put (put (d7 P) (VN P)) (VO P)) (VP P)) (VQ P)) (VR P))
def y8:List (String×Nat×ae):=[("conflicting_pairs",1131,r 693),("ensure_compatible",1140,r 700),("Definition",1313,r 833),("_law_objects",1321,r 836),("_law_properties",1326,r 837),("_law_some",1332,r 842),("_law_moved",1338,r 847),("_law_with",1348,r 854)]
def Q_:jr:=[i 383,i 0,r 692,i 391,i 0,r 699,i 395,i 0,r 706,i 500,i 0,r 841,i 502,i 0,r 846,i 505,i 0,r 853]
def SI:jr:=[i 397,i 4,r 711,i 402,i 4,r 716,i 407,i 4,r 723,i 410,i 4,r 730,i 413,i 4,r 737,i 424,i 4,r 746,i 429,i 4,r 755,i 434,i 4,r 762,i 438,i 4,r 769,i 442,i 4,r 776,i 453,i 4,r 783,i 464,i 4,r 791,i 471,i 4,r 799,i 478,i 4,r 806,i 482,i 4,r 813,i 486,i 4,r 821,i 491,i 4,r 829]
noncomputable def VS(P:aW):LO:=[(3,Dd P (("__name__",165,Ml)::y0++y1++y2++y3++y4++y5++y6++y7++y8) 35),
 (30,o N (fl (vp++xx++yT++Bn++DU++Iq++LT++Q_))),
 (682,Cl (t "type") "Triple" [t "object"] [r 682,t "object"] 681 true [r 833] false [some (r 570),none,some (s "Triple" 970),some (s "Triple" 978),some (f "object.__new__"),some (b true)]),
 (687,T0),
 (688,N0),
 (689,tS 1122 ["left","right","objects","properties","difference","o","p"]),
 (690,T0),
 (691,Fs (st 28) "conflicting_pairs"),
 (692,Ca "conflicting_pairs" "conflicting_pairs" 1119 383 2 35 687 1129),
 (693,Fu (st 28) "conflicting_pairs" Md 692)]
 ++fa 694 (st 29) "ensure_compatible" "ensure_compatible" 1132 391 2 Md ["left","right","conflicts"]
 ++[(701,T [r 682]),
 (702,o (t "builtin_function_or_method") (fl [f "type.__prepare__",t "type"])),
 (703,Dd P [("__module__",1148,Md),("__qualname__",1150,s "Definition" 1149),("__firstlineno__",1152,I 395 1151),("rename_object",1158,r 712),("rename_property",1164,r 717),("move_object",1173,r 724),("move_property",1182,r 731),("__setitem__",1193,r 738),("add_object",1203,r 747),("add_property",1213,r 756),("remove_object",1222,r 763),("remove_property",1231,r 770),("set_object",1242,r 777),("set_property",1253,r 784),("union_update",1262,r 792),("intersection_update",1271,r 800),("__ior__",1279,r 807),("__iand__",1287,r 814),("union",1297,r 822),("intersection",1307,r 830),("__or__",1308,r 822),("__and__",1309,r 830),("__static_attributes__",1310,r 831)] 23),
 (704,T0),
 (705,o N (fl (SI))),
 (706,o (t "code") (fl [s "Definition" 1143,s "Definition" 1144,s "/claim/cut.py" 1145,i 395,i 0,i 0,i 0,i 0,r 704,b false,i 273,r 705,N,N,N,N,i 1146,i 395,s "/claim/cut.py" 1147])),
 (707,O (t "frame") none .plain [some (r 706),some (r 3),some (r 703),none,some Md,none,some (r 0)]),
 (708,T0)]
def VT (P:aW):LO:=[(709,N0),
 (710,Fs (sc 30 0) "Definition.rename_object"),
 (711,Cb "rename_object" "Definition.rename_object" 1153 397 3 3 708 1156),
 (712,Fu (sc 30 0) "Definition.rename_object" Md 711),
 (713,T0),
 (714,N0),
 (715,Fs (sc 30 1) "Definition.rename_property"),
 (716,Cb "rename_property" "Definition.rename_property" 1159 402 3 3 713 1162),
 (717,Fu (sc 30 1) "Definition.rename_property" Md 716)]
 ++fa 718 (sc 30 2) "move_object" "Definition.move_object" 1165 407 3 Md ["self","obj","index"]
 ++fa 725 (sc 30 3) "move_property" "Definition.move_property" 1174 410 3 Md ["self","prop","index"]
 ++[(732,T0),
 (733,N0)]
noncomputable def VU(P:aW):LO:=[(734,tS 1186 ["self","pair","value","o","p"]),
 (735,T0),
 (736,Fs (sc 30 4) "Definition.__setitem__"),
 (737,Ca "__setitem__" "Definition.__setitem__" 1183 413 3 3 732 1191),
 (738,Fu (sc 30 4) "Definition.__setitem__" Md 737),
 (739,T0),
 (740,T [r 739]),
 (741,T0),
 (742,N0),
 (743,tS 1197 ["self","obj","properties"]),
 (744,tS 1200 ["obj"]),
 (745,Fs (sc 30 5) "Definition.add_object"),
 (746,Ca "add_object" "Definition.add_object" 1194 424 3 3 741 1201),
 (747,Fd (sc 30 5) "Definition.add_object" Md 746 (r 740)),
 (748,T0),
 (749,T [r 748]),
 (750,T0),
 (751,N0),
 (752,tS 1207 ["self","prop","objects"]),
 (753,tS 1210 ["prop"]),
 (754,Fs (sc 30 6) "Definition.add_property"),
 (755,Ca "add_property" "Definition.add_property" 1204 429 3 3 750 1211),
 (756,Fd (sc 30 6) "Definition.add_property" Md 755 (r 749)),
 (757,T0),
 (758,N0)]
noncomputable def VV(P:aW):LO:=[(759,tS 1217 ["self","obj"]),
 (760,tS 1219 ["obj"]),
 (761,Fs (sc 30 7) "Definition.remove_object"),
 (762,Ca "remove_object" "Definition.remove_object" 1214 434 2 3 757 1220),
 (763,Fu (sc 30 7) "Definition.remove_object" Md 762),
 (764,T0),
 (765,N0),
 (766,tS 1226 ["self","prop"]),
 (767,tS 1228 ["prop"]),
 (768,Fs (sc 30 8) "Definition.remove_property"),
 (769,Ca "remove_property" "Definition.remove_property" 1223 438 2 3 764 1229),
 (770,Fu (sc 30 8) "Definition.remove_property" Md 769)]
 ++fa 771 (sc 30 9) "set_object" "Definition.set_object" 1232 442 3 Md ["self","obj","properties","pairs","p"]
 ++[(778,T0),
 (779,N0),
 (780,tS 1246 ["self","prop","objects","pairs","o"]),
 (781,T0),
 (782,Fs (sc 30 10) "Definition.set_property"),
 (783,Ca "set_property" "Definition.set_property" 1243 453 3 3 778 1251)]
noncomputable def VW(P:aW):LO:=[(784,Fu (sc 30 10) "Definition.set_property" Md 783),
 (785,T [b false]),
 (786,T0),
 (787,N0),
 (788,tS 1257 ["self","other","ignore_conflicts"]),
 (789,T0),
 (790,Fs (sc 30 11) "Definition.union_update"),
 (791,Ca "union_update" "Definition.union_update" 1254 464 3 3 786 1260),
 (792,Fd (sc 30 11) "Definition.union_update" Md 791 (r 785)),
 (793,T [b false]),
 (794,T0),
 (795,N0),
 (796,tS 1266 ["self","other","ignore_conflicts"]),
 (797,T0),
 (798,Fs (sc 30 12) "Definition.intersection_update"),
 (799,Ca "intersection_update" "Definition.intersection_update" 1263 471 3 3 794 1269),
 (800,Fd (sc 30 12) "Definition.intersection_update" Md 799 (r 793))]
 ++fa 801 (sc 30 13) "__ior__" "Definition.__ior__" 1272 478 2 Md ["self","other"]
 ++[(808,T0)]
noncomputable def VX(P:aW):LO:=[(809,N0),
 (810,tS 1283 ["self","other"]),
 (811,T0),
 (812,Fs (sc 30 14) "Definition.__iand__"),
 (813,Ca "__iand__" "Definition.__iand__" 1280 482 2 3 808 1285),
 (814,Fu (sc 30 14) "Definition.__iand__" Md 813),
 (815,T [b false]),
 (816,T0),
 (817,N0),
 (818,tS 1291 ["self","other","ignore_conflicts","result"]),
 (819,T0),
 (820,Fs (sc 30 15) "Definition.union"),
 (821,Ca "union" "Definition.union" 1288 486 3 3 816 1295),
 (822,Fd (sc 30 15) "Definition.union" Md 821 (r 815)),
 (823,T [b false]),
 (824,T0),
 (825,N0),
 (826,tS 1301 ["self","other","ignore_conflicts","result"]),
 (827,T0),
 (828,Fs (sc 30 16) "Definition.intersection"),
 (829,Ca "intersection" "Definition.intersection" 1298 491 3 3 824 1305),
 (830,Fd (sc 30 16) "Definition.intersection" Md 829 (r 823)),
 (831,T0),
 (832,Dd P [("__module__",1148,Md),("__firstlineno__",1152,I 395 1151),("rename_object",1158,r 712),("rename_property",1164,r 717),("move_object",1173,r 724),("move_property",1182,r 731),("__setitem__",1193,r 738),("add_object",1203,r 747),("add_property",1213,r 756),("remove_object",1222,r 763),("remove_property",1231,r 770),("set_object",1242,r 777),("set_property",1253,r 784),("union_update",1262,r 792),("intersection_update",1271,r 800),("__ior__",1279,r 807),("__iand__",1287,r 814),("union",1297,r 822),("intersection",1307,r 830),("__or__",1308,r 822),("__and__",1309,r 830),("__static_attributes__",1310,r 831),("__doc__",1311,N)] 2),
 (833,Cl (t "type") "Definition" [r 682] [r 833,r 682,t "object"] 832 true [] false [some (r 701),none,some (s "Definition" 1141),some (s "Definition" 1149),some (f "object.__new__"),some (b true)])]
def VY (P:aW):LO:=[(834,o (t "super") (fl [r 833,r 833,r 833])),
 (835,bm "object.__init_subclass__" 833),
 (836,o (t "list") (sq [s "a" 1316,s "b" 1317,s "c" 1318,s "d" 1319,s "e" 1320] 0)),
 (837,o (t "list") (sq [s "p" 1322,s "q" 1323,s "r" 1324,s "s" 1325] 0)),
 (838,T0),
 (839,N0),
 (840,Fs (st 34) "_law_some"),
 (841,Cb "_law_some" "_law_some" 1327 500 2 3 838 1330),
 (842,Fu (st 34) "_law_some" Ml 841),
 (843,T0),
 (844,N0),
 (845,Fs (st 35) "_law_moved"),
 (846,Cb "_law_moved" "_law_moved" 1333 502 3 3 843 1336),
 (847,Fu (st 35) "_law_moved" Ml 846)]
 ++fa 848 (st 36) "_law_with" "_law_with" 1339 505 2 Ml ["names","more","found","one"]
def d9 (P:aW):BT:=(put (put (put (put (put (put (put (d8 P) (VS P)) (VT P)) (VU P)) (VV P)) (VW P)) (VX P)) (VY P))
def y9:List (String×Nat×ae):=[("_law_few",1354,r 859),("_law_deed",1360,r 864),("_law_do",1376,r 871),("_law_refusal",1384,r 878),("_law_rows",1390,r 883),("_law_is",1398,r 890),("_law_told",1406,r 897),("_law_refused",1413,r 904),("_law_unlike",1419,r 909),("_law_first",1425,r 914),("law",1431,r 919)]
def VZ:jr:=[i 511,i 0,r 858,i 513,i 0,r 863,i 550,i 0,r 870,i 576,i 0,r 877,i 584,i 0,r 882,i 586,i 0,r 889,i 588,i 0,r 896,i 593,i 0,r 903,i 599,i 0,r 908,i 615,i 0,r 913,i 636,i 0,r 918]
noncomputable def Ra(P:aW):LO:=[(3,Dd P (("__name__",165,Ml)::y0++y1++y2++y3++y4++y5++y6++y7++y8++y9) 46),
 (30,o N (fl (vp++xx++yT++Bn++DU++Iq++LT++Q_++VZ))),
 (855,T0),
 (856,N0),
 (857,Fs (st 37) "_law_few"),
 (858,Cb "_law_few" "_law_few" 1349 511 2 3 855 1352),
 (859,Fu (st 37) "_law_few" Ml 858),
 (860,T0),
 (861,N0),
 (862,Fs (st 38) "_law_deed"),
 (863,Cb "_law_deed" "_law_deed" 1355 513 2 3 860 1358),
 (864,Fu (st 38) "_law_deed" Ml 863)]
 ++fa 865 (st 39) "_law_do" "_law_do" 1361 550 2 Ml ["table","number","kind","a","b","c","one","two","first","second"]
 ++[(872,T0),
 (873,N0),
 (874,tS 1380 ["table","number"]),
 (875,T0),
 (876,Fs (st 40) "_law_refusal"),
 (877,Ca "_law_refusal" "_law_refusal" 1377 576 2 3 872 1382)]
def Rb (P:aW):LO:=[(878,Fu (st 40) "_law_refusal" Ml 877),
 (879,T0),
 (880,N0),
 (881,Fs (st 41) "_law_rows"),
 (882,Cb "_law_rows" "_law_rows" 1385 584 1 3 879 1388),
 (883,Fu (st 41) "_law_rows" Ml 882)]
 ++fa 884 (st 42) "_law_is" "_law_is" 1391 586 2 Ml ["table","state"]
 ++fa 891 (st 43) "_law_told" "_law_told" 1399 588 2 Ml ["table","pair"]
 ++[(898,T0),
 (899,N0),
 (900,tS 1410 ["deed"]),
 (901,T0),
 (902,Fs (st 44) "_law_refused")]
def Rd (P:aW):LO:=[(903,Ca "_law_refused" "_law_refused" 1407 593 1 3 898 1411),
 (904,Fu (st 44) "_law_refused" Ml 903),
 (905,T0),
 (906,N0),
 (907,Fs (st 45) "_law_unlike"),
 (908,Cb "_law_unlike" "_law_unlike" 1414 599 3 3 905 1417),
 (909,Fu (st 45) "_law_unlike" Ml 908),
 (910,T0),
 (911,N0),
 (912,Fs (st 46) "_law_first"),
 (913,Cb "_law_first" "_law_first" 1420 615 0 3 910 1423),
 (914,Fu (st 46) "_law_first" Ml 913),
 (915,T0),
 (916,N0),
 (917,Fs (st 47) "law"),
 (918,Cb "law" "law" 1426 636 1 3 915 1429),
 (919,Fu (st 47) "law" Ml 918)]
def Y2 (P:aW):BT:=(put (put (put (d9 P) (Ra P)) (Rb P)) (Rd P))
def all (P:aW):LO:=Rd P++Rb P++Ra P++VY P++VX P++VW P++VV P++VU P++VT P++VS P++VR P++VQ P++VP P++VO P++VN P++VM P++VK P++VJ P++VI P++VH P++VG P++VF P++VE P++VD P++VC P++VB P++VA P++Vy P++Vx P++Vw P++Vv P++Vu P++Vt P++Vs P++Vr P++Vq P++Vp P++Vo P++Vn P++Vm P++Vl P++Vk P++Vj P++Vi P++Vh P
def pk (P:aW)(l:List Nat):Frag:=l.map λa=>(a,((all P).lookup a).getD default)
end H
namespace H
open PySem PySem.W PyProof.Rows
abbrev tb:=treeTable
def Ir (P:aW):cj:=absHeap (dE P) 29 {}
def rm (P:aW):cj:=absHeap (d0 P) 29 {}
def sh (T:aW->BT)(n k:Nat)(w:cy)(os:OsState):SharedT:=⟨T w.params,n,{},#[],{},k,os⟩
def thE:Thread:=⟨.pure (.again (.builtin "proto.exit.begin" ⟨[rawInt 3],[]⟩)),.builtin "boot" {},⟨0,0,0,0⟩,[]⟩
def V0(w:cy)(os:OsState):PySem.W.Fast.tw14789777615569096658 PySem.W.Fast.tw14364793385576792824 (opening pw) w 828 ⟨.nil,0,{},#[],{},1,os⟩ (start (opening pw)).2=some (sh dE 29 273 w os,thE):=by tm_at"k"
def V3(os:OsState)(h:(start (opening pw)).1.os=os):(start (opening pw)).1=(⟨.nil,0,{},#[],{},1,os⟩:SharedT).abs:=by subst h;tm_at"k"
def V4(w:cy)(os:OsState):importEnds treeTable (opening pw) w 1 (sh dE 29 273 w os).abs thE=some ⟨Ir w.params,#[],{},273,os⟩:=by tm_at"k"
def opn(w:cy):importEnds treeTable (opening pw) w (828+1) (start (opening pw)).1 (start (opening pw)).2=some ⟨Ir w.params,#[],{},273,(start (opening pw)).1.os⟩:=by have h:=V0 w (start (opening pw)).1.os;rw[<-PySem.W.Fast.te14789777615569096658,<-cu]at h;exact(cq (λs=>importEnds treeTable (opening pw) w (828+1) s (start (opening pw)).2) (V3 _ rfl)).trans (imp_go (impGo_of h) (V4 w _))
def Yy(w:cy):(λos=>(fenceModules? pw ⟨Ir w.params,#[],{},273,os⟩).map (λs=>(s.heap,s.gens,s.drawn,s.toks)))=λ_=>some (rm w.params,#[],{},273):=by tm_at"k"
def Yz(w:cy):(fencedOpening treeTable pw w 20000).map (λs=>(s.heap,s.gens,s.drawn,s.toks))=some (rm w.params,#[],{},273):=open_cut (He:=Ir) (H₀:=rm) opn (by decide) Yy w
def V5(w:cy):((rm w.params).isNs mainGlobals&&(#[]:bM GenState).size==0,(rm w.params).objs.size,(rm w.params).nsMap mainGlobals "__annotations__")=(true,29,some (.ref 6)):=by tm_at"k"
abbrev us:az ae:=some (.ref 6)
abbrev bE:p6:=behindTheImports pw
def vq:Env:={scope:=pw.main.scope,locals:=mainNs,globals:=mainNs,cells:=[],code:=.ref 31,frame:=some 32}
abbrev cE:Code:=.body bE vq
abbrev B:List Frame:=[topFrame ⟨0,0,0,0⟩]
def V6(w:cy)(os:OsState):PySem.W.Fast.tw15667345088766844465 PySem.W.Fast.tw14364793385576792824 pw w 29 us 12 ⟨rm w.params,#[],{},273,os⟩ (topStub pw)=some ((sh d1 33 279 w os).abs,⟨PySem.W.Fast.tw11892475500146522536 PySem.W.Fast.tw14364793385576792824 cE,cE,⟨0,0,0,0⟩,B⟩):=by tm_at"k"
def Pv(w:cy)(os:OsState):PySem.W.Fast.tw14374325043358763698 PySem.W.Fast.tw14364793385576792824 pw w 29 us 1 1 (sh d1 33 279 w os).abs (blockOf bE vq cE ⟨0,0,0,0⟩ B)=some (.next,(sh d1 33 279 w os).abs,cE,⟨0,0,0,0⟩):=by tm_at"k"
def pU{w:cy}{a c n M:Nat}{s d:SharedT}{p g:Pos}{x:aj}
  (h:PySem.W.Fast.tw10110043849684766642 PySem.W.Fast.tw14364793385576792824 pw w 29 us 1 n s (piecesOf ((bE.drop a).take c) vq cE p B)=some (.next,d,cE,g))
  (k:topRun treeTable pw w 29 us M d.abs (restOf (bE.drop (a+c)) vq cE g B)=some x):topRun treeTable pw w 29 us (n+M) s.abs (restOf (bE.drop a) vq cE p B)=some x:=by
 rw[<-PySem.W.Fast.te10110043849684766642,<-cu]at h;have z:=piece_app (q:=⟨0,0,0,0⟩) (segRun_of h) k;rw[<-dS,bw]at z;exact z
def SJ(w:cy)(os:OsState):PySem.W.Fast.tw10110043849684766642 PySem.W.Fast.tw14364793385576792824 pw w 29 us 1 740 (sh d1 33 279 w os) (piecesOf ((bE.drop 0).take 11) vq cE ⟨0,0,0,0⟩ B)=some (.next,sh d2 134 397 w os,cE,⟨40,0,41,191⟩):=by tm_at"k"
def SK(w:cy)(os:OsState):PySem.W.Fast.tw10110043849684766642 PySem.W.Fast.tw14364793385576792824 pw w 29 us 1 765 (sh d2 134 397 w os) (piecesOf ((bE.drop 11).take 4) vq cE ⟨40,0,41,191⟩ B)=some (.next,sh d3 200 480 w os,cE,⟨69,0,69,25⟩):=by tm_at"k"
def SL(w:cy)(os:OsState):PySem.W.Fast.tw10110043849684766642 PySem.W.Fast.tw14364793385576792824 pw w 29 us 1 843 (sh d3 200 480 w os) (piecesOf ((bE.drop 15).take 4) vq cE ⟨69,0,69,25⟩ B)=some (.next,sh d4 259 559 w os,cE,⟨95,0,95,30⟩):=by tm_at"k"
def SM(w:cy)(os:OsState):PySem.W.Fast.tw10110043849684766642 PySem.W.Fast.tw14364793385576792824 pw w 29 us 1 956 (sh d4 259 559 w os) (piecesOf ((bE.drop 19).take 1) vq cE ⟨95,0,95,30⟩ B)=some (.next,sh d5 374 709 w os,cE,⟨96,0,183,45⟩):=by tm_at"k"
def SN(w:cy)(os:OsState):PySem.W.Fast.tw10110043849684766642 PySem.W.Fast.tw14364793385576792824 pw w 29 us 1 789 (sh d5 374 709 w os) (piecesOf ((bE.drop 20).take 4) vq cE ⟨96,0,183,45⟩ B)=some (.next,sh d6 460 828 w os,cE,⟨252,0,252,8⟩):=by tm_at"k"
def SO(w:cy)(os:OsState):PySem.W.Fast.tw10110043849684766642 PySem.W.Fast.tw14364793385576792824 pw w 29 us 1 921 (sh d6 460 828 w os) (piecesOf ((bE.drop 24).take 2) vq cE ⟨252,0,252,8⟩ B)=some (.next,sh d7 570 970 w os,cE,⟨311,0,311,8⟩):=by tm_at"k"
def SP(w:cy)(os:OsState):PySem.W.Fast.tw10110043849684766642 PySem.W.Fast.tw14364793385576792824 pw w 29 us 1 993 (sh d7 570 970 w os) (piecesOf ((bE.drop 26).take 1) vq cE ⟨311,0,311,8⟩ B)=some (.next,sh d8 687 1119 w os,cE,⟨312,0,382,25⟩):=by tm_at"k"
def SQ(w:cy)(os:OsState):PySem.W.Fast.tw10110043849684766642 PySem.W.Fast.tw14364793385576792824 pw w 29 us 1 996 (sh d8 687 1119 w os) (piecesOf ((bE.drop 27).take 9) vq cE ⟨312,0,382,25⟩ B)=some (.next,sh d9 855 1349 w os,cE,⟨505,0,510,16⟩):=by tm_at"k"
def Pw(w:cy)(os:OsState):PySem.W.Fast.tw10110043849684766642 PySem.W.Fast.tw14364793385576792824 pw w 29 us 1 314 (sh d9 855 1349 w os) (piecesOf ((bE.drop 36).take 11) vq cE ⟨505,0,510,16⟩ B)=some (.next,sh Y2 920 1432 w os,cE,⟨636,0,672,15⟩):=by tm_at"k"
def mU (P:aW):cj:=absHeap (Y2 P) 920 {}
def V7(w:cy)(os:OsState):PySem.W.Fast.tw14082659384304107361 PySem.W.Fast.tw14364793385576792824 pw w 29 us 2 (sh Y2 920 1432 w os).abs ⟨doneF .next,cE,⟨636,0,672,15⟩,B⟩=some ⟨mU w.params,#[],{},1432,os⟩:=by tm_at"k"
def Y3(w:cy)(os:OsState):topRun treeTable pw w 29 us (12+(1+(740+(765+(843+(956+(789+(921+(993+(996+(314+2))))))))))) ⟨rm w.params,#[],{},273,os⟩ (topStub pw)=some ⟨mU w.params,#[],{},1432,os⟩:=by
 have a:=V6 w os;have c:=Pv w os;have d:=V7 w os;rw[<-PySem.W.Fast.te15667345088766844465,<-cu]at a;rw[<-PySem.W.Fast.te14374325043358763698,<-cu]at c;rw[<-PySem.W.Fast.te14082659384304107361,<-cu]at d;rw[<-PySem.W.Fast.te11892475500146522536]at a;refine go_top a (piece_block (q:=⟨0,0,0,0⟩) c ?_);have g:bE=bE.drop 0:=rfl;rw[g];refine pU (SJ w os) ?_;refine pU (SK w os) ?_;refine pU (SL w os) ?_;refine pU (SM w os) ?_;refine pU (SN w os) ?_;refine pU (SO w os) ?_;refine pU (SP w os) ?_;refine pU (SQ w os) ?_;refine pU (Pw w os) ?_;have h:bE.drop (0+11+4+4+1+4+2+1+9+11)=[]:=by tm_at"k"
 rw[h];exact d
def kf (P:aW):Frag:=pk P [0,3,39,53,55,56,72,79,86,88,89,98,105,112,119,126,133,148,155,162,165,166,167,185,192,195,196,214,221,228,231,232,233,251,254,255,273,280,287,294,301,308,310,318,325,332,339,346,353,360,367,370,371,389,396,403,410,417,424,431,438,445,452,455,456,475,477,480,485,492,499,506,513,520,527,534,541,548,555,562,564,565,585,587,592,597,604,611,618,625,632,639,640,647,648,653,654,661,669,674,679,681,682,693,700,712,717,724,731,738,740,747,749,756,763,770,777,784,792,800,807,814,822,830,832,833,836,837,842,847,854,859,864,871,878,883,890,897,904,909,914,919]
def kf_in(P:aW):(kf P).map (λp=>(mU P).get? p.1)=(kf P).map (λp=>some p.2):=by tm_at"k"
def SR(P:aW):((kf P).all λp=>p.2.cls !=.none)=true:=by tm_at"k"
def kx (P:aW):Frag:=pk P [2,4,71,272,300,366,402,423,463,474,479,484,491,498,505,512,526,533,540,547,573,584,589,590,591,596,603,610,617,624,631,638,646,650,652,711,716,723,730,737,739,742,746,748,751,755,758,762,765,769,776,783,841,846,853,858,863,870,877,882,889,896,903,908,911,913,918]
def V8(P:aW):(kx P).map (λp=>(mU P).get? p.1)=(kx P).map (λp=>some p.2):=by tm_at"k"
def q1:c5:={pw with main:={pw.main with body:=[st 47]}}
def wO:List PySem.Str:=[S "deque",S "_wall",S "ABCMeta",S "_ABCLike",S "_abc_plain_meta",S "_abc_has_iter",S "_abc_has_len",S "_abc_has_contains",S "_abc_is_mappingproxy",S "_abc_is_builtin_collection",S "Iterable",S "Sized",S "Container",S "Collection",S "Set",S "MutableSet",S "Unique",S "Triple",S "conflicting_pairs",S "ensure_compatible",S "Definition",S "_law_objects",S "_law_properties",S "_law_some",S "_law_moved",S "_law_with",S "_law_few",S "_law_deed",S "_law_do",S "_law_refusal",S "_law_rows",S "_law_is",S "_law_told",S "_law_refused",S "_law_unlike",S "_law_first"]
abbrev LU:List PySem.Str:=importedModules pw.main.body
abbrev Y4:aj->aY:=λ_=>true
def V9(w:cy):staticsOk LU (rm w.params) (mU w.params)=true:=by tm_at"k"
def V_(w:cy):namesBound pw (mU w.params)=true:=by tm_at"k"
def Wa(w:cy):laidKept (rm w.params) (mU w.params)=true:=by tm_at"k"
def Wb(w:cy)(os:OsState):PySem.W.Fast.tw4187177175401517315 q1 wO LU Y4 true ⟨mU w.params,#[],{},1432,os⟩=openGood q1 wO:=by tm_at"k"
abbrev LC:OpenLaw:=PySem.Challenge.rw_jw0001_01
def Wc:LeftO pw q1 wO Y4 (λs=>s.heap) (λw=>mU w.params) 20000 true:=
 LeftO.of_pieces (H₀:=rm) (H₁:=mU) Yz V5 Y3 (by decide) λw=>funext λos=>by
  have a:=Wb w os;rw[<-PySem.W.Fast.te4187177175401517315]at a;rw[a];have h:(staticsOk LU (rm w.params) (mU w.params)&&namesBound pw (mU w.params)&&gensDone ⟨mU w.params,#[],{},1432,os⟩&&laidKept (rm w.params) (mU w.params))=true:=by rw[V9,V_,Wa];rfl
  exact cq (λb=>(b,openGood q1 wO,mU w.params)) h
def ST:PySem.W.Fast.tw9446332074065402090 LC=true:=by tm_at"k"
def Y5:LC.wellSaid=true:=by rw[PySem.W.Fast.te9446332074065402090];exact ST
def SU:(chainsOk q1&&opensWell pw&&(frees LC.row.toRowW&&LC.row.within.isEmpty))=true:=by tm_at"k"
def Cn:DefRec:=match st 47 with
 |.FunctionDef name args body _ _ _ b_ _ _ pos=>{name:=name,params:=args,body:=body,scope:=b_,pos:=pos}
 |_=>{name:=S "",params:=default,body:=[],scope:=default,pos:=default}
def Y6:defOf q1 LC.row.name=some (Cn,[]):=by tm_at"k"
def Y7:LC.row.prog.theDef LC.row.name=some (Cn.params,Cn.body,Cn.scope):=by tm_at"k"
def Y8:kwWritten? Cn.params.kwonlyargs Cn.params.kw_defaults=some []:=by tm_at"k"
def Wd:pw.tablesWhole=true:=by tm_at"k"
def abr:LC.row.toRowW.promised:=⟨[.list []],by tm_at"k",by tm_at"k"⟩
abbrev Re:Prop:=WalkX q1 wO (λ_ _=>True) (λs=>s.heap) (λw=>mU w.params) LC.row.toRowW Cn [] λf vs=>PySem.call f vs
def head(call:Re):LC.Holds:=holds_law Y5 λa=>holds_openX (r:=LC.row) (q:=q1) (loose:=wO) (Xt:=Y4) (XP:=λ_ _=>True) (N:=20000) Wc (λ_ _=>trivial) (λ_ _ _ _ _=>trivial) Y6 Y7 Y8 (λ_ _=>recFacts_nil rfl) rfl a SU ⟨rfl,rfl,rfl,rfl,rfl,Wd⟩ abr call
end H
section
open PySem PySem.W PySem.Calls PyProof.Rows PySem.SeqAt
variable {E Q:ae->aj->Prop}{V jF:jj}{s:aj}{A:bO}{M:fL}{a:iJ}{v va vb it:ae}{d n i:Nat}{α:Type}{vs:jr}{h' h:cj}{o:dq}{b_:dF}{t:Sem ae}{iK:aY}{pos:Pos}{x q y:Str}{env:Env}{args:j5}{e target tg:Expr}{op:BoolOp}
inductive BM where
 |setAdd|setDiscard|t_|yB|yC|Co|yD|Px|yE
 deriving DecidableEq
def BM.id:BM->String
 |.setAdd=>"set.add"
 |.setDiscard=>"set.discard"
 |.t_=>"set.remove"
 |.yB=>"set.copy"
 |.yC=>"list.append"
 |.Co=>"list.index"
 |.yD=>"list.remove"
 |.Px=>"list.pop"
 |.yE=>"list.insert"
inductive AV where
 |none
 |bool (b:aY)
 |int (i:Int)
 |str (s:Str)
 |tup (l:List AV)
 |lst (l:List AV)
 |LD (n:Nat)
 |ref (k:Nat)
 |val (v:ae)
 |bm (b:BM) (k:Nat)
 |lam (sc:dF) (e:Expr)
abbrev jy:=List AV
variable {l:jy}{b av:AV}
inductive El where
 |one (s:Str)
 |many (l:jK)
 deriving DecidableEq
abbrev kr:=List El
variable {jR:dq->jr->kr->Prop}
def p7:El->AV
 |.one s=>.str s
 |.many l=>.tup (l.map .str)
inductive j3 where
 |inst (C:iJ) (d:Nat)
 |dict (m:List (Str×AV))
 |list (l:jy)
 |set (l:kr)
 |mP (l:kr) (o:dq)
 |iter (k:Nat) (i:Nat)
 |dead
abbrev lH:=List j3
abbrev jn:=iJ->az dq
variable {F F':jn}
mutual
inductive kQ (V:jj) (F:jn):ae->AV->Prop
 |none:kQ V F .none .none
 |bool (b:aY):kQ V F (.bool b) (.bool b)
 |int (i:Int) (t:Tok):kQ V F (.int i t) (.int i)
 |str (s:Str) (t:Tok):kQ V F (.str s t) (.str s)
 |tup {a:iJ}{o:dq}{vs:bM ae}{n:Nat}{l:jy}(e:F a=some o) (c:o.cls=.type "tuple") (d:o.data=.seq vs n) (r:jV V F vs.toList l):kQ V F (.ref a) (.tup l)
 |lst {a:iJ}{o:dq}{vs:bM ae}{n:Nat}{l:jy}(e:F a=some o) (c:o.cls=.type "list") (d:o.data=.seq vs n) (r:jV V F vs.toList l):kQ V F (.ref a) (.lst l)
 |LD {a:iJ}{n:Nat}{t u v:Tok}(e:F a=some {cls:=.type "range",dict:=none,data:=.fields #[.int 0 t,.int n u,.int 1 v],slots:=#[]}):kQ V F (.ref a) (.LD n)
 |ref {k:Nat}{a:iJ}(e:V[k]?=some a):kQ V F (.ref a) (.ref k)
 |val (v:ae):kQ V F v (.val v)
 |bm {a:iJ}{b:BM}{k:Nat}{x:iJ}(e:F a=some {cls:=.type "builtin_function_or_method",dict:=none,data:=.fields #[.builtin b.id,.ref x],slots:=#[]}) (h:V[k]?=some x):kQ V F (.ref a) (.bm b k)
 |lam {a:iJ}{o:dq}{fd:f7}{b:Expr}{c':iJ}{oc:dq}{vs:bM ae}{q:Str}{t:Tok}(e:F a=some o) (c:o.cls=.type "function") (d:o.data=.func fd) (h1:fd.body=.expr b) (h2:fd.closure=[]) (h3:fd.globals=mainGlobals) (h4:fd.builtins=builtinsNs) (h5:fd.params=⟨[],[],.none,[],[],.none,[]⟩) (h6:fd.code=.ref c') (h7:F c'=some oc) (h8:oc.data=.fields vs) (h9:vs[1]?=some (.str q t)) (SV:fd.defaults=.none) (UW:fd.kwdefaults=.none):kQ V F (.ref a) (.lam fd.scope b)
inductive jV (V:jj) (F:jn):jr->jy->Prop
 |nil:jV V F [] []
 |cons {v:ae}{av:AV}{vs:jr}{l:jy}(h:kQ V F v av) (t:jV V F vs l):jV V F (v::vs) (av::l)
end
structure j8 (V jF:jj) (F F':jn):Prop where
 th:∀{k a:Nat},V[k]?=some a->jF[k]?=some a
 fr:∀{a:iJ}{o:dq},F a=some o->F' a=some o
def j8.refl(V:jj)(F:jn):j8 V V F F:=⟨λe=>e,λe=>e⟩
def j8.trans{a b c:jj}{d f nA:jn}(x:j8 a b d f)(y:j8 b c f nA):j8 a c d nA:=⟨λe=>y.th (x.th e),λe=>y.fr (x.fr e)⟩
mutual
def kQ.mono{V jF:jj}{F F':jn}(g:j8 V jF F F'):∀{v:ae}{av:AV},kQ V F v av->kQ jF F' v av
 |_,_,.none=>.none
 |_,_,.bool b=>.bool b
 |_,_,.int i t=>.int i t
 |_,_,.str s t=>.str s t
 |_,_,.tup e c d r=>.tup (g.fr e) c d (jV.mono g r)
 |_,_,.lst e c d r=>.lst (g.fr e) c d (jV.mono g r)
 |_,_,.LD e=>.LD (g.fr e)
 |_,_,.ref e=>.ref (g.th e)
 |_,_,.val v=>.val v
 |_,_,.bm e h=>.bm (g.fr e) (g.th h)
 |_,_,.lam e c d a f j k l m n o p q u=>.lam (g.fr e) c d a f j k l m (g.fr n) o p q u
def jV.mono{V jF:jj}{F F':jn}(g:j8 V jF F F'):∀{vs:jr}{l:jy},jV V F vs l->jV jF F' vs l
 |_,_,.nil=>.nil
 |_,_,.cons h t=>.cons (kQ.mono g h) (jV.mono g t)
end
def jV.length{V:jj}{F:jn}:∀{vs:jr}{l:jy},jV V F vs l->vs.length=l.length
 |_,_,.nil=>rfl
 |_,_,.cons _ t=>cq (·+1) t.length
def jV.append{V:jj}{F:jn}{a:jr}{l':jy}(y:jV V F a l'):∀{vs:jr}{l:jy},jV V F vs l->jV V F (vs++a) (l++l')
 |_,_,.nil=>y
 |_,_,.cons h t=>.cons h (jV.append y t)
def jV.one(h:kQ V F v av):jV V F [v] [av]:=.cons h .nil
def jV.get{V:jj}{F:jn}:∀{vs:jr}{l:jy}{i:Nat}{av:AV},jV V F vs l->l[i]?=some av->∃v,vs[i]?=some v/\kQ V F v av
 |_,_,0,_,.cons h _,e=>by cases e;exact⟨_,rfl,h⟩
 |_,_,i+1,_,.cons _ t,e=>by have⟨v,a,b⟩:=t.get (i:=i) e;exact⟨v,a,b⟩
def jV.get'{V:jj}{F:jn}:∀{vs:jr}{l:jy}{i:Nat}{v:ae},jV V F vs l->vs[i]?=some v->∃av,l[i]?=some av/\kQ V F v av
 |_,_,0,_,.cons h _,e=>by cases e;exact⟨_,rfl,h⟩
 |_,_,i+1,_,.cons _ t,e=>by have⟨v,a,b⟩:=t.get' (i:=i) e;exact⟨v,a,b⟩
def jV.take{V:jj}{F:jn}:∀{vs:jr}{l:jy}(n:Nat),jV V F vs l->jV V F (vs.take n) (l.take n)
 |_,_,0,_=>.nil
 |_,_,_+1,.nil=>.nil
 |_,_,n+1,.cons h t=>.cons h (t.take n)
def jV.drop{V:jj}{F:jn}:∀{vs:jr}{l:jy}(n:Nat),jV V F vs l->jV V F (vs.drop n) (l.drop n)
 |_,_,0,r=>r
 |_,_,_+1,.nil=>.nil
 |_,_,n+1,.cons _ t=>t.drop n
def jV.reverse{V:jj}{F:jn}:∀{vs:jr}{l:jy},jV V F vs l->jV V F vs.reverse l.reverse
 |_,_,.nil=>.nil
 |_,_,.cons h t=>by rw[dg,dg];exact jV.append (.one h) t.reverse
def n9 (V:jj)(F:jn):az ae->az AV->Prop
 |some v,some av=>kQ V F v av
 |none,none=>True
 |_,_=>False
def n9.mono{V jF:jj}{F F':jn}(g:j8 V jF F F'):∀{v:az ae}{av:az AV},n9 V F v av->n9 jF F' v av
 |some _,some _,h=>kQ.mono g h
 |none,none,_=>trivial
inductive mv (V:jj) (F:jn):List cU->List (Str×AV)->Prop
 |nil:mv V F [] []
 |cons {e:cU}{x:Str}{t:Tok}{a:AV}{es:List cU}{m:List (Str×AV)}(hk:e.key=.str x t) (hv:kQ V F e.val a) (tl:mv V F es m):mv V F (e::es) ((x,a)::m)
def mv.mono{V jF:jj}{F F':jn}(g:j8 V jF F F'):∀{es:List cU}{m:List (Str×AV)},mv V F es m->mv jF F' es m
 |_,_,.nil=>.nil
 |_,_,.cons a b c=>.cons a (kQ.mono g b) (c.mono g)
def mv.strKeys{es:List cU}{m:List (Str×AV)}(h:mv V F es m):StrKeys es.toArray:=by
 intro e he;have he:e∈es:=by simpa using he
 induction h with
 |nil=>cases he
 |cons a c d b=>
  rcases af.mp he with rfl|he
  .exact⟨_,_,a⟩
  .exact b (by simpa using he) he
def mv.find{V:jj}{F:jn}{es:List cU}{m:List (Str×AV)}(h:mv V F es m)(y:Str):n9 V F (nsFind es.toArray y) (m.lookup y):=by
 unfold nsFind findBy;rw[<-Array.find?_toList];show n9 V F ((es.find? (·.key.isStr y)).map (·.val)) _;induction h with
 |nil=>trivial
 |@cons e x t a es m b c g d=>
  rw[List.find?_cons,cZ,b];have f:(Value.str x t).isStr y=(y==x):=by
   show(x==y)=(y==x)
   grind
  rw[f];cases y==x
  .exact d
  .exact c
def mv.length{V:jj}{F:jn}{es:List cU}{m:List (Str×AV)}(h:mv V F es m):es.length=m.length:=by
 induction h with
 |nil=>rfl
 |cons _ _ _ a=>rw[aI,aI,a]
noncomputable def sZ(jR:dq->jr->kr->Prop)(V:jj)(F:jn)(h:cj)(a:iJ):j3->Prop
 |.inst C d=>∃dx,V[d]?=some dx/\h.get? a=some {cls:=.ref C,dict:=some dx,data:=.plain}
 |.dict m=>∃es n,h.get? a=some {cls:=.type "dict",data:=.dict es.toArray n}/\mv V F es m
 |.list l=>∃vs n,h.get? a=some {cls:=.type "list",data:=.seq vs n}/\jV V F vs.toList l
 |.set l=>∃o vs l',h.get? a=some o/\jR o vs l'/\l'.Perm l/\jV V F vs (l'.map p7)
 |.mP l o=>∃vs l',h.get? a=some o/\jR o vs l'/\l'.Perm l/\jV V F vs (l'.map p7)
 |.iter k i=>∃b,V[k]?=some b/\h.get? a=some {cls:=.type "list_iterator",data:=.fields #[.ref b,.int i 0]}
 |.dead=>True
def sZ.mono{jR:dq->jr->kr->Prop}{V jF:jj}{F F':jn}{h h':cj}{a:iJ}{c:j3}(g:j8 V jF F F')(k:∀o,h.get? a=some o->h'.get? a=some o)(x:sZ jR V F h a c):sZ jR jF F' h' a c:=by
 cases c with
 |inst C d=>have⟨f,e,r⟩:=x;exact⟨f,g.th e,k _ r⟩
 |dict m=>have⟨es,n,e,r⟩:=x;exact⟨es,n,k _ e,r.mono g⟩
 |list l=>have⟨vs,n,e,r⟩:=x;exact⟨vs,n,k _ e,r.mono g⟩
 |set l=>have⟨o,vs,l',e,s,p,r⟩:=x;exact⟨o,vs,l',k _ e,s,p,r.mono g⟩
 |mP l o=>have⟨vs,l',e,s,p,r⟩:=x;exact⟨vs,l',k _ e,s,p,r.mono g⟩
 |iter j i=>have⟨b,e,r⟩:=x;exact⟨b,g.th e,k _ r⟩
 |dead=>trivial
structure ma where
 env:Env
 vars:List (Str×AV)
 own:jj
abbrev jS:=List ma
variable {fs:jS}{f:ma}
def mZ:az cF->aY
 |some .cell|some .free=>true
 |_=>false
def m5 (x:Str)(k:az cF):aY:=x !=("__class__":Str)&&mZ k
def nV{k:az cF}(h:m5 x k=true):mZ k=true:=(aJ _ _▸h).2
structure n_ (V:jj) (F:jn) (h:cj) (below:jj) (f:ma):Prop where
 ns:∃m,h.Ns f.env.locals m/\∀x,f.env.kindOf x=some .local->n9 V F (m x) (f.vars.lookup x)
 cells:∀x,m5 x (f.env.kindOf x)=true->∃c v,f.env.cells.lookup x=some c/\c∈f.own++below/\h.IsCell c v/\n9 V F v (f.vars.lookup x)
 loc:f.env.locals∈f.own
 Y9:∀x c,f.env.cells.lookup x=some c->c≠f.env.locals
 kind:f.env.scope.kind=.function
 fr:∃L,L∈f.own++below/\f.env.frame=some L
 apart:∀x y c,f.env.cells.lookup x=some c->f.env.cells.lookup y=some c->x=y
def pC (fs:jS):jj:=fs.flatMap ma.own
def mK (V:jj)(F:jn)(h:cj):jS->Prop
 |[]=>True
 |f::r=>n_ V F h (pC r) f/\mK V F h r
def n_.mono{V jF:jj}{F F':jn}{h h':cj}{below:jj}{f:ma}(g:j8 V jF F F')(k:∀a∈f.own++below,∀o,h.get? a=some o->h'.get? a=some o)(x:n_ V F h below f):n_ jF F' h' below f:=by
 have⟨⟨m,l,n⟩,p,i,q,b,s,t⟩:=x;refine⟨⟨m,?_,λx e=>(n x e).mono g⟩,λx e=>?_,i,q,b,s,t⟩
 .have⟨o,es,u,d,r⟩:=l;exact⟨o,es,u,k _ (aH _ i) _ d,r⟩
 .have⟨c,v,w,j,⟨o,d,y⟩,z⟩:=p x e;exact⟨c,v,w,j,⟨o,k _ j _ d,y⟩,z.mono g⟩
def mK.mono{V jF:jj}{F F':jn}{h h':cj}(g:j8 V jF F F'):∀{fs:jS},(∀a∈pC fs,∀o,h.get? a=some o->h'.get? a=some o)->mK V F h fs->mK jF F' h' fs
 |[],_,_=>trivial
 |_::_,k,⟨x,y⟩=>⟨x.mono g k,mK.mono g (λa b=>k a (ag _ b)) y⟩
structure wG where
 H:cj
 os:OsState
 tabs:List (iJ×iJ×Str)
variable {B:wG}
def DW (F:jn)(h:cj)(c P:iJ)(q:Str):Prop:=∃ps,h.IsCode c P ps/\h.TableAt c P ps/\∀pos cv,codeAmong pos ps.toList=some cv->∃c' o vs q' t,cv=.ref c'/\F c'=some o/\o.data=.fields vs/\vs[1]?=some (.str q' t)
def jT:jj->lH->jj
 |_::V,.dead::J=>jT V J
 |a::V,_::J=>a::jT V J
 |_,_=>[]
abbrev mO:=List (iJ×dq)
variable {R:mO}
def kz (V:jj)(J:lH)(fs:jS)(R:mO):jj:=jT V J++(pC fs++R.map (·.1))
structure Holds (jR:dq->jr->kr->Prop) (B:wG) (V:jj) (F:jn) (J:lH) (fs:jS) (R:mO) (s:aj):Prop where
 base:∀a o,B.H.get? a=some o->o.cls≠.none->F a=some o
 lw:∀a o,F a=some o->s.heap.get? a=some o
 old:OldK B.H s.heap
 lim:s.heap.NoLimit
 bare:PyProof.Rows.AllBare s.gens
 os:s.os=B.os
 len:V.length=J.length
 nd:(kz V J fs R).Nodup
 new:∀a∈kz V J fs R,F a=none/\B.H.get? a=none
 there:∀a∈kz V J fs R,∃o,s.heap.get? a=some o
 cells:∀(k:Nat) (a:iJ) (c:j3),V[k]?=some a->J[k]?=some c->sZ jR V F s.heap a c
 frames:mK V F s.heap fs
 res:∀p∈R,s.heap.get? p.1=some p.2
 tabs:∀t∈B.tabs,DW F s.heap t.1 t.2.1 t.2.2/\F t.2.1=none/\(B.H.get? t.2.1).isSome=true/\t.2.1≠cStatics/\(F t.1).isSome=true
 mS:(B.H.get? cStatics).isSome=true
def OldK.vr{h₀:cj}(K:OldK h₀ h)(f:∀b,(h₀.get? b).isSome=true->∀o,h.get? b=some o->h'.get? b=some o):OldK h₀ h':=by
 have k:∀b x,h₀.get? b=some x->∀o,h.get? b=some o->h'.get? b=some o:=λb x e=>f b (by rw[e];rfl);refine⟨λb o e=>?_,λb o e=>let ⟨o',a⟩:=K.there b o e;⟨o',k _ _ e _ a⟩⟩;rcases K.old b o e with x|⟨t,d,vs,more,g,x⟩|⟨rfl,d,⟨o',es,n,a,r⟩,z⟩
 .exact .inl (k _ _ e _ x)
 .exact .inr (.inl ⟨t,d,vs,more,g,k _ _ e _ x⟩)
 .exact .inr (.inr ⟨rfl,d,⟨o',es,n,k _ _ e _ a,r⟩,λc=>by rw[OldK.staticOf_congr ((k _ _ e _ a).trans a.symm) c];exact z c⟩)
def lx:∀{V:jj}{J:lH}{k:Nat}{a:iJ}{c:j3},V[k]?=some a->J[k]?=some c->c≠.dead->a∈jT V J
 |b::V,d::J,0,a,c,e,f,h=>by cases e;cases f;cases d<;>first|exact bc|exact absurd rfl h
 |b::V,d::J,k+1,a,c,e,f,h=>by have g:=lx (V:=V) (J:=J) (k:=k) e f h;cases d<;>first|exact aO _ g|exact g
 |[],_,_,_,_,e,_,_=>by simp at e
 |_::_,[],_,_,_,_,f,_=>by simp at f
def xy:∀{V:jj}{J:lH}(a:iJ) (c:j3),V.length=J.length->jT (V++[a]) (J++[c])=jT V J++jT [a] [c]
 |[],[],a,c,_=>rfl
 |b::V,d::J,a,c,e=>by have f:=xy (V:=V) (J:=J) a c (by simpa using e);cases d<;>simp only[eS,jT,f]
 |[],_::_,_,_,e=>by simp at e
 |_::_,[],_,_,e=>by simp at e
def DX:∀{V:jj}{J:lH}{k:Nat}{c c':j3},J[k]?=some c->c≠.dead->c'≠.dead->jT V (J.set k c')=jT V J
 |[],J,k,c,c',e,_,_=>by simp[jT]
 |b::V,d::J,0,c,c',e,h,h'=>by cases e;cases d<;>first|exact absurd rfl h|(cases c'<;>first|exact absurd rfl h'|rfl)
 |b::V,d::J,k+1,c,c',e,h,h'=>by have a:=DX (V:=V) (J:=J) (k:=k) (c':=c') e h h';cases d<;>simp only[List.set_cons_succ,jT,a]
 |_::_,[],_,_,_,e,_,_=>by simp at e
def yU:∀{V:jj}{J:lH}(k:Nat),(jT V (J.set k .dead)).Sublist (jT V J)
 |[],J,k=>by simp[jT]
 |b::V,[],k=>by simp[jT]
 |b::V,d::J,0=>by cases d<;>simp[jT,List.Sublist.refl]
 |b::V,d::J,k+1=>by have a:=yU (V:=V) (J:=J) k;cases d<;>simp only[List.set_cons_succ,jT]<;>first|exact a.cons_cons _|exact a
def vu:∀{V:jj}{J:lH}{a:iJ},a∈jT V J->∃(k:Nat) (c:j3),V[k]?=some a/\J[k]?=some c/\c≠j3.dead
 |b::V,d::J,a,h=>by
  by_cases e:d=.dead
  .subst e;have⟨k,c,f,g,i⟩:=vu (V:=V) (J:=J) h;exact⟨k+1,c,f,g,i⟩
  .have h':a∈b::jT V J:=by cases d<;>first|exact h|exact absurd rfl e
   rcases af.mp h' with rfl|h'
   .exact⟨0,d,rfl,rfl,e⟩
   .have⟨k,c,f,g,i⟩:=vu h';exact⟨k+1,c,f,g,i⟩
def s7:∀{V:jj}{J:lH},(jT V J).Nodup->∀{i j:Nat}{a:iJ}{c d:j3},V[i]?=some a->V[j]?=some a->J[i]?=some c->J[j]?=some d->c≠.dead->d≠.dead->i=j
 |b::V,e::J,f,0,0,_,_,_,_,_,_,_,_,_=>rfl
 |b::V,e::J,f,0,j+1,a,c,d,g,l,h,n,o,p=>by cases g;cases h;have m:=lx (V:=V) (J:=J) (k:=j) l n p;exfalso;cases e<;>first|exact o rfl|exact(aL.mp f).1 m
 |b::V,e::J,f,i+1,0,a,c,d,g,l,h,n,o,p=>by cases l;cases n;have m:=lx (V:=V) (J:=J) (k:=i) g h o;exfalso;cases e<;>first|exact p rfl|exact(aL.mp f).1 m
 |b::V,e::J,f,i+1,j+1,a,c,d,g,l,h,n,o,p=>by
  have q:(jT V J).Nodup:=by cases e<;>first|exact f|exact(aL.mp f).2
  exact cq (·+1) (s7 q (i:=i) (j:=j) g l h n o p)
 |[],_,_,_,_,_,_,_,g,_,_,_,_,_=>by simp at g
 |_::_,[],_,_,_,_,_,_,_,_,h,_,_,_=>by simp at h
def jn.put(F:jn)(a:iJ)(o:dq):jn:=λb=>if b=a then some o else F b
def jn.lf(F:jn)(a:iJ)(o:dq):F.put a o a=some o:=aB rfl
def jn.nB(F:jn){b:iJ}(o:dq)(h:b≠a):F.put a o b=F b:=aA h
def j8.put(V:jj){F:jn}{a:iJ}{o:dq}(h:F a=none):j8 V V F (F.put a o):=⟨λe=>e,λ{b x} e=>(jn.nB F o λq=>by rw[q,h]at e;cases e).trans e⟩
def j8.snoc(V:jj)(F:jn)(a:iJ):j8 V (V++[a]) F F:=⟨λ{k x} e=>by rw[cx (aC.mp e).1];exact e,λe=>e⟩
def DW.mono{c P:iJ}(g:∀a o,F a=some o->F' a=some o)(j:∀o,h.get? c=some o->h'.get? c=some o)(l:∀o,h.get? P=some o->h'.get? P=some o)
  (x:DW F h c P q):DW F' h' c P q:=by
 have⟨ps,⟨o,vs,f,m,d,tg,n,i,p,op,a,s,u,w,y,z,A,b,r⟩,⟨⟨B,C,D,E,G,H⟩,I⟩,k⟩:=x;refine⟨ps,⟨o,vs,f,m,d,tg,n,i,p,op,j _ a,s,u,w,y,z,A,l _ b,r⟩,⟨⟨B,C,j _ D,E,G,H⟩,l _ I⟩,λpos J e=>?_⟩;have⟨c',o',K,L,t,M,N,r⟩:=k pos J e;exact⟨c',o',K,L,t,M,g _ _ N,r⟩
section
variable {J:lH}{t:Nat}
def Holds.fresh(X:Holds jR B V F J fs R s)(h:s.heap.get? a=none):F a=none/\B.H.get? a=none/\a∉kz V J fs R:=by
 refine⟨?_,?_,λm=>?_⟩
 .cases q:F a with
  |none=>rfl
  |some o=>have:=X.lw _ _ q;rw[h]at this;cases this
 .cases q:B.H.get? a with
  |none=>rfl
  |some o=>have⟨o',b⟩:=X.old.there _ _ q;rw[h]at b;cases b
 .have⟨o,c⟩:=X.there a m;rw[h]at c;cases c
def Holds.live(X:Holds jR B V F J fs R s){k:Nat}{c:j3}(b:V[k]?=some a)(d:J[k]?=some c)(e:c≠.dead):a∈kz V J fs R:=aH _ (lx b d e)
structure s8 (B:wG) (a:iJ) (h h':cj):Prop where
 but:∀b,b≠a->∀o,h.get? b=some o->h'.get? b=some o
 old:B.H.get? a=none
def Holds.LV(X:Holds jR B V F J fs R s)(k:s8 B a s.heap h'):OldK B.H h':=OldK.vr X.old λb c o d=>k.but b (λq=>by rw[q,k.old]at c;cases c) o d
def Holds.LW(X:Holds jR B V F J fs R s)(k:s8 B a s.heap h'):h'.NoLimit:=by have⟨b,⟨o,es,c,d,r⟩,q⟩:=X.lim;refine⟨b,⟨o,es,c,k.but _ (λe=>?_) _ d,r⟩,q⟩;have:=X.mS;rw[e,k.old]at this;cases this
def Holds.DY(X:Holds jR B V F J fs R s)(k:s8 B a s.heap h')(f:F a=none)(g:∀b o,F b=some o->F' b=some o)(h:∀b,(B.H.get? b).isSome=true->F b=none->F' b=none):
  ∀t∈B.tabs,DW F' h' t.1 t.2.1 t.2.2/\F' t.2.1=none/\(B.H.get? t.2.1).isSome=true/\t.2.1≠cStatics/\(F' t.1).isSome=true:=λt i=>by
 have⟨j,l,c,m,d⟩:=X.tabs t i;refine⟨j.mono g (k.but _ λe=>?_) (k.but _ λe=>?_),h _ c l,c,m,?_⟩
 .rw[e,f]at d;cases d
 .rw[e,k.old]at c;cases c
 .have⟨o,n⟩:=bH.mp d;rw[g _ _ n];rfl
def Holds.keep(X:Holds jR B V F J fs R s)(k:∀b o,s.heap.get? b=some o->h'.get? b=some o):Holds jR B V F J fs R {s with heap:=h',toks:=t} where
 base:=X.base
 lw a o e:=k _ _ (X.lw a o e)
 old:=X.old.step_keeps k
 lim:=X.lim.keeps k
 bare:=X.bare
 os:=X.os
 len:=X.len
 nd:=X.nd
 new:=X.new
 there a m:=let ⟨o,d⟩:=X.there a m;⟨o,k _ _ d⟩
 cells i a c f e2:=(X.cells i a c f e2).mono (.refl _ _) (k a)
 frames:=X.frames.mono (.refl _ _) λa _=>k a
 res p hp:=k _ _ (X.res p hp)
 tabs t ht:=let ⟨g,h⟩:=X.tabs t ht;⟨g.mono (λ_ _ e=>e) (k _) (k _),h⟩
 mS:=X.mS
def Holds.tok(X:Holds jR B V F J fs R s)(t:Nat):Holds jR B V F J fs R {s with toks:=t}:=X.keep λ_ _ e=>e
def Holds.yi(X:Holds jR B V F J fs R s)(k:∀b o,s.heap.get? b=some o->h'.get? b=some o)(l:s.heap.get? a=none)(n:h'.get? a=some o):
  Holds jR B V (F.put a o) J fs R {s with heap:=h',toks:=t}/\j8 V V F (F.put a o):=by
 have⟨r,u,w⟩:=X.fresh l;have g:j8 V V F (F.put a o):=.put V r;refine⟨{
  base:=λb x e c=>g.fr (X.base b x e c),lw:=λb x e=>?_,old:=X.old.step_keeps k,lim:=X.lim.keeps k,bare:=X.bare,os:=X.os,len:=X.len,nd:=X.nd,new:=λb m=>?_,there:=λb m=>let ⟨x,d⟩:=X.there b m;⟨x,k _ _ d⟩,
  cells:=λi b c y z=>(X.cells i b c y z).mono g (k b),frames:=X.frames.mono g λb _=>k b,res:=λp A=>k _ _ (X.res p A),tabs:=λt C=>?_,mS:=X.mS},g⟩
 .by_cases q:b=a
  .subst q;rw[jn.lf]at e;cases e;exact n
  .rw[jn.nB _ _ q]at e;exact k _ _ (X.lw _ _ e)
 .have⟨f,h⟩:=X.new b m;exact⟨(jn.nB _ _ λq=>w (by rw[<-q];exact m)).trans f,h⟩
 .have⟨f,h,j,D,E⟩:=X.tabs t C;refine⟨f.mono (λ_ _ e=>g.fr e) (k _) (k _),(jn.nB _ _ λq=>?_).trans h,j,D,?_⟩
  .rw[q,u]at j;cases j
  .have⟨x,d⟩:=bH.mp E;rw[g.fr d];rfl
def Holds.oU(X:Holds jR B V F J fs R s)(k:∀b o,s.heap.get? b=some o->h'.get? b=some o)(g:s.heap.get? a=none)(f:h'.get? a=some o):
  Holds jR B V F J fs ((a,o)::R) {s with heap:=h',toks:=t}:=by
 have⟨h,j,l⟩:=X.fresh g;have p:(kz V J fs ((a,o)::R)).Perm (a::kz V J fs R):=by
  unfold kz
  grind
 exact{
  base:=X.base,lw:=λb x e=>k _ _ (X.lw _ _ e),old:=X.old.step_keeps k,lim:=X.lim.keeps k,bare:=X.bare,os:=X.os,len:=X.len,
  nd:=p.nodup_iff.mpr (aL.mpr ⟨l,X.nd⟩),
  new:=λb m=>(af.mp (p.mem_iff.mp m)).elim (λq=>q▸⟨h,j⟩) (X.new b),
  there:=λb m=>(af.mp (p.mem_iff.mp m)).elim (λq=>q▸⟨o,f⟩) λm=>let ⟨x,n⟩:=X.there b m;⟨x,k _ _ n⟩,
  cells:=λi b c r u=>(X.cells i b c r u).mono (.refl _ _) (k b),frames:=X.frames.mono (.refl _ _) λb _=>k b,
  res:=λq d=>(af.mp d).elim (λe=>e▸f) λd=>k _ _ (X.res q d),
  tabs:=λt w=>let ⟨y,z⟩:=X.tabs t w;⟨y.mono (λ_ _ e=>e) (k _) (k _),z⟩,mS:=X.mS}
def nG(V:jj)(J:lH)(fs:jS)(R:mO)(a:iJ)(o:dq):(kz V J fs ((a,o)::R)).Perm (a::kz V J fs R):=by
 unfold kz
 grind
def Holds.vw{p:iJ×dq}(X:Holds jR B V F J fs (p::R) s):Holds jR B V F J fs R s:=by have q:=nG V J fs R p.1 p.2;exact{X with nd:=(aL.mp (q.nodup_iff.mp X.nd)).2,new:=λb m=>X.new b (q.mem_iff.mpr (.tail _ m)),there:=λb m=>X.there b (q.mem_iff.mpr (.tail _ m)),res:=λq a=>X.res q (.tail _ a)}
def Holds.uL{o':dq}(X:Holds jR B V F J fs ((a,o)::R) s)(k:∀b o,b≠a->s.heap.get? b=some o->h'.get? b=some o)(l:h'.get? a=some o'):
  Holds jR B V F J fs ((a,o')::R) {s with heap:=h',toks:=t}:=by
 have q:=nG V J fs R a o;have g:=nG V J fs R a o';have⟨n,z⟩:=aL.mp (q.nodup_iff.mp X.nd);have⟨r,A⟩:=X.new a (q.mem_iff.mpr (.head _));have K:s8 B a s.heap h':=⟨λb j x=>k b x j,A⟩
 have d:∀b∈kz V J fs R,b≠a:=λb j e=>n (e▸j);exact{
  base:=X.base,lw:=λb x e=>k _ _ (λh=>by rw[h,r]at e;cases e) (X.lw _ _ e),old:=X.LV K,lim:=X.LW K,bare:=X.bare,os:=X.os,len:=X.len,
  nd:=g.nodup_iff.mpr (aL.mpr ⟨n,z⟩),new:=λb m=>X.new b (q.mem_iff.mpr (g.mem_iff.mp m)),
  there:=λb m=>(af.mp (g.mem_iff.mp m)).elim (λe=>e▸⟨o',l⟩) λm=>let ⟨x,C⟩:=X.there b (q.mem_iff.mpr (.tail _ m));⟨x,k _ _ (d b m) C⟩,
  cells:=λi b c u w=>by
   by_cases y:c=.dead
   .subst y;trivial
   .exact(X.cells i b c u w).mono (.refl _ _) λx=>k b x (d b (aH _ (lx u w y))),
  frames:=X.frames.mono (.refl _ _) λb m x=>k b x (d b (ag _ (aH _ m))),
  res:=λp f=>(af.mp f).elim (λe=>e▸l) λf=>k _ _ (d _ (ag _ (ag _ (bz f)))) (X.res p (.tail _ f)),
  tabs:=X.DY K r (λ_ _ e=>e) λ_ _ e=>e,mS:=X.mS}
def Holds.SW(X:Holds jR B V F J fs ((a,o)::R) s):Holds jR B V (F.put a o) J fs R s/\j8 V V F (F.put a o):=by
 have q:=nG V J fs R a o;have⟨k,C⟩:=aL.mp (q.nodup_iff.mp X.nd);have⟨l,n⟩:=X.new a (q.mem_iff.mpr (.head _));have p:=X.res (a,o) (.head _);have g:j8 V V F (F.put a o):=.put V l;refine⟨{X.vw with base:=λb x e c=>g.fr (X.base b x e c),lw:=λb x e=>?_,new:=λb m=>?_,cells:=λi b c r u=>(X.cells i b c r u).mono g λ_ e=>e,frames:=X.frames.mono g λ_ _ _ e=>e,tabs:=λt w=>?_},g⟩
 .by_cases h:b=a
  .subst h;rw[jn.lf]at e;cases e;exact p
  .rw[jn.nB _ _ h]at e;exact X.lw _ _ e
 .have⟨d,f⟩:=X.new b (q.mem_iff.mpr (.tail _ m));exact⟨(jn.nB _ _ λh=>k (by rw[<-h];exact m)).trans d,f⟩
 .have⟨d,f,j,y,z⟩:=X.tabs t w;refine⟨d.mono (λ_ _ e=>g.fr e) (λ_ e=>e) (λ_ e=>e),(jn.nB _ _ λh=>?_).trans f,j,y,?_⟩
  .rw[h,n]at j;cases j
  .have⟨x,A⟩:=bH.mp z;rw[g.fr A];rfl
def Holds.vz{c:j3}(X:Holds jR B V F J fs ((a,o)::R) s)(l:sZ jR (V++[a]) F s.heap a c)(j:c≠.dead):Holds jR B (V++[a]) F (J++[c]) fs R s/\j8 V (V++[a]) F F:=by
 have q:=nG V J fs R a o;have g:=j8.snoc V F a;have k:jT [a] [c]=[a]:=by cases c<;>first|rfl|exact absurd rfl j
 have p:(kz (V++[a]) (J++[c]) fs R).Perm (kz V J fs ((a,o)::R)):=by refine List.Perm.trans ?_ q.symm;unfold kz;rw[xy a c X.len,k,cw];exact bx
 refine⟨{X.vw with len:=by simp[X.len],nd:=p.nodup_iff.mpr X.nd,new:=λb m=>X.new b (p.mem_iff.mp m),there:=λb m=>X.there b (p.mem_iff.mp m),cells:=λi b d f h=>?_,frames:=X.frames.mono g λ_ _ _ e=>e},g⟩;by_cases hi:i<J.length
 .rw[cx hi]at h;rw[cx (by rw[X.len];exact hi)]at f;exact(X.cells i b d f h).mono g λ_ e=>e
 .rw[aR (Nat.not_lt.mp hi)]at h;rw[aR (by rw[X.len];exact Nat.not_lt.mp hi),X.len]at f
  grind
def Holds.setC{c c':j3}(X:Holds jR B V F J fs R s)(l:V[i]?=some a)(f:J[i]?=some c)(g:c≠.dead)(C:c'≠.dead)
  (k:∀b o,b≠a->s.heap.get? b=some o->h'.get? b=some o) (N:sZ jR V F h' a c') (D:∃o,h'.get? a=some o):Holds jR B V F (J.set i c') fs R {s with heap:=h',toks:=t}:=by
 have E:=X.live l f g;have⟨r,G⟩:=X.new a E;have K:s8 B a s.heap h':=⟨λb n x=>k b x n,G⟩
 have L:jT V (J.set i c')=jT V J:=DX f g C;have O:kz V (J.set i c') fs R=kz V J fs R:=by unfold kz;rw[L]
 have nd:=X.nd;unfold kz at nd;have⟨H,P,I⟩:=aK.mp nd;have u:∀b∈pC fs++R.map (·.1),b≠a:=λb n e=>I a (lx l f g) b n e.symm;refine{
  base:=X.base,lw:=λb x e=>k _ _ (λh=>by rw[h,r]at e;cases e) (X.lw _ _ e),old:=X.LV K,lim:=X.LW K,bare:=X.bare,os:=X.os,len:=by simp[X.len],nd:=by rw[O];exact X.nd,new:=λb m=>X.new b (O▸m),
  there:=λb m=>?_,cells:=λj b d w q=>?_,frames:=X.frames.mono (.refl _ _) λb m x=>k b x (u b (aH _ m)),res:=λp y=>k _ _ (u _ (ag _ (bz y))) (X.res p y),
  tabs:=X.DY K r (λ_ _ e=>e) λ_ _ e=>e,mS:=X.mS}
 .by_cases h:b=a
  .exact h▸D
  .have⟨x,M⟩:=X.there b (O▸m);exact⟨x,k _ _ h M⟩
 .by_cases z:i=j
  .grind
  .rw[ce z]at q;by_cases A:d=.dead
   .subst A;trivial
   .refine(X.cells j b d w q).mono (.refl _ _) λx=>k b x λh=>?_;subst h;exact z (s7 H l w f q g A)
def Holds.Zb{c:j3}(X:Holds jR B V F J fs R s)(n:V[i]?=some a)(l:J[i]?=some c)(p:c≠.dead)(y:s.heap.get? a=some o):
  Holds jR B V (F.put a o) (J.set i .dead) fs R s/\j8 V V F (F.put a o):=by
 have z:=X.live n l p;have⟨A,C⟩:=X.new a z;have g:j8 V V F (F.put a o):=.put V A;have sub:(kz V (J.set i .dead) fs R).Sublist (kz V J fs R):=(yU i).append (.refl _);have nd:=X.nd;unfold kz at nd;have⟨D,M,E⟩:=aK.mp nd;have na:a∉kz V (J.set i .dead) fs R:=λm=>by
  rcases ba.mp m with m|m
  .have⟨j,d,q,f,G⟩:=vu m;by_cases k:i=j
   .grind
   .rw[ce k]at f;exact k (s7 D n q l f p G)
  .exact E a (lx n l p) a m rfl
 refine⟨{
  base:=λb x e c=>g.fr (X.base b x e c),lw:=λb x e=>?_,old:=X.old,lim:=X.lim,bare:=X.bare,os:=X.os,len:=by simp[X.len],nd:=X.nd.sublist sub,new:=λb m=>?_,there:=λb m=>X.there b (sub.subset m),
  cells:=λj b d q f=>?_,frames:=X.frames.mono g λ_ _ _ e=>e,res:=X.res,tabs:=λt H=>?_,mS:=X.mS},g⟩
 .by_cases h:b=a
  .subst h;rw[jn.lf]at e;cases e;exact y
  .rw[jn.nB _ _ h]at e;exact X.lw _ _ e
 .have⟨r,u⟩:=X.new b (sub.subset m);exact⟨(jn.nB _ _ λh=>na (by rw[<-h];exact m)).trans r,u⟩
 .by_cases k:i=j
  .subst k;rw[cK (aC.mp l).1]at f;cases f;trivial
  .rw[ce k]at f;exact(X.cells j b d q f).mono g λ_ e=>e
 .have⟨r,u,w,I,K⟩:=X.tabs t H;refine⟨r.mono (λ_ _ e=>g.fr e) (λ_ e=>e) (λ_ e=>e),(jn.nB _ _ λh=>?_).trans u,w,I,?_⟩
  .rw[h,C]at w;cases w
  .have⟨x,L⟩:=bH.mp K;rw[g.fr L];rfl
end
def kh(x y:Str)(a:α)(l:List (Str×α)):((x,a)::l).lookup y=if y=x then some a else l.lookup y:=by grind
section
variable {jR:dq->jr->kr->Prop}{B:wG}{V:jj}{F:jn}{J:lH}{f:ma}{fs:jS}{R:mO}{s:aj}{h':cj}{t:Nat}
def Holds.top(X:Holds jR B V F J (f::fs) R s):n_ V F s.heap (pC fs) f:=X.frames.1
def m8(V:jj)(J:lH)(f:ma)(fs:jS)(R:mO):(kz V J (f::fs) R).Perm (f.own++kz V J fs R):=by
 unfold kz pC
 grind
def Holds.pop(X:Holds jR B V F J (f::fs) R s):Holds jR B V F J fs R s:=by have p:=m8 V J f fs R;have nd:=p.nodup_iff.mp X.nd;exact{X with nd:=(aK.mp nd).2.1,new:=λb m=>X.new b (p.mem_iff.mpr (ag _ m)),there:=λb m=>X.there b (p.mem_iff.mpr (ag _ m)),frames:=X.frames.2}
def Holds.push(X:Holds jR B V F J fs R s)(k:∀b o,s.heap.get? b=some o->h'.get? b=some o)(c:∀a∈f.own,s.heap.get? a=none)(g:∀a∈f.own,∃o,h'.get? a=some o)(nd:f.own.Nodup)
  (h:n_ V F h' (pC fs) f):Holds jR B V F J (f::fs) R {s with heap:=h',toks:=t}:=by
 have p:=m8 V J f fs R;have d:=X.keep (t:=t) k;exact{d with nd:=p.nodup_iff.mpr (aK.mpr ⟨nd,X.nd,λa i b j e=>(X.fresh (c a i)).2.2 (e▸j)⟩),new:=λb m=>(ba.mp (p.mem_iff.mp m)).elim (λm=>⟨(X.fresh (c b m)).1,(X.fresh (c b m)).2.1⟩) (X.new b),there:=λb m=>(ba.mp (p.mem_iff.mp m)).elim (g b) (d.there b),frames:=⟨h,d.frames⟩}
def Holds.setTop{a:iJ}{d:ma}(X:Holds jR B V F J (f::fs) R s)(l:a∈f.own)(k:∀b o,b≠a->s.heap.get? b=some o->h'.get? b=some o)(y:∃o,h'.get? a=some o)(z:d.own=f.own)
  (A:n_ V F h' (pC fs) d):Holds jR B V F J (d::fs) R {s with heap:=h',toks:=t}:=by
 have p:=m8 V J f fs R;have O:kz V J (d::fs) R=kz V J (f::fs) R:=by unfold kz pC;rw[cR,cR,z]
 have⟨_,_,C⟩:=aK.mp (p.nodup_iff.mp X.nd);have g:∀b∈kz V J fs R,b≠a:=λb j e=>C a l b j e.symm;have⟨n,D⟩:=X.new a (p.mem_iff.mpr (aH _ l));have K:s8 B a s.heap h':=⟨λb j x=>k b x j,D⟩
 exact{
  base:=X.base,lw:=λb x e=>k _ _ (λh=>by rw[h,n]at e;cases e) (X.lw _ _ e),old:=X.LV K,lim:=X.LW K,bare:=X.bare,os:=X.os,len:=X.len,nd:=by rw[O];exact X.nd,new:=λb m=>X.new b (O▸m),
  there:=λb m=>by
   by_cases h:b=a
   .exact h▸y
   .have⟨x,E⟩:=X.there b (O▸m);exact⟨x,k _ _ h E⟩,
  cells:=λi b c q r=>by
   by_cases u:c=.dead
   .subst u;trivial
   .exact(X.cells i b c q r).mono (.refl _ _) λx=>k b x (g b (aH _ (lx q r u))),
  frames:=⟨A,X.frames.2.mono (.refl _ _) λb m x=>k b x (g b (ag _ (aH _ m)))⟩,
  res:=λp w=>k _ _ (g _ (ag _ (ag _ (bz w)))) (X.res p w),
  tabs:=X.DY K n (λ_ _ e=>e) λ_ _ e=>e,mS:=X.mS}
variable {M:fL}{A:bO}{E:nz}{x:Str}{v:ae}{av:AV}
def wp_load{Q:nz}(X:Holds jR B V F J (f::fs) R s)(hx:f.env.kindOf x=some .local∨m5 x (f.env.kindOf x)=true)(j:(x==("__classdict__":Str))=false)
  (e:f.vars.lookup x=some av) (q:∀v,kQ V F v av->Q v s):wpAny M A (loadName f.env x) Q E s:=by
 have T:=X.top;have d:=T.kind;rcases hx with hx|hx
 .have⟨m,l,n⟩:=T.ns;have:=n x hx;rw[e]at this;cases g:m x with
  |none=>rw[g]at this;exact this.elim
  |some v=>rw[g]at this;exact wpAny_loadName_local d hx l g (q v this)
 .have⟨c,v,h,_,i,a⟩:=T.cells x hx;have hx:=nV hx;rw[e]at a;cases v with
  |none=>exact a.elim
  |some v=>
   cases b:f.env.kindOf x with
   |none=>rw[b]at hx;cases hx
   |some k=>
    rw[b]at hx;cases k<;>first|cases hx|skip
    .exact wpAny_loadName_cell d b h i (q v a)
    .exact wpAny_loadName_free d b h i (q v a) j
def LY{Q:Unit->aj->Prop}(U:(x==("__class__":Str))=false)(X:Holds jR B V F J (f::fs) R s)
  (a:f.env.kindOf x=some .local∨(f.env.kindOf x=some .cell/\∃c,f.env.cells.lookup x=some c/\c∈f.own)) (G:kQ V F v av)
  (q:∀H,Holds jR B V F J ({f with vars:=(x,av)::f.vars}::fs) R H->Q () H):wpAny M A (storeName f.env x v) Q E s:=by
 have T:=X.top;have⟨⟨m,I,W⟩,p,r,l,n,K,t⟩:=T;rcases a with a|⟨a,c,j,Y⟩
 .refine wpAny_storeName_local a I (λZ L i=>q _ ?_) (by rw[n];rfl);refine X.setTop r (λb o u e=>i.extBut b o u e) ?_ rfl ⟨⟨_,L,λy g=>?_⟩,λy g=>?_,r,l,n,K,t⟩
  .have⟨o,_,_,z,_⟩:=L;exact⟨o,z⟩
  .rw[kh];by_cases h:y=x
   .rw[aB h,aB h];exact G
   .rw[aA h,aA h];exact W y g
  .have⟨c,w,k,C,D,N⟩:=p y g;refine⟨c,w,k,C,D.sameBut i (l y c k),?_⟩;rw[kh,aA λh=>by have O:mZ (f.env.kindOf y)=true:=nV g;rw[h,a]at O;cases O];exact N
 .have⟨c',w,k,C,D,N⟩:=p x (by unfold m5;rw[a,bne,U];rfl);rw[j]at k;cases k;refine wpAny_storeName_cell n a j D λZ P i=>q _ ?_;refine X.setTop Y (λb o u e=>i.extBut b o u e) ?_ rfl ⟨⟨m,I.sameBut i (bF (l x c j)),λy g=>?_⟩,λy g=>?_,r,l,n,K,t⟩
  .have⟨o,z,_⟩:=P;exact⟨o,z⟩
  .grind
  .rw[kh];by_cases h:y=x
   .subst h;rw[aB rfl];exact⟨c,some v,j,C,P,G⟩
   .rw[aA h];have⟨d,w',S,k2,k3,k4⟩:=p y g;exact⟨d,w',S,k2,k3.sameBut i λq=>h (t y x c (q▸S) j),k4⟩
end
def ma.isFn(f:ma):aY:=f.env.frame==some f.env.locals
def ls (fs:jS):List Env:=(fs.filter ma.isFn).map ma.env
structure kj (d:Nat) (calm:aY) (fs:jS) (A:bO):Prop where
 depth:A.depth+20*d<=900
 units:A.units+60*d<=9000
 frames:A.frames=some (ls fs)
 guards:A.guards=some []
 calm:calm=true->A.handled=none
def kj.less{a:Nat}(h:kj d iK fs A)(e:a<=d):kj a iK fs A:=⟨by have:=h.depth;omega,by have:=h.units;omega,h.frames,h.guards,h.calm⟩
def kj.room(h:kj d iK fs A):A.depth<recursionLimit:=by have:=h.depth;show A.depth<1000;omega
def kj.Wg(h:kj d iK fs A):A.units<cLine:=by have:=h.units;show A.units<9900;omega
def kj.deeper{d:Nat}{iK:aY}{fs:jS}{A:bO}{f:ma}(h:kj (d+1) iK fs A)(a:f.isFn=true):kj d iK (f::fs) (A.deeper f.env):=by
 refine⟨?_,?_,?_,h.guards,h.calm⟩
 .have:=h.depth;show A.depth+1+20*d<=900;omega
 .have:=h.units;show A.units+3+60*d<=9000;omega
 .show A.frames.map _=_;rw[h.frames];unfold ls;rw[cL,aB a];rfl
structure XK where
 name:String
 LE:aY
section
variable (jR:dq->jr->kr->Prop) (B:wG)
def lK (fs:jS):jj:=(ls fs).filterMap (·.frame)
def Wh (V:jj)(F:jn)(J:lH)(l:List Env)(R:mO)(h₀:cj)(e:iJ)(X:XK)(h:cj):Prop:=
 ∃(base:cj) (a0:ae) (Ls:jj),base.StaysIn h₀/\(∀b o,h₀.get? b=some o->b∉Ls->base.get? b=some o)/\Heap.FlyingW base l e (.type X.name) a0 h/\h₀.UpToSlots h/\
  (∀L∈Ls,F L=none/\B.H.get? L=none/\L∉jT V J/\L∉R.map (·.1))/\∀L∈Ls,∃o,h₀.get? L=some o/\∀vs,o.data≠.fields vs
def Cq (V:jj)(F:jn)(J:lH)(fs:jS)(R:mO)(x:ae)(X:XK)(s:aj):Prop:=∃h₀ e,x=.ref e/\Holds jR B V F J fs R {s with heap:=h₀}/\((X.LE=false/\Heap.NewExc h₀ s.heap e X.name)∨(X.LE=true/\Wh B V F J (ls fs) R h₀ e X s.heap))
def uM (V:jj)(F:jn)(fs:jS)(R:mO)(K:AV->lH->Prop)(v:ae)(s:aj):Prop:=∃jF F' av g_,j8 V jF F F'/\Holds jR B jF F' g_ fs R s/\kQ jF F' v av/\K av g_
def og (V:jj)(F:jn)(fs:jS)(R:mO)(KX:XK->lH->Prop)(x:ae)(s:aj):Prop:=∃jF F' X g_,j8 V jF F F'/\Cq jR B jF F' g_ fs R x X s/\KX X g_
end
section
variable {J:lH}
def uM.grow{K:AV->lH->Prop}(g:j8 V jF F F')(h:uM jR B jF F' fs R K v s):uM jR B V F fs R K v s:=let ⟨a,b,c,d,e,r⟩:=h;⟨a,b,c,d,g.trans e,r⟩
def og.grow{KX:XK->lH->Prop}(g:j8 V jF F F')(h:og jR B jF F' fs R KX v s):og jR B V F fs R KX v s:=let ⟨a,b,c,d,e,r⟩:=h;⟨a,b,c,d,g.trans e,r⟩
def Cr(u:h.UpToSlots h'){c:iJ}{v:az ae}(x:h.IsCell c v):h'.IsCell c v:=by
 have⟨o,b,a⟩:=x;have⟨e,d⟩:=u c o b λvs q=>by rw[a]at q;cases q
 exact⟨_,d,a⟩
def n_.slots{below:jj}(u:h.UpToSlots h')(x:n_ V F h below f):n_ V F h' below f:=by have⟨⟨m,a,b⟩,d,g,i,j,k,l⟩:=x;exact⟨⟨m,u.ns a,b⟩,λy e=>let ⟨c,v,n,o,p,q⟩:=d y e;⟨c,v,n,o,Cr u p,q⟩,g,i,j,k,l⟩
def mK.slots{h h':cj}(u:h.UpToSlots h'):∀{fs:jS},mK V F h fs->mK V F h' fs
 |[],_=>trivial
 |_::_,⟨x,y⟩=>⟨x.slots u,mK.slots u y⟩
def xz{h:cj}:∀{fs:jS},mK V F h fs->∀a∈fs.map (λf=>f.env.locals),∃o,h.get? a=some o/\∀vs,o.data≠.fields vs
 |f::_,⟨x,y⟩,a,m=>by
  rcases af.mp m with rfl|m
  .have⟨_,⟨o,es,d,b,c,_⟩,_⟩:=x.ns;exact⟨o,b,λvs q=>by rw[c]at q;cases q⟩
  .exact xz y a m
def Holds.slots{h₀ h' base:cj}{g:jj}(X:Holds jR B V F J fs R {s with heap:=h₀})(f:∀b o,h₀.get? b=some o->b∉g->base.get? b=some o)(A:base.StaysIn h')(u:h₀.UpToSlots h')
  (d:∀L∈g,F L=none/\B.H.get? L=none/\L∉jT V J/\L∉R.map (·.1)) (h:∀a∈pC fs,∃o,h'.get? a=some o):Holds jR B V F J fs R {s with heap:=h'}:=by
 have k:∀b o,b∉g->h₀.get? b=some o->h'.get? b=some o:=λb o C e=>A b o (f b o e C);exact{
  base:=X.base,lw:=λb o e=>k b o (λm=>by rw[(d b m).1]at e;cases e) (X.lw b o e),old:=OldK.vr X.old λb f o e=>k b o (λm=>by rw[(d b m).2.1]at f;cases f) e,
  lim:=by have⟨D,⟨o,es,E,h,r⟩,q⟩:=X.lim;exact⟨D,⟨o,es,E,k _ _ (λm=>by have:=X.mS;rw[(d _ m).2.1]at this;cases this) h,r⟩,q⟩,
  bare:=X.bare,os:=X.os,len:=X.len,nd:=X.nd,new:=X.new,
  there:=λa m=>by
   rcases ba.mp m with m'|m'
   .have⟨o,e⟩:=X.there a m;exact⟨o,k _ _ (λq=>(d a q).2.2.1 m') e⟩
   .rcases ba.mp m' with Zc|Zc
    .exact h a Zc
    .have⟨o,e⟩:=X.there a m;exact⟨o,k _ _ (λq=>(d a q).2.2.2 Zc) e⟩,
  cells:=λi a c n w=>by
   by_cases y:c=.dead
   .subst y;trivial
   .exact(X.cells i a c n w).mono (.refl _ _) λx e=>k a x (λq=>(d a q).2.2.1 (lx n w y)) e,
  frames:=X.frames.slots u,res:=λp z=>k _ _ (λq=>(d _ q).2.2.2 (bz z)) (X.res p z),
  mS:=X.mS,
  tabs:=λt G=>by
   have⟨I,K,j,M,l⟩:=X.tabs t G;refine⟨I.mono (λ_ _ e=>e) (λo e=>k _ o (λq=>?_) e) (λo e=>k _ o (λq=>?_) e),K,j,M,l⟩
   .rw[(d _ q).1]at l;cases l
   .rw[(d _ q).2.1]at j;cases j}
end
abbrev jW:=lH
variable {KB:aY->jW->Prop}{K:jy->(jW->Prop)->jW->Prop}{J:jW}{cond:jW->Prop}
abbrev j9:=List (Str×AV)
variable {Y:j9}
abbrev KV:=AV->jW->Prop
variable {GK:KV}
abbrev KX:=XK->jW->Prop
structure nW where
 scope:dF
 code:ae
 JT:jK
 calm:aY
 fn:aY
variable {c:nW}
mutual
def AV.pd:AV->az iG
 |.none=>some .none
 |.bool b=>some (.bool b)
 |.int i=>some (.int i)
 |.str s=>some (.str s)
 |.tup l=>(AV.A1 l).map .tuple
 |.lst l=>(AV.A1 l).map .list
 |.LD _=>Option.none
 |.ref _=>Option.none
 |.val _=>Option.none
 |.bm _ _=>Option.none
 |.lam _ _=>Option.none
def AV.A1:jy->az (List iG)
 |[]=>some []
 |a::l=>match AV.pd a,AV.A1 l with
  |some d,some ds=>some (d::ds)
  |_,_=>Option.none
end
def wP (a b:AV):az aY:=match a.pd,b.pd with
 |some x,some y=>if x.depth<=20/\x.canLay0=true/\y.canLay0=true then some (PyData.eqv x y)else Option.none
 |_,_=>Option.none
def qN (a c:AV):az aY:=match a.pd,c.pd with
 |some x,some (.list ys)=>if x.depth<=20/\x.canLay0=true/\PyData.canLayAll0 ys=true then some (ys.any λy=>PyData.eqv y x)else Option.none
 |some x,some (.tuple ys)=>if x.depth<=20/\x.canLay0=true/\PyData.canLayAll0 ys=true then some (ys.any λy=>PyData.eqv y x)else Option.none
 |_,_=>Option.none
def vA:Const->az AV
 |.none=>some .none
 |.bool b=>some (.bool b)
 |.int i=>some (.int i)
 |.str s=>some (.str s)
 |_=>Option.none
def Cs (l:jy):Prop:=l.length<=100000
def LZ:Operator->AV->AV->az AV
 |.Sub,.int a,.int b=>some (.int (a-b))
 |.Mod,.int a,.int b=>if b=0 then Option.none else some (.int (a.fmod b))
 |.FloorDiv,.int a,.int b=>if b=12∨b=60∨b=300 then some (.int (a.fdiv b))else Option.none
 |.RShift,.int a,.int b=>if 0<=b then some (.int (a.fdiv (2 ^ b.toNat)))else Option.none
 |.BitAnd,.int a,.int b=>some (.int (Builtin.bitAnd a b))
 |.Add,.lst a,.lst b=>if a.length+b.length<=100000 then some (.lst (a++b))else Option.none
 |_,_,_=>Option.none
def yV:AV->az aY
 |.bool b=>some b
 |.none=>some false
 |_=>Option.none
def Py (a b:AV):az aY:=match a,b with
 |.none,.none=>some true
 |.bool _,.none=>some false
 |.str _,.none=>some false
 |_,_=>Option.none
def oh (n:Nat)(i:Int):az Nat:=if 0<=i then(if i<n then some i.toNat else Option.none)else if 0<=i+n then some (i+n).toNat else Option.none
abbrev rT:=nW->Expr->j9->jW->KV->KX->Prop
abbrev GB:=nW->Expr->j9->jW->(aY->jW->Prop)->KX->Prop
structure Par where
 glob:Str->az AV
 call:AV->jy->jW->KV->KX->Prop
 cmp:CmpOp->AV->AV->jW->KV->KX->Prop
 bin:Operator->AV->AV->jW->KV->KX->Prop
 ext:rT->GB->rT
variable {P:Par}
def uN:az cF->aY
 |some .local|some .cell|some .free=>true
 |_=>false
@[irreducible] def wH (P:Par) (c:nW) (x:Str) (Y:j9) (K:AV->Prop):Prop:=
 if(x==("__debug__":Str))=true∨(x==("__classdict__":Str))=true∨(x==("__class__":Str))=true then False
 else match c.scope.names.lookup x with
  |some .local|some .cell|some .free=>(match Y.lookup x with|some a=>K a|Option.none=>False)
  |some .globalImplicit=>(match P.glob x with|some a=>K a|Option.none=>False)
  |_=>False
def oj (f:Expr->jW->KV->Prop):j5->jW->(jy->jW->Prop)->Prop
 |[],J,K=>K [] J
 |.Starred _ _::_,_,_=>False
 |e::es,J,K=>f e J λa iT=>oj f es iT λl jf=>K (a::l) jf
def pq:j5->aY
 |[]=>true
 |.Starred _ _::_=>false
 |_::es=>pq es
@[irreducible] def ky (x:az α) (K:α->Prop):Prop:=match x with|some a=>K a|Option.none=>False
@[irreducible] def on (x:az α) (K:α->Prop) (D:Prop):Prop:=match x with|some a=>K a|Option.none=>D
@[irreducible] def lF (P:Par) (iK:aY):CmpOp->AV->AV->jW->KV->KX->Prop
 |.Eq,a,b,J,K,X=>on (wP a b) (λv=>K (.bool v) J) (iK=true/\P.cmp .Eq a b J K X)
 |.NotEq,a,b,J,K,X=>on (wP a b) (λv=>K (.bool (!v)) J) (iK=true/\P.cmp .NotEq a b J K X)
 |.In,a,b,J,K,X=>on (qN a b) (λv=>K (.bool v) J) (iK=true/\P.cmp .In a b J K X)
 |.NotIn,a,b,J,K,X=>on (qN a b) (λv=>K (.bool (!v)) J) (iK=true/\P.cmp .NotIn a b J K X)
 |.Is,a,b,J,K,X=>on (Py a b) (λv=>K (.bool v) J) (iK=true/\P.cmp .Is a b J K X)
 |.IsNot,a,b,J,K,X=>on (Py a b) (λv=>K (.bool (!v)) J) (iK=true/\P.cmp .IsNot a b J K X)
 |op,a,b,J,K,X=>iK=true/\P.cmp op a b J K X
def L3:j5->aY
 |[.GeneratorExp ..]|[.Call (.Attribute (.Dict ..) ..) ..]=>true
 |_=>false
def JU:Expr->aY
 |.UnaryOp .Not _ _|.BoolOp ..|.IfExp ..|.Compare ..=>false
 |_=>true
mutual
def aE (P:Par):Nat->nW->Expr->j9->jW->KV->KX->Prop
 |0,_,_,_,_,_,_=>False
 |n+1,c,e,Y,J,K,X=>match e with
  |.Constant k _ _=>ky (vA k) λa=>K a J
  |.Name x _=>wH P c x Y λa=>K a J
  |.BinOp l op r _=>aE P n c l Y J (λa iT=>aE P n c r Y iT (λb jf=>on (LZ op a b) (λv=>K v jf) (c.calm=true/\P.bin op a b jf K X)) X) X
  |.UnaryOp .Not x _=>aE P n c x Y J (λa iT=>ky (yV a) λb=>K (.bool (!b)) iT) X
  |.UnaryOp .USub (.Constant (.int i) _ _) _=>K (.int (-i)) J
  |.Compare l [op] [r] _=>behindInMarks op r=false/\aE P n c l Y J (λa iT=>aE P n c r Y iT (λb jf=>lF P c.calm op a b jf K X) X) X
  |.IfExp t a b _=>aT P n c t Y J (λv iT=>if v=true then aE P n c a Y iT K X else aE P n c b Y iT K X) X
  |.BoolOp op vs _=>Iu P n c op vs Y J K X
  |.Tuple es _ _=>oj (λe J K=>aE P n c e Y J K X) es J λl iT=>Cs l/\K (.tup l) iT
  |.List [] _=>K (.lst []) J∨K (.ref J.length) (J++[.list []])
  |.List es _=>oj (λe J K=>aE P n c e Y J K X) es J λl iT=>Cs l/\K (.lst l) iT
  |.Call (.Name y yp) args [] pos=>if L3 args=true then P.ext (aE P n) (aT P n) c (.Call (.Name y yp) args [] pos) Y J K X else
    pq args=true/\aE P n c (.Name y yp) Y J (λg iT=>oj (λe J K=>aE P n c e Y J K X) args iT λl jf=>c.calm=true/\P.call g l jf K X) X
  |e=>P.ext (aE P n) (aT P n) c e Y J K X
def aT (P:Par):Nat->nW->Expr->j9->jW->(aY->jW->Prop)->KX->Prop
 |0,_,_,_,_,_,_=>False
 |n+1,c,e,Y,J,K,X=>match e with
  |.UnaryOp .Not x _=>aT P n c x Y J (λb iT=>K (!b) iT) X
  |.BoolOp op vs _=>PA P n c op vs Y J K X
  |.IfExp t a b _=>aT P n c t Y J (λv iT=>if v=true then aT P n c a Y iT K X else aT P n c b Y iT K X) X
  |.Compare l [op] [r] _=>behindInMarks op r=false/\aE P n c l Y J (λa iT=>aE P n c r Y iT (λb jf=>lF P c.calm op a b jf (λv j1=>ky (yV v) λt=>K t j1) X) X) X
  |e=>JU e=true/\aE P n c e Y J (λv iT=>ky (yV v) λt=>K t iT) X
def Iu (P:Par):Nat->nW->BoolOp->j5->j9->jW->KV->KX->Prop
 |0,_,_,_,_,_,_,_=>False
 |n+1,c,op,vs,Y,J,K,X=>match vs with
  |[]=>False
  |[e]=>aE P n c e Y J K X
  |e::es=>aE P n c e Y J (λa iT=>ky (yV a) λt=>match op,t with
    |.And,false=>K a iT
    |.Or,true=>K a iT
    |_,_=>Iu P n c op es Y iT K X) X
def PA (P:Par):Nat->nW->BoolOp->j5->j9->jW->(aY->jW->Prop)->KX->Prop
 |0,_,_,_,_,_,_,_=>False
 |n+1,c,op,vs,Y,J,K,X=>match vs with
  |[]=>K (op==.And) J
  |e::es=>aT P n c e Y J (λt iT=>match op,t with
    |.And,false=>K false iT
    |.Or,true=>K true iT
    |_,_=>PA P n c op es Y iT K X) X
end
def nC (c:nW)(f:ma):Prop:=f.env.scope=c.scope/\f.env.globals=mainGlobals/\f.env.builtins=builtinsNs/\f.env.code=c.code/\(∀x∈c.JT,∃a,f.env.cells.lookup x=some a/\a∈f.own)/\(c.fn=true->f.isFn=true)
def oq (M:fL)(v:ae)(s:aj):Prop:=∀(A:bO) (Q:Keeper->aj->Prop) (E:nz),(∀k,Q k s)->wpAny M A (keeperOf v) Q E s
structure Sys where
 prog:c5
 w:cy
 jR:dq->jr->kr->Prop
 B:wG
abbrev j4(S:Sys):=Holds S.jR S.B
abbrev p_(S:Sys):=model S.prog S.w
abbrev nP(S:Sys):=uM S.jR S.B
abbrev oW(S:Sys):=og S.jR S.B
abbrev kY(S:Sys){α:Type}:=@wpAny α (p_ S)
variable {S:Sys}
section
variable (S:Sys) (P:Par) (d:Nat)
def L4:Prop:=∀x a,P.glob x=some a->∀(V:jj) (F:jn) (J:jW) (fs:jS) (R:mO) (s:aj) (M:fL) (A:bO) (Q:nz) (E:nz) (env:Env),
 j4 S V F J fs R s->env.globals=mainGlobals->env.builtins=builtinsNs->(∀v,kQ V F v a->Q v s)->wpAny M A (loadGlobal env x) Q E s
def GL:Prop:=∀g l J K X,P.call g l J K X->∀(V:jj) (F:jn) (fs:jS) (R:mO) (s:aj) (A:bO) (v:ae) (vs:jr),kj d true fs A->j4 S V F J fs R s->kQ V F v g->jV V F vs l->
 oq (p_ S) v s/\kY S A (call v vs) (nP S V F fs R K) (oW S V F fs R X) s
def DZ:Prop:=∀op a b J K X,P.cmp op a b J K X->∀(V:jj) (F:jn) (fs:jS) (R:mO) (s:aj) (A:bO) (va vb:ae),kj d true fs A->j4 S V F J fs R s->kQ V F va a->kQ V F vb b->
 kY S A (compareOp op va vb) (nP S V F fs R K) (oW S V F fs R X) s
def L5:Prop:=∀op a b J K X,P.bin op a b J K X->∀(V:jj) (F:jn) (fs:jS) (R:mO) (s:aj) (A:bO) (va vb:ae),kj d true fs A->j4 S V F J fs R s->kQ V F va a->kQ V F vb b->
 kY S A (binaryOp op va vb) (nP S V F fs R K) (oW S V F fs R X) s
def s9 (jR:dq->jr->kr->Prop)(B:wG)(V:jj)(F:jn)(fs:jS)(R:mO)(K:aY->jW->Prop)(b:aY)(s:aj):Prop:=∃jF F' g_,j8 V jF F F'/\Holds jR B jF F' g_ fs R s/\K b g_
def L6 (jR:dq->jr->kr->Prop)(B:wG)(V:jj)(F:jn)(fs:jS)(R:mO)(K:jy->jW->Prop)(vs:jr)(s:aj):Prop:=∃jF F' l g_,j8 V jF F F'/\Holds jR B jF F' g_ fs R s/\jV jF F' vs l/\K l g_
def pD (t:Env->Sem ae)(c:nW)(Y:j9)(J:jW)(K:KV)(X:KX):Prop:=∀(V:jj) (F:jn) (f:ma) (fs:jS) (R:mO) (s:aj) (A:bO),kj d c.calm (f::fs) A->nC c f->f.vars=Y->
 j4 S V F J (f::fs) R s->kY S A (t f.env) (nP S V F (f::fs) R K) (oW S V F (f::fs) R X) s
def L7 (t:Env->Sem aY)(c:nW)(Y:j9)(J:jW)(K:aY->jW->Prop)(X:KX):Prop:=∀(V:jj) (F:jn) (f:ma) (fs:jS) (R:mO) (s:aj) (A:bO),kj d c.calm (f::fs) A->nC c f->f.vars=Y->
 j4 S V F J (f::fs) R s->kY S A (t f.env) (s9 S.jR S.B V F (f::fs) R K) (oW S V F (f::fs) R X) s
def l7 (fE:rT):Prop:=∀c e Y J K X,fE c e Y J K X->pD S d (eval e) c Y J K X
def rn (fT:GB):Prop:=∀c e Y J K X,fT c e Y J K X->L7 S d (λenv=>isTrue e env (eval e env)) c Y J K X
def Wi:Prop:=∀fE fT,l7 S d fE->rn S d fT->l7 S d (P.ext fE fT)
structure xA:Prop where
 glob:L4 S P
 call:GL S P d
 cmp:DZ S P d
 bin:L5 S P d
 ext:Wi S P d
def abt (t:Env->Sem (jr))(c:nW)(Y:j9)(J:jW)(K:jy->jW->Prop)(X:KX):Prop:=∀(V:jj) (F:jn) (f:ma) (fs:jS) (R:mO) (s:aj) (A:bO),kj d c.calm (f::fs) A->nC c f->f.vars=Y->
 j4 S V F J (f::fs) R s->kY S A (t f.env) (L6 S.jR S.B V F (f::fs) R K) (oW S V F (f::fs) R X) s
end
section
variable {K:KV}{X:KX}
def jo{x:az α}{K:α->Prop}(h:ky x K):∃a,x=some a/\K a:=by
 unfold ky at h
 grind
def uM.here(H:Holds jR B V F J fs R s)(r:kQ V F v av)(k:K av J):uM jR B V F fs R K v s:=⟨V,F,av,J,.refl _ _,H,r,k⟩
def s9.here{b:aY}(H:Holds jR B V F J fs R s)(k:KB b J):s9 jR B V F fs R KB b s:=⟨V,F,J,.refl _ _,H,k⟩
def L6.here{KL:jy->jW->Prop}(H:Holds jR B V F J fs R s)(r:jV V F vs l)(k:KL l J):L6 jR B V F fs R KL vs s:=⟨V,F,l,J,.refl _ _,H,r,k⟩
def Ct{g:ae->Sem α}{Q:α->aj->Prop}(h:wpAny M A t (uM jR B V F fs R GK) (og jR B V F fs R X) s)
  (k:∀jF F' v av a b,j8 V jF F F'->Holds jR B jF F' a fs R b->kQ jF F' v av->GK av a->wpAny M A (g v) Q (og jR B V F fs R X) b):wpAny M A (t>>=g) Q (og jR B V F fs R X) s:=
 G (ai h (λv b ⟨jF,F',av,a,c,H,r,q⟩=>k jF F' v av a b c H r q) λ_ _ e=>e)
def wp_mono(h:wpAny M A t (uM jR B V F fs R GK) (og jR B V F fs R X) s)
  (k:∀jF F' v av a b,j8 V jF F F'->Holds jR B jF F' a fs R b->kQ jF F' v av->GK av a->Q v b):wpAny M A t Q (og jR B V F fs R X) s:=
 ai h (λv b ⟨jF,F',av,a,c,H,r,q⟩=>k jF F' v av a b c H r q) λ_ _ e=>e
def rU(g:j8 V jF F F')(h:wpAny M A t (uM jR B jF F' fs R K) (og jR B jF F' fs R X) s):wpAny M A t (uM jR B V F fs R K) (og jR B V F fs R X) s:=ai h (λ_ _ p=>p.grow g) λ_ _ p=>p.grow g
def pE{t:Sem α}{Q:α->aj->Prop}(g:j8 V jF F F')(h:wpAny M A t Q (og jR B jF F' fs R X) s):wpAny M A t Q (og jR B V F fs R X) s:=ai h (λ_ _ p=>p) λ_ _ p=>p.grow g
def s9.grow{b:aY}(g:j8 V jF F F')(h:s9 jR B jF F' fs R KB b s):s9 jR B V F fs R KB b s:=let ⟨a,b,c,d,r⟩:=h;⟨a,b,c,g.trans d,r⟩
mutual
def kQ.reads{h:cj}(k:∀a o,F a=some o->h.get? a=some o):∀{v:ae}{av:AV}{x:iG},kQ V F v av->av.pd=some x->∃as,Reads h v x as
 |_,_,_,.none,e=>by cases e;exact⟨_,.none⟩
 |_,_,_,.bool b,e=>by cases e;exact⟨_,.bool b⟩
 |_,_,_,.int i t,e=>by cases e;exact⟨_,.int i t⟩
 |_,_,_,.str x t,e=>by cases e;exact⟨_,.str x t⟩
 |_,.tup l,x,.tup c d f r,e=>by simp only[AV.pd]at e;obtain⟨m,g,rfl⟩:=ay.mp e;have⟨as,j⟩:=jV.reads k r g;exact⟨_,.tuple (k _ _ c) d f j⟩
 |_,.lst l,x,.lst c d f r,e=>by simp only[AV.pd]at e;obtain⟨m,g,rfl⟩:=ay.mp e;have⟨as,j⟩:=jV.reads k r g;exact⟨_,.list (k _ _ c) d f j⟩
 |_,_,_,.LD _,e=>by cases e
 |_,_,_,.ref _,e=>by cases e
 |_,_,_,.val _,e=>by cases e
 |_,_,_,.bm _ _,e=>by cases e
 |_,_,_,.lam ..,e=>by cases e
def jV.reads{h:cj}(k:∀a o,F a=some o->h.get? a=some o):∀{vs:jr}{l:jy}{xs:List iG},jV V F vs l->AV.A1 l=some xs->∃as,ReadsAll h vs xs as
 |_,_,_,.nil,e=>by cases e;exact⟨_,.nil⟩
 |_,_,xs,.cons (av:=av) (l:=l) f g,e=>by
  simp only[AV.A1]at e;cases b:av.pd with
  |none=>rw[b]at e;cases e
  |some d=>
   cases c:AV.A1 l with
   |none=>rw[b,c]at e;cases e
   |some m=>rw[b,c]at e;cases e;have⟨as,i⟩:=kQ.reads k f b;have⟨n,j⟩:=jV.reads k g c;exact⟨_,.cons i j⟩
end
def vB{b:aY}{Q:aY->aj->Prop}(r:kQ V F v av)(e:yV av=some b)(q:Q b s):wpAny M A (truthy v) Q E s:=by cases r<;>first|(cases e;exact dL q)|(cases e;exact λ_ _ _=>q)|cases e
end
section
variable {K:KV}{X:KX}
def JV{x:az α}{a:α}{K:α->Prop}(e:x=some a)(h:ky x K):K a:=by subst e;unfold ky at h;exact h
def L8{a:AV}{v:aY}(k:A.units+100<cLine)(H:j4 S V F J fs R s)(d:kQ V F va a)(f:kQ V F vb b)(e:wP a b=some v)(q:Q (.bool v) s):
  kY S A (compareOp .Eq va vb) Q E s:=by
 unfold wP at e;split at e
 .rename_i x y g h;split at e
  .rename_i c;cases e;have⟨as,i⟩:=d.reads H.lw g;have⟨l,j⟩:=f.reads H.lw h;exact compareEq_reads i j c.2.1 c.2.2 (by have:=c.1;have m:=Nat.min_le_left x.depth y.depth;omega) q
  .cases e
 .cases e
def L9{a:AV}{v:aY}(k:A.units+100<cLine)(H:j4 S V F J fs R s)(d:kQ V F va a)(f:kQ V F vb b)(e:wP a b=some v)(q:Q (.bool (!v)) s):
  kY S A (compareOp .NotEq va vb) Q E s:=by
 unfold wP at e;split at e
 .rename_i x y g h;split at e
  .rename_i c;cases e;have⟨as,i⟩:=d.reads H.lw g;have⟨l,j⟩:=f.reads H.lw h;exact compareNe_reads i j c.2.1 c.2.2 (by have:=c.1;have m:=Nat.min_le_left x.depth y.depth;omega) q
  .cases e
 .cases e
def L_{a:AV}{v:aY}(m:A.units+100<cLine)(H:j4 S V F J fs R s)(i:kQ V F va a)(j:kQ V F vb b)(e:qN a b=some v)(q:Q (.bool v) s):
  kY S A (compareOp .In va vb) Q E s:=by
 unfold qN at e;split at e
 .rename_i x y d f;split at e
  .rename_i c;cases e;have⟨as,g⟩:=i.reads H.lw d;have⟨k,h⟩:=j.reads H.lw f;exact in_list_reads h g c.2.2 c.2.1 (by have:=c.1;have l:=dT (PyData.depthAll y) x.depth;omega) q
  .cases e
 .rename_i x y d f;split at e
  .rename_i c;cases e;have⟨as,g⟩:=i.reads H.lw d;have⟨k,h⟩:=j.reads H.lw f;exact in_tuple_reads h g c.2.2 c.2.1 (by have:=c.1;have l:=dT (PyData.depthAll y) x.depth;omega) q
  .cases e
 .cases e
def D0{a:AV}{v:aY}(m:A.units+100<cLine)(H:j4 S V F J fs R s)(i:kQ V F va a)(j:kQ V F vb b)(e:qN a b=some v)(q:Q (.bool (!v)) s):
  kY S A (compareOp .NotIn va vb) Q E s:=by
 unfold qN at e;split at e
 .rename_i x y d f;split at e
  .rename_i c;cases e;have⟨as,g⟩:=i.reads H.lw d;have⟨k,h⟩:=j.reads H.lw f;exact notIn_list_reads h g c.2.2 c.2.1 (by have:=c.1;have l:=dT (PyData.depthAll y) x.depth;omega) q
  .cases e
 .rename_i x y d f;split at e
  .rename_i c;cases e;have⟨as,g⟩:=i.reads H.lw d;have⟨k,h⟩:=j.reads H.lw f;exact notIn_tuple_reads h g c.2.2 c.2.1 (by have:=c.1;have l:=dT (PyData.depthAll y) x.depth;omega) q
  .cases e
 .cases e
def Me{a:AV}{v:aY}(c:kQ V F va a)(d:kQ V F vb b)(e:Py a b=some v)(q:Q (.bool v) s):
  kY S A (compareOp .Is va vb) Q E s:=by
 unfold Py at e;split at e<;>first|cases e|skip
 all_goals (cases c;cases d;exact is_none q)
def D1{a:AV}{v:aY}(c:kQ V F va a)(d:kQ V F vb b)(e:Py a b=some v)(q:Q (.bool (!v)) s):
  kY S A (compareOp .IsNot va vb) Q E s:=by
 unfold Py at e;split at e<;>first|cases e|skip
 all_goals (cases c;cases d;exact isNot_none q)
def o0{x:az α}{K:α->Prop}{D:Prop}(h:on x K D):(∃a,x=some a/\K a)∨D:=by
 unfold on at h
 grind
def JW{op:CmpOp}{a:AV}(C:DZ S P d)(fa:kj d iK fs A)(H:j4 S V F J fs R s)(c:kQ V F va a)(f:kQ V F vb b)(e:lF P iK op a b J K X):
  kY S A (compareOp op va vb) (nP S V F fs R K) (oW S V F fs R X) s:=by
 have i:A.units+100<cLine:=by have:=fa.units;show A.units+100<9900;omega
 have LE:∀op,(iK=true/\P.cmp op a b J K X)->kY S A (compareOp op va vb) (nP S V F fs R K) (oW S V F fs R X) s:=λop h=>C op a b J K X h.2 V F fs R s A va vb (h.1▸fa) H c f;unfold lF at e;cases op<;>first|exact LE _ e|(rcases o0 e with⟨v,g,k⟩|e)
 .exact L8 i H c f g (.here H (.bool _) k)
 .exact LE _ e
 .exact L9 i H c f g (.here H (.bool _) k)
 .exact LE _ e
 .exact Me c f g (.here H (.bool _) k)
 .exact LE _ e
 .exact D1 c f g (.here H (.bool _) k)
 .exact LE _ e
 .exact L_ i H c f g (.here H (.bool _) k)
 .exact LE _ e
 .exact D0 i H c f g (.here H (.bool _) k)
 .exact LE _ e
end
section
variable {K:KV}{X:KX}
def Holds.Cu(H:j4 S V F J fs R s)(r:jV V F vs l)(t:Nat)(k:K (.lst l) J):
  nP S V F fs R K (.ref s.heap.objs.size) {s with heap:=s.heap.push {cls:=.type "list",data:=.seq vs.toArray},toks:=t}:=by
 have a:=am s.heap (o:={cls:=.type "list",data:=.seq vs.toArray}) rfl;have⟨c,g⟩:=H.yi (t:=t) (λb o e=>ad _ e) (aq (ao _)) a;exact⟨V,_,_,J,g,c,.lst (jn.lf _ _ _) rfl rfl (r.mono g),k⟩
def Holds.Cv(H:j4 S V F J fs R s)(r:jV V F vs l)(t:Nat)(k:K (.tup l) J):
  nP S V F fs R K (.ref s.heap.objs.size) {s with heap:=s.heap.push {cls:=.type "tuple",data:=.seq vs.toArray},toks:=t}:=by
 have a:=am s.heap (o:={cls:=.type "tuple",data:=.seq vs.toArray}) rfl;have⟨c,g⟩:=H.yi (t:=t) (λb o e=>ad _ e) (aq (ao _)) a;exact⟨V,_,_,J,g,c,.tup (jn.lf _ _ _) rfl rfl (r.mono g),k⟩
def JX{op:Operator}{a v:AV}(P:A.units<cLine)(H:j4 S V F J fs R s)(c:kQ V F va a)(d:kQ V F vb b)(e:LZ op a b=some v)(k:K v J):
  kY S A (binaryOp op va vb) (nP S V F fs R K) E s:=by
 unfold LZ at e;split at e
 .cases e;cases c;cases d;exact sub_int (.here (H.tok _) (.int _ _) k)
 .split at e<;>cases e;cases c;cases d;rename_i h _ _;exact mod_int' h (.here (H.tok _) (.int _ _) k)
 .split at e<;>cases e;cases c;cases d;rename_i h _ _;refine floordiv_int (by rcases h with h|h|h<;>(rw[h];decide)) (.here (H.tok _) (.int _ _) k) (.inl ?_);rcases h with h|h|h<;>(rw[h];exact PyProof.noPylong_of_log2 (by tm_at"d"))
 .split at e<;>cases e;cases c;cases d;rename_i h _ _;exact rshift_int h (.here (H.tok _) (.int _ _) k)
 .cases e;cases c;cases d;exact and_int (.here (H.tok _) (.int _ _) k)
 .split at e<;>cases e;rename_i Q T h;cases c with
  |lst w l d1 m=>
   cases d with
   |lst x n d2 o=>
    rename_i y z f B C D g G;have⟨I,L,p,M⟩:=z;have⟨N,i,data2,j⟩:=D;simp only at l d1 n d2;subst l d1 n d2;have q:=H.lw _ _ w;have r:=H.lw _ _ x;have O:f.size+g.size<=sizeLine:=by have t:=m.length;have u:=o.length;simp only[aQ]at t u;rw[t,u];exact bq h (by decide)
    refine concat_meets ⟨_,q,rfl⟩ ⟨_,r,rfl⟩ noFill_list_add seq_list_add PySem.F.slot_list_add PySem.F.entry_list_add (PySem.F.args_list_add_2 _ _) (list_addW y C f g B G L i M j O) ⟨q,r,?_⟩;have e:f++g=(f.toList++g.toList).toArray:=by simp
    rw[e];exact H.Cu (jV.append o m) s.toks k
 .cases e
end
section
variable {K:KV}{X:KX}
def GM(k:L4 S P)(e:wH P c x Y λa=>K a J)(h:nC c f)(l:f.vars=Y)(H:j4 S V F J (f::fs) R s):
  kY S A (eval (.Name x pos) f.env) (nP S V F (f::fs) R K) E s:=by
 unfold wH at e;split at e
 .exact e.elim
 .rename_i b;simp only[eZ,Bool.not_eq_true]at b;have d:∀y,f.env.kindOf y=c.scope.names.lookup y:=λy=>by show f.env.scope.names.lookup y=_;rw[h.1]
  refine wpAny_Name ?_ b.1;have ld:f.env.kindOf x=some .local∨m5 x (f.env.kindOf x)=true->(match Y.lookup x with|some a=>K a J|Option.none=>False)->kY S A (loadName f.env x) (nP S V F (f::fs) R K) E s:=λm g=>by
   cases q:Y.lookup x with
   |none=>rw[q]at g;exact g.elim
   |some a=>rw[q]at g;exact wp_load H m b.2.1 (by rw[l];exact q) λv r=>.here H r g
  split at e
  .rename_i q;exact ld (.inl (by rw[d];exact q)) e
  .rename_i q;exact ld (.inr (by unfold m5;rw[d,q,bne,b.2.2];rfl)) e
  .rename_i q;exact ld (.inr (by unfold m5;rw[d,q,bne,b.2.2];rfl)) e
  .rename_i q;cases i:P.glob x with
   |none=>rw[i]at e;exact e.elim
   |some a=>
    rw[i]at e;have j:loadName f.env x=loadGlobal f.env x:=by unfold loadName;have n:=H.top.kind;simp only[Env.blockKind,n,ScopeKind.isAnnotationScope,io,au,bD,d,q]
    rw[j];exact k x a i V F J (f::fs) R s _ A _ E f.env H h.2.1 h.2.2.1 λv r=>.here H r e
  .exact e.elim
def nj{fe:Expr->jW->KV->Prop}(m:∀e J K,fe e J K->pD S d (eval e) c Y J K X){pos:Pos}:∀{es:j5}{J:jW}{KL:jy->jW->Prop},oj fe es J KL->
  abt S d (λenv=>spliced (backTo pos (starEach es env))) c Y J KL X
 |[],J,KL,h=>λV F f fs R s A fa b i H=>eA (.here H .nil h)
 |e::es,J,KL,h=>λV F f fs R s A fa b i H=>by
  by_cases j:∃x p,e=.Starred x p
  .obtain⟨x,p,rfl⟩:=j;exact h.elim
  .have h':fe e J λa o=>oj fe es o λl jf=>KL (a::l) jf:=by cases e<;>first|exact h|exact absurd ⟨_,_,rfl⟩ j
   have q:starEach (e::es) f.env=(false,eval e f.env)::starEach es f.env:=by cases e<;>first|rfl|exact absurd ⟨_,_,rfl⟩ j
   refine dU (wp_mono (m _ _ _ h' V F f fs R s A fa b i H) λjF F' v av G t g u r k=>?_) q;refine ai (nj m k jF F' f fs R t A fa b i u) (λvs I w=>?_) λ_ _ p=>p.grow g;have⟨y,z,l,B,n,C,D,E⟩:=w;exact⟨y,z,av::l,B,g.trans n,C,.cons (r.mono n) D,E⟩
def mw{first:jr}
  (h:wpAny M A (spliced (backTo pos (starEach args env))) (λvs jw=>oq M v jw/\wpAny M A (call v (first++vs)) Q E jw) E s) (i:(backTo pos (starEach args env)).any (·.1)=false):
  wpAny M A (callWith pos v first (backTo pos (starEach args env)) []) Q E s:=by
 have o:wpAny M A (evalArgs v true (backTo pos (starEach args env)) []) (λa jw=>a.kw=[]/\oq M v jw/\wpAny M A (call v (first++a.pos)) Q E jw) E s:=by
  cases args with
  |nil=>unfold evalArgs;refine G (ai h (λvs jw d=>?_) λ_ _ x=>x);refine G (ac ?_);apply aF;exact G (ac (G (ac (ac ⟨rfl,d⟩))))
  |cons e es=>
   have j:∃t iN,backTo pos (starEach (e::es) env)=(false,t)::iN:=by
    cases l:backTo pos (starEach (e::es) env)with
    |nil=>cases e<;>cases l
    |cons p r=>have⟨b,t⟩:=p;rw[l]at i;simp only[iy,eM]at i;obtain rfl:b=false:=i.1;exact⟨t,r,rfl⟩
   have⟨t,iN,j⟩:=j;rw[j]at h⊢;exact evalArgs_plain (ai h (λvs jw d=>⟨rfl,d⟩) λ_ _ x=>x)
 unfold callWith;refine G (aF (ai o (λa jw d=>G (bR ?_)) λ_ _ x=>x));have⟨f,q,g⟩:=d;have⟨m,B⟩:=a;simp only at f g;subst f;have c:∀{t:Sem ae},wpAny M A t Q E jw->wpAny M A (t>>=λr=>holding [r] point>>=λ_=>pure r) Q E jw:=λu=>G (ai u (λr e_ w=>G (aF (wpAny_point (ac w)))) λ_ _ x=>x)
 simp only[i,List.any_nil,gG];refine G (q A _ E λk=>?_);have op:wpAny M A (operate (v::(first++m)) (call v (first++m))) Q E jw:=λy p z=>by rw[Sem.wp_operate];exact g y p z
 by_cases n:(backTo pos (starEach args env)).length+2*([]:List (az Str×Sem ae)).length>30
 .grind
 .cases k<;>(try dsimp only)<;>first
   |exact c g
   |(simp only[au,bD,hW,bh];exact c op)
   |(rw[aA n];refine c ?_;unfold callMarked;exact wpAny_keep g)
   |(refine c ?_;rw[aA n];unfold callMarked;exact wpAny_keep g)
end
def mx{pos:Pos}{env:Env}:∀{es:j5},pq es=true->(backTo pos (starEach es env)).any (·.1)=false
 |[],_=>rfl
 |e::es,h=>by
  by_cases a:∃x p,e=.Starred x p
  .obtain⟨x,p,rfl⟩:=a;cases h
  .have h':pq es=true:=by cases e<;>first|exact h|exact absurd ⟨_,_,rfl⟩ a
   have b:starEach (e::es) env=(false,eval e env)::starEach es env:=by cases e<;>first|rfl|exact absurd ⟨_,_,rfl⟩ a
   rw[b];show(false||(backTo pos (starEach es env)).any (·.1))=false;rw[mx h'];rfl
section
variable {K:KV}{X:KX}
def vC{t:Sem aY}(g:j8 V jF F F')(h:wpAny M A t (s9 S.jR S.B jF F' fs R KB) (oW S jF F' fs R X) s):wpAny M A t (s9 S.jR S.B V F fs R KB) (oW S V F fs R X) s:=ai h (λ_ _ p=>p.grow g) λ_ _ p=>p.grow g
def rp{t:Sem aY}{GK:aY->jW->Prop}{Q:aY->aj->Prop}(h:wpAny M A t (s9 S.jR S.B V F fs R GK) (oW S V F fs R X) s)
  (k:∀jF F' b a c,j8 V jF F F'->j4 S jF F' a fs R c->GK b a->Q b c):wpAny M A t Q (oW S V F fs R X) s:=
 ai h (λb c ⟨jF,F',a,d,H,q⟩=>k jF F' b a c d H q) λ_ _ e=>e
structure uO (S:Sys) (P:Par) (d:Nat) (n:Nat):Prop where
 e:∀c e Y J K X,aE P n c e Y J K X->pD S d (eval e) c Y J K X
 t:∀c e Y J K X,aT P n c e Y J K X->L7 S d (λenv=>isTrue e env (eval e env)) c Y J K X
 b:∀c op vs Y J K X pos,Iu P n c op vs Y J K X->pD S d (λenv=>boolOp pos op (evalEach vs env)) c Y J K X
 a:∀c op vs Y J K X,PA P n c op vs Y J K X->L7 S d (λenv=>allTrue op vs env) c Y J K X
def JY(a:uO S P d n){vs:j5}(h:Iu P (n+1) c op vs Y J K X):pD S d (λenv=>boolOp pos op (evalEach vs env)) c Y J K X:=by
 intro V F f fs R s A fa i j H
 match vs,h with
 |[e],h=>exact a.e c e Y J K X h V F f fs R s A fa i j H
 |e::o::es,h=>
  show wpAny _ A (do
   let v <-eval e f.env
   standAt pos
   let t <-holding [v] (truthy v)
   match op,t with
   |.And,false|.Or,true=>pure v
   |_,_=>boolOp pos op (evalEach (o::es) f.env)) _ _ s
  refine Ct (a.e c e Y J _ X h V F f fs R s A fa i j H) λjF F' v av l p g m r k=>?_;obtain⟨t,q,k⟩:=jo k;refine G (bR (G (aF (vB r q ?_))));cases op<;>cases t
  .exact ac ⟨jF,F',av,l,g,m,r,k⟩
  .exact rU g (a.b c .And (o::es) Y l K X pos k jF F' f fs R p A fa i j m)
  .exact rU g (a.b c .Or (o::es) Y l K X pos k jF F' f fs R p A fa i j m)
  .exact ac ⟨jF,F',av,l,g,m,r,k⟩
def Mf(j:uO S P d n){vs:j5}(h:PA P (n+1) c op vs Y J KB X):L7 S d (λenv=>allTrue op vs env) c Y J KB X:=by
 intro V F f fs R s A fa l m H
 match vs,h with
 |[],h=>exact ac (.here H h)
 |e::es,h=>
  show wpAny _ A (do
   match op,<-isTrue e f.env (eval e f.env)with
   |.And,false=>pure false
   |.Or,true=>pure true
   |_,_=>allTrue op es f.env) _ _ s
  refine G (rp (j.t c e Y J _ X h V F f fs R s A fa l m H) λjF F' t b o g i k=>?_);cases op<;>cases t
  .exact ac ⟨jF,F',b,g,i,k⟩
  .exact vC g (j.a c .And es Y b KB X k jF F' f fs R o A fa l m i)
  .exact vC g (j.a c .Or es Y b KB X k jF F' f fs R o A fa l m i)
  .exact ac ⟨jF,F',b,g,i,k⟩
def D3(y:DZ S P d)(m:uO S P d n){l r:Expr}{op:CmpOp}{o:KV}(h:aE P n c l Y J (λa g=>aE P n c r Y g (λb p=>lF P c.calm op a b p o X) X) X)
  (fa:kj d c.calm (f::fs) A) (t:nC c f) (u:f.vars=Y) (H:j4 S V F J (f::fs) R s)
  (q:∀jF F' v av w x,j8 V jF F F'->j4 S jF F' w (f::fs) R x->kQ jF F' v av->o av w->Q v x):
  kY S A (eval l f.env) (λa i=>kY S A (eval r f.env) (λb e_=>kY S A (compareOp op a b) Q (oW S V F (f::fs) R X) e_) (oW S V F (f::fs) R X) i) (oW S V F (f::fs) R X) s:=by
 refine wp_mono (m.e c l Y J _ X h V F f fs R s A fa t u H) λz B va a g i j C D E=>?_;refine pE j (wp_mono (m.e c r Y g _ X E z B f fs R i A fa t u C) λjP ke vb b p e_ k G I K=>?_);refine pE (j.trans k) (wp_mono (JW y fa G (D.mono k) I K) λL M N av O T U W Z yj=>q L M N av O T ((j.trans k).trans U) W Z yj)
def xB(r:jV V F vs l)(h:Cs l):vs.length<=sizeLine:=by rw[r.length];exact bq h (by decide)
end
section
variable {K:KV}{X:KX}
def JZ(u:xA S P d)(b:uO S P d n){i:Pos}(w:pq args=true)
  (h:aE P n c (.Name y i) Y J (λg j=>oj (λe J K=>aE P n c e Y J K X) args j λl a=>c.calm=true/\P.call g l a K X) X):pD S d (eval (.Call (.Name y i) args [] pos)) c Y J K X:=by
 intro V F f fs R s A fa m o H;refine eI (wp_mono (b.e c _ Y J _ X h V F f fs R s A fa m o H) λx z v av j B r C D E=>?_);refine mw (first:=[]) (ai (nj (X:=X) (λe J K q=>b.e c e Y J K X q) E x z f fs R B A fa m o C) (λvs e_ p=>?_) λ_ _ p=>p.grow r) (mx w);have⟨G,I,l,a,t,L,M,N,k⟩:=p;have O:=N▸fa;have⟨Q,T⟩:=u.call _ l a K X k G I (f::fs) R e_ A v vs O L (D.mono t) M;exact⟨Q,rU (r.trans t) T⟩
def Holds.Mg(H:j4 S V F J fs R s)(t:Nat)(k:K (.ref J.length) (J++[.list []])):
  nP S V F fs R K (.ref s.heap.objs.size) {s with heap:=s.heap.push {cls:=.type "list",data:=.seq ([]:jr).toArray},toks:=t}:=by
 have a:=am s.heap (o:={cls:=.type "list",data:=.seq ([]:jr).toArray}) rfl;have d:=H.oU (t:=t) (λb o e=>ad _ e) (aq (ao _)) a;have⟨f,g⟩:=d.vz (c:=.list []) ⟨([]:jr).toArray,0,a,.nil⟩ (by intro e;cases e);refine⟨_,F,_,_,g,f,.ref ?_,k⟩;rw[<-H.len,aR (ao _),cM];rfl
def J0(z:xA S P d)(m:uO S P d n)(h:aE P (n+1) c e Y J K X):pD S d (eval e) c Y J K X:=by
 unfold aE at h;split at h
 .rename_i k _ _;intro V F f fs R s A fa i j H;have⟨a,e,k⟩:=jo h;unfold vA at e;split at e<;>cases e
  .exact Constant_none (.here H .none k)
  .exact Constant_bool (.here H (.bool _) k)
  .exact wpAny_Constant_int (.here (H.tok _) (.int _ _) k)
  .exact Constant_str (.here (H.tok _) (.str _ _) k)
 .intro V F f fs R s A fa i j H;exact GM z.glob h i j H
 .intro V F f fs R s A fa i j H;refine wpAny_BinOp (wp_mono (m.e c _ Y J _ X h V F f fs R s A fa i j H) λB C va a D G w E I x=>?_);refine pE w (wp_mono (m.e c _ Y D _ X x B C f fs R G A fa i j E) λL M vb b N e_ o u T U=>?_);rcases o0 U with⟨v,e,k⟩|e
  .exact ai (JX fa.Wg u (I.mono o) T e k) (λ_ _ p=>p.grow (w.trans o)) λ_ _ p=>p
  .exact rU (w.trans o) (z.bin _ a b N K X e.2 L M (f::fs) R e_ A va vb (e.1▸fa) u (I.mono o) T)
 .intro V F f fs R s A fa i j H;refine wpAny_UnaryOp (wp_mono (m.e c _ Y J _ X h V F f fs R s A fa i j H) λB C va a D G w E I x=>?_);have⟨v,e,k⟩:=jo x;exact not_of (vB I e ⟨B,C,_,D,w,E,.bool _,k⟩)
 .intro V F f fs R s A fa i j H;exact wpAny_UnaryOp (wpAny_Constant_int (neg_int (.here ((H.tok _).tok _) (.int _ _) h)))
 .intro V F f fs R s A fa i j H;exact wpAny_Compare1 (D3 z.cmp m h.2 fa i j H λjF F' v av O Z g W r k=>⟨jF,F',av,O,g,W,r,k⟩) h.1
 .intro V F f fs R s A fa i j H;refine wpAny_IfExp (rp (m.t c _ Y J _ X h V F f fs R s A fa i j H) λB C b D G w E x=>?_);cases b
  .rw[aA (by decide)]at x⊢;exact rU w (m.e c _ Y D K X x B C f fs R G A fa i j E)
  .rw[aB rfl]at x⊢;exact rU w (m.e c _ Y D K X x B C f fs R G A fa i j E)
 .intro V F f fs R s A fa i j H;exact m.b c _ _ Y J K X _ h V F f fs R s A fa i j H
 .intro V F f fs R s A fa i j H;refine wpAny_Tuple (ai (nj (X:=X) (λe J K q=>m.e c e Y J K X q) h V F f fs R s A fa i j H) (λvs e_ p=>?_) λ_ _ p=>p);have⟨L,M,l,N,o,u,y,Q,k⟩:=p;exact⟨xB y Q,(u.Cv y e_.toks k).grow o⟩
 .intro V F f fs R s A fa i j H;refine wpAny_List (ai (nj (es:=[]) (J:=J) (KL:=λl O=>l=[]/\O=J) (X:=X) (λe J K q=>m.e c e Y J K X q) (show _/\_ from⟨rfl,rfl⟩) V F f fs R s A fa i j H) (λvs e_ p=>?_) λ_ _ p=>p);obtain⟨L,M,l,N,o,u,y,rfl,rfl⟩:=p;cases y;rcases h with h|h
  .exact⟨cg _,(u.Cu .nil e_.toks h).grow o⟩
  .exact⟨cg _,(u.Mg e_.toks h).grow o⟩
 .intro V F f fs R s A fa i j H;refine wpAny_List (ai (nj (X:=X) (λe J K q=>m.e c e Y J K X q) h V F f fs R s A fa i j H) (λvs e_ p=>?_) λ_ _ p=>p);have⟨L,M,l,N,o,u,y,Q,k⟩:=p;exact⟨xB y Q,(u.Cu y e_.toks k).grow o⟩
 .split at h
  .exact z.ext _ _ (λc e Y J K X h=>m.e c e Y J K X h) (λc e Y J K X h=>m.t c e Y J K X h) c _ Y J K X h
  .exact JZ z m h.1 h.2
 .exact z.ext _ _ (λc e Y J K X h=>m.e c e Y J K X h) (λc e Y J K X h=>m.t c e Y J K X h) c _ Y J K X h
def J1(E:xA S P d)(m:uO S P d n)(h:aT P (n+1) c e Y J KB X):L7 S d (λenv=>isTrue e env (eval e env)) c Y J KB X:=by
 unfold aT at h;split at h
 .intro V F f fs R s A fa i j H;exact isTrue_not (rp (m.t c _ Y J _ X h V F f fs R s A fa i j H) λo q b u w y z l=>⟨o,q,u,y,z,l⟩)
 .intro V F f fs R s A fa i j H;exact m.a c _ _ Y J KB X h V F f fs R s A fa i j H
 .intro V F f fs R s A fa i j H;refine isTrue_IfExp (rp (m.t c _ Y J _ X h V F f fs R s A fa i j H) λo q b u w y z l=>?_);cases b
  .rw[aA (by decide)]at l⊢;exact vC y (m.t c _ Y u KB X l o q f fs R w A fa i j z)
  .rw[aB rfl]at l⊢;exact vC y (m.t c _ Y u KB X l o q f fs R w A fa i j z)
 .intro V F f fs R s A fa i j H;refine wpAny_isTrue_Compare1 (D3 E.cmp m h.2 fa i j H λjF F' v av G L g I r k=>?_) h.1;obtain⟨t,e,k⟩:=jo k;exact vB r e ⟨jF,F',G,g,I,k⟩
 .intro V F f fs R s A fa i j H;have C:kY S A (eval e f.env) (λv w=>kY S A (truthy v) (s9 S.jR S.B V F (f::fs) R KB) (oW S V F (f::fs) R X) w) (oW S V F (f::fs) R X) s:=by refine wp_mono (m.e c e Y J _ X h.2 V F f fs R s A fa i j H) λo q v av u w y z K l=>?_;obtain⟨t,e,k⟩:=jo l;exact vB K e ⟨o,q,u,y,z,k⟩
  refine isTrue_plain C ?_;have D:=h.1;cases e with
  |UnaryOp op x p=>cases op<;>first|rfl|cases D
  |_=>first|rfl|cases D
def vD(b:xA S P d):∀n,uO S P d n
 |0=>⟨λ_ _ _ _ _ _ h=>h.elim,λ_ _ _ _ _ _ h=>h.elim,λ_ _ _ _ _ _ _ _ h=>h.elim,λ_ _ _ _ _ _ _ h=>h.elim⟩
 |n+1=>
  have a:=vD b n
  ⟨λ_ _ _ _ _ _ h=>J0 b a h,λ_ _ _ _ _ _ h=>J1 b a h,λ_ _ _ _ _ _ _ _ h=>JY a h,λ_ _ _ _ _ _ _ h=>Mf a h⟩
end
section
variable {t:Nat}
def Holds.GO(X:Holds jR B V F J fs ((a,o)::R) s)(k:∀b o,b≠a->s.heap.get? b=some o->h'.get? b=some o):Holds jR B V F J fs R {s with heap:=h',toks:=t}:=by
 have q:=nG V J fs R a o;have⟨w,A⟩:=aL.mp (q.nodup_iff.mp X.nd);have⟨j,y⟩:=X.new a (q.mem_iff.mpr (.head _));have K:s8 B a s.heap h':=⟨λb g x=>k b x g,y⟩
 have d:∀b∈kz V J fs R,b≠a:=λb g e=>w (e▸g);have f:=X.vw;exact{
  base:=X.base,lw:=λb x e=>k _ _ (λh=>by rw[h,j]at e;cases e) (X.lw _ _ e),old:=X.LV K,lim:=X.LW K,bare:=X.bare,os:=X.os,len:=X.len,nd:=f.nd,new:=f.new,
  there:=λb m=>let ⟨x,z⟩:=f.there b m;⟨x,k _ _ (d b m) z⟩,
  cells:=λi b c l n=>by
   by_cases r:c=.dead
   .subst r;trivial
   .exact(X.cells i b c l n).mono (.refl _ _) λx=>k b x (d b (aH _ (lx l n r))),
  frames:=X.frames.mono (.refl _ _) λb m x=>k b x (d b (ag _ (aH _ m))),
  res:=λp u=>k _ _ (d _ (ag _ (ag _ (bz u)))) (f.res p u),
  tabs:=X.DY K j (λ_ _ e=>e) λ_ _ e=>e,mS:=X.mS}
end
section
variable (S:Sys) (d:Nat)
noncomputable def mj(cond:jW->Prop)(it:ae):jy->jj->jn->mO->Prop
 |[],V,F,R'=>∀(jF:jj) (F':jn) (J:jW) (fs:jS) (R:mO) (s:aj) (A:bO),j8 V jF F F'->kj d true fs A->cond J->j4 S jF F' J fs (R'++R) s->
   kY S A (pyNext it) (λr s'=>r=none/\∃s_ D2,j8 jF s_ F' D2/\j4 S s_ D2 J fs R s') (λ_ _=>False) s
 |av::l,V,F,R'=>∀(jF:jj) (F':jn) (J:jW) (fs:jS) (R:mO) (s:aj) (A:bO),j8 V jF F F'->kj d true fs A->cond J->j4 S jF F' J fs (R'++R) s->
   kY S A (pyNext it) (λr s'=>∃v s_ D2 LF,r=some v/\j8 jF s_ F' D2/\kQ s_ D2 v av/\j4 S s_ D2 J fs (LF++R) s'/\
    (∀(jq:jj) (jL:jn) (iT:jW) (sG:jS) (iL:mO) (jw:aj) (GQ:bO) (Ze:ae->aj->Prop) (jg:Unit->aj->Prop) (target:Expr),j8 s_ jq D2 jL->j4 S jq jL iT sG (LF++iL) jw->
     (∀e_,j4 S jq jL iT sG (LF++iL) e_->jg () e_)->kY S GQ (letOwnedTupleGo target it v) jg Ze jw)/\
    mj cond it l s_ D2 LF) (λ_ _=>False) s
structure YA (cond:jW->Prop) (it:ae) (l:jy) (V:jj) (F:jn) (R':mO):Prop where
 self:∀(jF:jj) (F':jn) (J:jW) (fs:jS) (R:mO) (s:aj) (A:bO) (Q:nz) (E:nz),j8 V jF F F'->cond J->j4 S jF F' J fs (R'++R) s->Q it s->kY S A (pyIter it) Q E s
 next:mj S d cond it l V F R'
end
def nX{I:iJ}{Q:Unit->aj->Prop}(d:it=.ref I)(f:s.heap.get? I=some o)(T:String)(e:o.cls=.type T)
  (g:(["enumerate","zip","dict_itemiterator","dict_reverseitemiterator","odict_iterator","itertools.zip_longest","itertools.pairwise"].contains T)=false) (q:Q () s):wpAny M A (letOwnedTupleGo target it v) Q E s:=by
 subst d;have⟨c,i,h,j⟩:=o;simp only at e;subst e;have b:∀a,wpAny M A (do
   let o <-load I
   match o.cls,o.data with
   |.type n,.fields vs=>
    if["enumerate","zip","dict_itemiterator","dict_reverseitemiterator","odict_iterator","itertools.zip_longest","itertools.pairwise"].contains n&&vs[0]?==some (rawInt a)then
     rule "for.unpacks-the-owned-tuple"
     updateField I 0 .none
   |_,_=>pure ()) Q E s:=λa=>by
  refine G (dB f ?_);cases h<;>first|exact ac q|skip
  simp only[g,io,au,bD];exact ac q
 unfold letOwnedTupleGo;cases target<;>first|exact ac q|skip
 all_goals (cases v<;>first|exact ac q|exact b _)
def rV{a I:iJ}{cond:jW->Prop}{jm:jy}(C:a≠I)
  (there:∀(jF:jj) (F':jn) (J:jW) (fs:jS) (R:mO) (s:aj),j8 V jF F F'->cond J->j4 S jF F' J fs R s->∃vs,s.heap.IsList a vs/\jV jF F' vs.toList jm):
  ∀(l:jy) (i:Nat) (o:dq) (c:jj) (d:jn),j8 V c F d->jm.drop i=l->o.cls=.type "list_iterator"->o.data=.fields #[.ref a,.int i 0]->mj S 0 cond (.ref I) l c d [(I,o)]
 |[],i,o,c,d,f,r,j,k=>by
  intro jF F' J fs R s A g fa m H;have n:=H.res (I,o) (.head _);have⟨vs,p,u⟩:=there jF F' J fs _ s (f.trans g) m H;have h:vs[i]?=none:=by
   have P:=u.length;have Q:=cq List.length r
   grind
  exact wpAny_pyNext_list_end (fa.calm rfl) ⟨o,n,j,k⟩ p h λh' e=>⟨rfl,jF,F',.refl _ _,H.GO (t:=s.toks) λb x w D=>e b x w D⟩
 |av::l,i,o,c,d,f,r,j,k=>by
  intro jF F' J fs R s A g fa m H;have n:=H.res (I,o) (.head _);have⟨vs,p,u⟩:=there jF F' J fs _ s (f.trans g) m H;have E:jm[i]?=some av:=by
   have:(jm.drop i)[0]?=some av:=by rw[r];rfl
   rw[c8,fc]at this;exact this
  have G:jm.drop (i+1)=l:=by rw[<-dS,r];rfl
  have⟨v,h,K⟩:=u.get E;rw[ax]at h;refine wpAny_pyNext_list_item ⟨o,n,j,k⟩ p h λh' y L=>?_;obtain⟨o',M,z,N⟩:=y;have O:=H.uL (t:=s.toks) (o':=o') (λb x w e=>L.extBut b x w e) M;refine⟨v,jF,F',[(I,o')],rfl,.refl _ _,K,O,λT U W X iS e_ Y Z PD target jY B q=>?_,?_⟩
  .exact nX rfl (B.res (I,o') (.head _)) "list_iterator" z (by tm_at"d") (q _ B)
  .exact rV C there l (i+1) o' jF F' (f.trans g) G z N
def xD{a I:iJ}{cond:jW->Prop}{jm:jy}(C:a≠I)
  (there:∀(jF:jj) (F':jn) (J:jW) (fs:jS) (R:mO) (s:aj),j8 V jF F F'->cond J->j4 S jF F' J fs R s->∃vs,s.heap.IsTuple a vs/\jV jF F' vs.toList jm):
  ∀(l:jy) (i:Nat) (o:dq) (c:jj) (d:jn),j8 V c F d->jm.drop i=l->o.cls=.type "tuple_iterator"->o.data=.fields #[.ref a,.int i 0]->mj S 0 cond (.ref I) l c d [(I,o)]
 |[],i,o,c,d,f,r,j,k=>by
  intro jF F' J fs R s A g fa m H;have n:=H.res (I,o) (.head _);have⟨vs,p,u⟩:=there jF F' J fs _ s (f.trans g) m H;have h:vs[i]?=none:=by
   have P:=u.length;have Q:=cq List.length r
   grind
  exact wpAny_pyNext_tuple_end (fa.calm rfl) ⟨o,n,j,k⟩ p h λh' e=>⟨rfl,jF,F',.refl _ _,H.GO (t:=s.toks) λb x w D=>e b x w D⟩
 |av::l,i,o,c,d,f,r,j,k=>by
  intro jF F' J fs R s A g fa m H;have n:=H.res (I,o) (.head _);have⟨vs,p,u⟩:=there jF F' J fs _ s (f.trans g) m H;have E:jm[i]?=some av:=by
   have:(jm.drop i)[0]?=some av:=by rw[r];rfl
   rw[c8,fc]at this;exact this
  have G:jm.drop (i+1)=l:=by rw[<-dS,r];rfl
  have⟨v,h,K⟩:=u.get E;rw[ax]at h;refine wpAny_pyNext_tuple_item ⟨o,n,j,k⟩ p h λh' y L=>?_;obtain⟨o',M,z,N⟩:=y;have O:=H.uL (t:=s.toks) (o':=o') (λb x w e=>L.extBut b x w e) M;refine⟨v,jF,F',[(I,o')],rfl,.refl _ _,K,O,λT U W X iS e_ Y Z PD target jY B q=>?_,?_⟩
  .exact nX rfl (B.res (I,o') (.head _)) "tuple_iterator" z (by tm_at"d") (q _ B)
  .exact xD C there l (i+1) o' jF F' (f.trans g) G z N
def rW (i:Nat):Nat->jy
 |0=>[]
 |n+1=>.int i::rW (i+1) n
def xE{I:iJ}{cond:jW->Prop}:∀(n i:Nat) (c:jj) (d:jn),mj S 0 cond (.ref I) (rW i n) c d [(I,{cls:=.type "range_iterator",dict:=none,data:=.fields #[rawInt i,rawInt n,rawInt 1],slots:=#[]})]
 |0,i,c,d=>by intro jF F' J fs R s A g fa k H;have f:=H.res _ (.head _);exact wpAny_pyNext_range_end (fa.calm rfl) f (by decide) λh' e=>⟨rfl,jF,F',.refl _ _,H.GO (t:=s.toks) λb x h l=>e b x h l⟩
 |n+1,i,c,d=>by
  intro jF F' J fs R s A g fa k H;have f:=H.res _ (.head _);refine wpAny_pyNext_range_item f (by omega) λh' a m=>?_;have o:((i:Int)+1)=((i+1:Nat):Int):=by omega
  have p:(((n+1:Nat):Int)-1)=(n:Int):=by omega
  rw[o,p]at a;have r:=H.uL (t:=s.toks+1) (λb x h e=>m.extBut b x h e) a;refine⟨_,jF,F',[(I,{cls:=.type "range_iterator",dict:=none,data:=.fields #[rawInt ((i+1:Nat):Int),rawInt n,rawInt 1],slots:=#[]})],rfl,.refl _ _,.int _ _,r,λu w y z iS e_ B C D target E j q=>?_,?_⟩
  .exact nX rfl (j.res _ (.head _)) "range_iterator" rfl (by tm_at"d") (q _ j)
  .exact xE n (i+1) jF F'
def mj.mono:∀{l:jy}{V jF:jj}{F F':jn}{b:mO},j8 V jF F F'->mj S d cond it l V F b->mj S d cond it l jF F' b
 |[],_,_,_,_,_,g,h=>λjF F' J fs R s A a=>h jF F' J fs R s A (g.trans a)
 |_::_,_,_,_,_,_,g,h=>λjF F' J fs R s A a=>h jF F' J fs R s A (g.trans a)
def mj.up{cond:jW->Prop}{it:ae}:∀{l:jy}{V:jj}{F:jn}{a:mO},mj S 0 cond it l V F a->mj S d cond it l V F a
 |[],_,_,_,h=>λjF F' J fs R s A g fa=>h jF F' J fs R s A g (fa.less (cg _))
 |_::_,_,_,_,h=>λjF F' J fs R s A g fa b H=>ai (h jF F' J fs R s A g (fa.less (cg _)) b H) (λr p ⟨v,c,f,i,e,j,k,m,n,o⟩=>⟨v,c,f,i,e,j,k,m,n,o.up⟩) λ_ _ e=>e
def rX:AV->jW->az (jy×(jW->Prop))
 |.lst l,_=>some (l,λ_=>True)
 |.tup l,_=>some (l,λ_=>True)
 |.LD n,_=>if n<=1000000 then some (rW 0 n,λ_=>True)else Option.none
 |.ref k,J=>(match J[k]? with
   |some (.list l)=>some (l,λg_=>g_[k]?=some (.list l))
   |_=>Option.none)
 |_,_=>Option.none
def Wk (S:Sys)(d:Nat)(V:jj)(F:jn)(fs:jS)(R:mO)(J:jW)(l:jy)(cond:jW->Prop)(it:ae)(s:aj):Prop:=∃jF F' R',j8 V jF F F'/\j4 S jF F' J fs (R'++R) s/\cond J/\YA S d cond it l jF F' R'
def D4(h:n<=1000000):Builtin.Range.small 0 n 1=true/\Builtin.Range.rangeSize 0 n 1=n:=by
 have e:Builtin.Range.rangeSize 0 n 1=n:=by unfold Builtin.Range.rangeSize;simp;omega
 refine⟨?_,e⟩;unfold Builtin.Range.small Builtin.Range.rangeFitsLong;rw[e];simp;omega
def qp(H:j4 S V F J fs R s)(r:kQ V F v av)(e:rX av J=some (l,cond)):
  kY S A (pyIter v) (Wk S d V F fs R J l cond) E s:=by
 cases r<;>try (cases e)
 .rename_i a o vs n f G d1 K;have j:=H.lw _ _ f;apply f8 ⟨o,j,G,n,d1⟩;have p:=am s.heap (o:={cls:=.type "tuple_iterator",data:=.fields #[.ref a,.int 0 0]}) rfl;have m:=aq (h:=s.heap) (ao _);have x:=H.oU (t:=s.toks) (λb o e=>ad _ e) m p;refine⟨V,F,[(s.heap.objs.size,{cls:=.type "tuple_iterator",data:=.fields #[.ref a,.int 0 0]})],.refl _ _,x,trivial,⟨λy z B C iL D M Q E g I c q=>wpAny_pyIter_tupleiter (t:=a) (i:=0) ⟨_,c.res _ (.head _),rfl,rfl⟩ q,?_⟩⟩;refine mj.up (xD (V:=V) (F:=F) (λq=>?_) (λy z B C iL D g _ c=>⟨vs,⟨o,c.lw _ _ (g.fr f),G,n,d1⟩,K.mono g⟩) l 0 _ V F (.refl _ _) (by simp) rfl rfl);rw[q]at j;rw[m]at j;cases j
 .rename_i a o vs n f G d1 K;have j:=H.lw _ _ f;apply eJ ⟨o,j,G,n,d1⟩;have p:=am s.heap (o:={cls:=.type "list_iterator",data:=.fields #[.ref a,.int 0 0]}) rfl;have m:=aq (h:=s.heap) (ao _);have x:=H.oU (t:=s.toks) (λb o e=>ad _ e) m p;refine⟨V,F,[(s.heap.objs.size,{cls:=.type "list_iterator",data:=.fields #[.ref a,.int 0 0]})],.refl _ _,x,trivial,⟨λy z B C iL D M Q E g I c q=>fA (l:=a) (i:=0) ⟨_,c.res _ (.head _),rfl,rfl⟩ q,?_⟩⟩;refine mj.up (rV (V:=V) (F:=F) (λq=>?_) (λy z B C iL D g _ c=>⟨vs,⟨o,c.lw _ _ (g.fr f),G,n,d1⟩,K.mono g⟩) l 0 _ V F (.refl _ _) (by simp) rfl rfl);rw[q]at j;rw[m]at j;cases j
 .rename_i a n t u w f;simp only[rX]at e;split at e
  .rename_i O;cases e;have⟨P,T⟩:=D4 O;apply wpAny_pyIter_range (H.lw _ _ f) P;rw[T];have p:=am s.heap (o:={cls:=.type "range_iterator",data:=.fields #[rawInt 0,rawInt n,rawInt 1]}) rfl;have x:=H.oU (t:=s.toks) (λb o e=>ad _ e) (aq (ao _)) p;exact⟨V,F,_,.refl _ _,x,trivial,⟨λy z B C iL D M Q E g I c q=>wpAny_pyIter_rangeiter (c.res _ (.head _)) q,mj.up (xE n 0 V F)⟩⟩
  .cases e
 .rename_i k a f;simp only[rX]at e;split at e
  .rename_i l' N;cases e;have⟨vs,n,L,K⟩:=H.cells k a _ f N;apply eJ ⟨_,L,rfl,n,rfl⟩;have p:=am s.heap (o:={cls:=.type "list_iterator",data:=.fields #[.ref a,.int 0 0]}) rfl;have m:=aq (h:=s.heap) (ao _);have x:=H.oU (t:=s.toks) (λb o e=>ad _ e) m p;refine⟨V,F,[(s.heap.objs.size,{cls:=.type "list_iterator",data:=.fields #[.ref a,.int 0 0]})],.refl _ _,x,N,⟨λy z B C iL D M Q E g I c q=>fA (l:=a) (i:=0) ⟨_,c.res _ (.head _),rfl,rfl⟩ q,?_⟩⟩;refine mj.up (rV (V:=V) (F:=F) (jm:=l) (λq=>?_) (λy z B C iL D g I c=>?_) l 0 _ V F (.refl _ _) (by simp) rfl rfl)
   .rw[q]at L;rw[m]at L;cases L
   .have⟨U,W,X,Y⟩:=c.cells k a _ (g.th f) I;exact⟨U,⟨_,X,rfl,W,rfl⟩,Y⟩
  .cases e
abbrev D5:=AV->jW->(jy->(jW->Prop)->jW->Prop)->Prop
@[irreducible] def oX (i0:D5):D5:=λit J K=>on (rX it J) (λp=>K p.1 p.2 J) (i0 it J K)
def wQ (S:Sys)(d:Nat)(V:jj)(F:jn)(fs:jS)(R:mO)(K:jy->(jW->Prop)->jW->Prop)(it:ae)(s:aj):Prop:=∃jF F' R' g_ l cond,j8 V jF F F'/\j4 S jF F' g_ fs (R'++R) s/\cond g_/\YA S d cond it l jF F' R'/\K l cond g_
def qO (S:Sys)(d:Nat)(i0:D5):Prop:=∀it J K,i0 it J K->∀(V:jj) (F:jn) (fs:jS) (R:mO) (s:aj) (A:bO) (v:ae) (E:nz),kj d true fs A->j4 S V F J fs R s->kQ V F v it->
 kY S A (pyIter v) (wQ S d V F fs R K) E s
noncomputable def ot(S:Sys)(d:Nat)(tg:Expr)(cond:jW->Prop)(it:ae):jy->jj->jn->mO->Prop
 |[],V,F,R'=>mj S d cond it [] V F R'
 |av::l,V,F,R'=>∀(jF:jj) (F':jn) (J:jW) (fs:jS) (R:mO) (s:aj) (A:bO),j8 V jF F F'->kj d true fs A->cond J->j4 S jF F' J fs (R'++R) s->
   kY S A (pyNext it) (λr s'=>∃v,r=some v/\kY S A (letOwnedTupleGo tg it v) (λ_ e_=>∃s_ D2 LF,j8 jF s_ F' D2/\kQ s_ D2 v av/\j4 S s_ D2 J fs (LF++R) e_/\ot S d tg cond it l s_ D2 LF) (λ_ _=>False) s') (λ_ _=>False) s
def ot.mono{e:mO}(g:j8 V jF F F'):∀{l:jy},ot S d tg cond it l V F e->ot S d tg cond it l jF F' e
 |[],h=>λa b J fs R s A c=>h a b J fs R s A (g.trans c)
 |_::_,h=>λa b J fs R s A c=>h a b J fs R s A (g.trans c)
def mj.toT{tg:Expr}{cond:jW->Prop}{it:ae}:∀{l:jy}{V:jj}{F:jn}{a:mO},mj S d cond it l V F a->ot S d tg cond it l V F a
 |[],V,F,a,h=>h
 |av::l,V,F,a,h=>λjF F' J fs R s A g fa f H=>ai (h jF F' J fs R s A g fa f H) (λr i p=>by obtain⟨v,b,c,iL,rfl,j,k,m,n,o⟩:=p;exact⟨v,rfl,n b c J fs R i A _ _ tg (.refl _ _) m λe_ q=>⟨b,c,iL,j,k,q,mj.toT o⟩⟩) λ_ _ e=>e
structure Wl (S:Sys) (d:Nat) (tg:Expr) (cond:jW->Prop) (it:ae) (l:jy) (V:jj) (F:jn) (R':mO):Prop where
 self:∀(jF:jj) (F':jn) (J:jW) (fs:jS) (R:mO) (s:aj) (A:bO) (Q:nz) (E:nz),j8 V jF F F'->cond J->j4 S jF F' J fs (R'++R) s->Q it s->kY S A (pyIter it) Q E s
 next:ot S d tg cond it l V F R'
def vF (S:Sys)(d:Nat)(tg:Expr)(V:jj)(F:jn)(fs:jS)(R:mO)(K:jy->(jW->Prop)->jW->Prop)(it:ae)(s:aj):Prop:=∃jF F' R' g_ l cond,j8 V jF F F'/\j4 S jF F' g_ fs (R'++R) s/\cond g_/\Wl S d tg cond it l jF F' R'/\K l cond g_
def wQ.toT{tg:Expr}{K:jy->(jW->Prop)->jW->Prop}{it:ae}(h:wQ S d V F fs R K it s):vF S d tg V F fs R K it s:=let ⟨a,b,c,e,l,i,g,H,f,I,k⟩:=h;⟨a,b,c,e,l,i,g,H,f,⟨I.self,I.next.toT⟩,k⟩
def vF.grow(g:j8 V jF F F')(h:vF S d tg jF F' fs R K it s):vF S d tg V F fs R K it s:=let ⟨a,b,c,e,l,i,f,r⟩:=h;⟨a,b,c,e,l,i,g.trans f,r⟩
abbrev Rj:=nW->Expr->Expr->j9->jW->(jy->(jW->Prop)->jW->Prop)->KX->Prop
def xF (S:Sys)(d:Nat)(fJ:Rj):Prop:=∀c tg e Y J K X,fJ c tg e Y J K X->∀(V:jj) (F:jn) (f:ma) (fs:jS) (R:mO) (s:aj) (A:bO),kj d true (f::fs) A->c.calm=true->nC c f->f.vars=Y->j4 S V F J (f::fs) R s->
 kY S A (eval e f.env) (λx jw=>kY S A (pyIter x) (vF S d tg V F (f::fs) R K) (oW S V F (f::fs) R X) jw) (oW S V F (f::fs) R X) s
def GS{a:D5}(b:qO S d a)(fa:kj d true fs A)(H:j4 S V F J fs R s)(r:kQ V F v av)(h:oX a av J K):
  kY S A (pyIter v) (wQ S d V F fs R K) E s:=by
 unfold oX at h;rcases o0 h with⟨⟨l,cond⟩,e,k⟩|h
 .refine ai (qp (d:=d) H r e) (λit j p=>?_) λ_ _ e=>e;have⟨jF,F',c,g,f,i,I⟩:=p;exact⟨jF,F',c,J,l,cond,g,f,i,I,k⟩
 .exact b av J K h V F fs R s A v E fa H r
def yW (b_ jh:dF):dF:={b_ with names:=b_.names.map λ(n,k)=>if(k==.free&&jh.kind==.function&&jh.names.lookup n==some .cell)then(n,.cell)else(n,k)}
def qr (b_:dF)(Y:j9):j9:=b_.names.filterMap λp=>if p.2==.free then(Y.lookup p.1).map λa=>(p.1,a)else none
def qa (b_:dF):jK:=(b_.names.filter λp=>p.2==.cell).map (·.1)
def lM:List (Str×cF)->aY
 |[]=>true
 |p::r=>!(r.any λq=>q.1==p.1)&&lM r
def Cw (b_ jh:dF):aY:=b_.kind==.function&&lM b_.names&&b_.names.all λp=>p.2 !=.free||m5 p.1 (jh.names.lookup p.1)
def Cx (c:nW)(b_:dF):nW:={scope:=yW b_ c.scope,code:=c.code,JT:=qa b_,calm:=c.calm,fn:=false}
def uP(h:env.scope=c.scope):relabel b_ env=yW b_ c.scope:=by unfold relabel yW;simp only[Env.kindOf,h]
def kR (c_:List (Str×cF))(env:Env):lB->lB
 :=λf_=>c_.foldl (λcs p=>if p.2==.free then(match env.cells.lookup p.1 with|some a=>(p.1,a)::cs|none=>cs)else cs) f_
def qP{env:Env}:∀(c_:List (Str×cF)) (f_:lB),(∀p∈c_,p.2=.free->∃a,env.cells.lookup p.1=some a)->
  (forIn c_ f_ λ(x:Str×cF) (d:lB)=>if(x.2==NameKind.free)=true then(do let a <-cellOf env x.1;pure (ForInStep.yield ((x.1,a)::d)))else pure (ForInStep.yield d):Sem _)=pure (kR c_ env f_)
 |[],f_,_=>by rw[dW];rfl
 |(n,k)::r,f_,h=>by
  rw[cW];unfold kR;rw[eX];by_cases b:(k==NameKind.free)=true
  .have⟨a,e⟩:=h (n,k) (.head _) (by simpa using b);simp only[b,dR,cellOf,e];rw[pure_bind,pure_bind];exact qP r _ λp c=>h p (.tail _ c)
  .simp only[b,au,bD];rw[pure_bind];exact qP r _ λp c=>h p (.tail _ c)
def qQ(h:∀p∈b_.names,p.2=.free->∃a,env.cells.lookup p.1=some a):closureFor b_ env=pure (kR b_.names env []):=by unfold closureFor;have:=qP (env:=env) b_.names [] h;simp only[bind_pure];rw[<-this]
def qb{env:Env}:∀{c_:List (Str×cF)}{f_:lB}{x:Str}{a:iJ},(x,a)∈kR c_ env f_->(x,a)∈f_∨((x,NameKind.free)∈c_/\env.cells.lookup x=some a)
 |[],_,_,_,h=>.inl h
 |(n,k)::r,f_,x,a,h=>by
  unfold kR at h;rw[eX]at h;rcases qb (c_:=r) h with h|⟨c,d⟩
  .split at h
   .rename_i f;split at h
    .rename_i b g;rcases af.mp h with e|h
     .cases e;have:k=.free:=by simpa using f
      exact .inr ⟨this▸.head _,g⟩
     .exact .inl h
    .exact .inl h
   .exact .inl h
  .exact .inr ⟨.tail _ c,d⟩
def rY{env:Env}:∀{c_:List (Str×cF)}{f_:lB}{x:Str},((x,NameKind.free)∈c_/\(∃a,env.cells.lookup x=some a))∨(∃a,(x,a)∈f_)->∃a,(x,a)∈kR c_ env f_
 |[],_,_,h=>h.elim (λh=>absurd h.1 (by simp)) id
 |(n,k)::r,f_,x,h=>by
  unfold kR;rw[eX];apply rY (c_:=r);rcases h with⟨h1,a,b⟩|⟨a,h⟩
  .rcases af.mp h1 with e|h1
   .cases e;refine .inr ⟨a,?_⟩;simp only[b];exact .head _
   .exact .inl ⟨h1,a,b⟩
  .refine .inr ⟨a,?_⟩;split
   .split
    .exact .tail _ h
    .exact h
   .exact h
def kj.comp{cf:ma}(h:kj d iK fs A)(a:cf.isFn=false):kj d iK (cf::fs) A:=by refine⟨h.depth,h.units,?_,h.guards,h.calm⟩;rw[h.frames];unfold ls;rw[cL,aA (by rw[a];decide)]
def GT{c:lB}{Q:Env->aj->Prop}
  (h:Q {scope:=b_,locals:=s.heap.objs.size,globals:=env.globals,cells:=cellsFrom (s.heap.objs.size+1) b_.names c,qual:=env.qual,func:=none,code:=env.code,frame:=env.frame,builtins:=env.builtins}
   {s with heap:=pushCells (s.heap.push {cls:=.type "dict",data:=.dict #[]}) b_.names}):
  wpAny M A (newFunctionEnv b_ env.globals c [] env.qual none .none (some env)) Q E s:=by
 simp only[newFunctionEnv,Option.isSome_some,dR];refine G (iq ?_);refine G (wpAny_layCells _ (λname a d=>by cases b:a==NameKind.cell<;>simp[b]) _ _ _ _ ?_);rw[show({s with heap:=s.heap.push {cls:=.type "dict",data:=.dict #[]}}:aj).heap.objs.size=s.heap.objs.size+1 from bY ..];apply G;rw[dW];exact ac (ac h)
def qR:∀{c_:List (Str×cF)}{n:Nat}{f_:lB}{x:Str}{a:iJ},(x,a)∈cellsFrom n c_ f_->(x,a)∈f_∨((x,NameKind.cell)∈c_/\n<=a)
 |[],_,_,_,_,h=>.inl h
 |(y,k)::r,n,f_,x,a,h=>by
  unfold cellsFrom at h;split at h
  .rename_i d;rcases qR (c_:=r) h with h|⟨b,c⟩
   .rcases af.mp h with e|h
    .cases e;have:k=.cell:=by simpa using d
     exact .inr ⟨this▸.head _,ao _⟩
    .exact .inl h
   .exact .inr ⟨.tail _ b,by omega⟩
  .rcases qR (c_:=r) h with h|⟨b,c⟩
   .exact .inl h
   .exact .inr ⟨.tail _ b,c⟩
def lh:∀{c_:List (Str×cF)}{n:Nat}{f_:lB}{x:Str},((x,NameKind.cell)∈c_)∨(∃a,(x,a)∈f_)->∃a,(x,a)∈cellsFrom n c_ f_
 |[],_,_,_,h=>h.elim (λh=>absurd h (by simp)) id
 |(y,k)::r,n,f_,x,h=>by
  unfold cellsFrom;rcases h with h|⟨a,h⟩
  .rcases af.mp h with e|h
   .cases e;rw[aB (by rfl)];exact lh (.inr ⟨n,.head _⟩)
   .split
    .exact lh (.inl h)
    .exact lh (.inl h)
  .split
   .exact lh (.inr ⟨a,.tail _ h⟩)
   .exact lh (.inr ⟨a,h⟩)
def qS:∀(c_:List (Str×cF)) (h:cj) (f_:lB),(∀p∈f_,p.2<h.objs.size)->f_.Pairwise (λx y=>x.2≠y.2)->
  (cellsFrom h.objs.size c_ f_).Pairwise (λx y=>x.2≠y.2)/\(∀p∈cellsFrom h.objs.size c_ f_,p∈f_∨(h.objs.size<=p.2/\(pushCells h c_).IsCell p.2 none))
 |[],h,f_,_,hp=>⟨hp,λp hp=>.inl hp⟩
 |(y,k)::r,h,f_,a,hp=>by
  unfold cellsFrom pushCells;split
  .have b:=qS r (h.push {cls:=.type "cell",data:=.cell none}) ((y,h.objs.size)::f_) (λp hp=>by
    rw[bY];rcases af.mp hp with rfl|hp
    .exact gP _
    .exact gy (a p hp)) (f9.mpr ⟨λq c=>fg (a q c),hp⟩)
   rw[bY]at b;refine⟨b.1,λp hp=>?_⟩;rcases b.2 p hp with h1|⟨h1,d⟩
   .rcases af.mp h1 with rfl|h1
    .exact .inr ⟨ao _,⟨_,fQ _ _ _ _ (am _ rfl),rfl⟩⟩
    .exact .inl h1
   .exact .inr ⟨by omega,d⟩
  .exact qS r h f_ a hp
def ut{l:lB}(b:l.Pairwise λx y=>x.2≠y.2)(c:l.lookup x=some a)(d:l.lookup y=some a):x=y:=name_of_addr b (mem_of_lookup c) (mem_of_lookup d)
def mE:∀{l:lB}{x:Str}{a:iJ},(x,a)∈l->∃b,l.lookup x=some b
 |(y,b)::r,x,a,h=>by
  rw[kh];by_cases c:x=y
  .rw[aB c];exact⟨_,rfl⟩
  .rw[aA c];rcases af.mp h with e|h
   .cases e;exact absurd rfl c
   .exact mE h
def nq:∀{l:List (Str×cF)}{x:Str}{k:cF},lM l=true->(x,k)∈l->l.lookup x=some k
 |(y,a)::r,x,k,h,m=>by
  simp only[lM,aJ,bJ,dh,aG]at h;rw[kh];rcases af.mp m with e|m
  .cases e;rw[aB rfl]
  .rw[aA λe=>h.1 _ m e];exact nq h.2 m
def sH{jh:dF}:∀{c_:List (Str×cF)}{x:Str},
  (c_.map λ(n,k)=>if(k==NameKind.free&&jh.kind==.function&&jh.names.lookup n==some .cell)then(n,NameKind.cell)else(n,k)).lookup x=
   (c_.lookup x).map λk=>if(k==NameKind.free&&jh.kind==.function&&jh.names.lookup x==some .cell)then NameKind.cell else k
 |[],_=>rfl
 |(n,k)::r,x=>by
  rw[bg];have b:=sH (jh:=jh) (c_:=r) (x:=x);by_cases a:x=n
  .subst a;dsimp only;split<;>simp_all [cZ]
  .have c:(x==n)=false:=beq_eq_false_iff_ne.mpr a;dsimp only;split<;>simp only[cZ,c,b]
def td{b_:dF}{Y:j9}:∀{c_:List (Str×cF)},lM c_=true->∀{x:Str},
  (c_.filterMap λp=>if p.2==.free then(Y.lookup p.1).map λa=>(p.1,a)else none).lookup x=if c_.lookup x=some .free then Y.lookup x else none
 |[],_,x=>by simp
 |(n,k)::r,h,x=>by
  have h':=h;simp only[lM,aJ,bJ,dh,aG]at h';have c:=td (b_:=b_) (Y:=Y) (c_:=r) h'.2 (x:=x);have m:x=n->r.lookup x=none:=λe=>by
   cases q:r.lookup x with
   |none=>rfl
   |some j=>
    have:∀{l:List (Str×cF)},l.lookup x=some j->(x,j)∈l:=λ{l}=>by
     induction l with
     |nil=>intro h;cases h
     |cons p t c=>
      intro h;rw[kh]at h;split at h
      .rename_i e;cases h;subst e;exact .head _
      .exact .tail _ (c h)
    exact absurd e (h'.1 _ (this q))
  rw[bQ];by_cases f:x=n
  .subst f;have o:=m rfl;rw[o]at c;rw[kh,aB rfl];by_cases g:k=.free
   .subst g;simp only[bW,dR];cases i:Y.lookup x with
    |none=>simp only[Option.map_none];rw[c];simp
    |some a=>simp only[fR];rw[kh,aB rfl]
   .have:(k==NameKind.free)=false:=by simpa using g
    simp only[this,au,bD];rw[c];simp[g]
  .rw[kh,aA f];split
   .exact c
   .rename_i b d;have:b.1=n:=by
     split at d
     .cases i:Y.lookup n with
      |none=>rw[i]at d;cases d
      |some a=>rw[i]at d;cases d;rfl
     .cases d
    have⟨s,u⟩:=b;simp only at this;subst this;rw[kh,aA f];exact c
def sI{env:Env}(g:∀x y a,env.cells.lookup x=some a->env.cells.lookup y=some a->x=y):∀(c_:List (Str×cF)) (f_:lB),lM c_=true->
  (∀p∈f_,env.cells.lookup p.1=some p.2/\∀q∈c_,q.1≠p.1)->f_.Pairwise (λx y=>x.2≠y.2)->(kR c_ env f_).Pairwise (λx y=>x.2≠y.2)
 |[],f_,_,_,h=>h
 |(n,k)::r,f_,i,b,h=>by
  simp only[lM,aJ,bJ,dh,aG]at i;unfold kR;rw[eX];have c:=λl=>sI g r l i.2;unfold kR at c;have keep:∀p∈f_,env.cells.lookup p.1=some p.2/\∀q∈r,q.1≠p.1:=λp f=>⟨(b p f).1,λq d=>(b p f).2 q (.tail _ d)⟩
  split
  .split
   .rename_i a e;refine c _ (λp f=>?_) (f9.mpr ⟨λq d m=>?_,h⟩)
    .grind
    .have j:=(b q d).1;have o:=m;rw[<-o]at j;exact(b q d).2 (n,k) (.head _) (g _ _ _ e j)
   .exact c _ keep h
  .exact c _ keep h
def uQ(h:lM b_.names=true)(x:Str):(qr b_ Y).lookup x=if b_.names.lookup x=some .free then Y.lookup x else none:=by unfold qr;exact td (b_:=b_) h
def Cy{Q:Env->aj->Prop}(X:j4 S V F J (f::fs) R s)(u:nC c f)(hv:f.vars=Y)(ok:Cw b_ c.scope=true)
  (q:∀env cf W,{env with scope:=relabel b_ f.env}=cf.env->j4 S V F J (cf::f::fs) R W->nC (Cx c b_) cf->cf.vars=qr b_ Y->cf.isFn=false->Q env W):
  wpAny M A (newFunctionEnv b_ f.env.globals (kR b_.names f.env []) [] f.env.qual none .none (some f.env)) Q E s:=by
 have T:=X.top;simp only[Cw,aJ,aZ,cz,dC,iI,aG]at ok;have⟨⟨rj,r⟩,Zf⟩:=ok;have hk:∀y,f.env.kindOf y=c.scope.names.lookup y:=λy=>by show f.env.scope.names.lookup y=_;rw[u.1]
 have N:∀p∈b_.names,p.2=.free->∃a v,f.env.cells.lookup p.1=some a/\a∈f.own++pC fs/\s.heap.IsCell a v/\n9 V F v (f.vars.lookup p.1):=λp g hf=>by
  rcases Zf p g with h|h
  .exact absurd hf h
  .exact T.cells p.1 (by rw[hk];exact h)
 have Z:∀p∈kR b_.names f.env [],p.2<(s.heap.push {cls:=.type "dict",data:=.dict #[]}).objs.size:=λp g=>by
  rcases qb (x:=p.1) (a:=p.2) g with h|⟨l,i⟩
  .cases h
  .have⟨a,v,j,_,C,_⟩:=N _ l rfl;rw[i]at j;cases j;rw[bY];exact gy C.lt
 have O:=sI (env:=f.env) T.apart b_.names [] r (λp g=>by cases g) .nil;have⟨pw,D⟩:=qS b_.names (s.heap.push {cls:=.type "dict",data:=.dict #[]}) (kR b_.names f.env []) Z O;rw[bY]at pw D;have hC:=am s.heap (o:={cls:=.type "dict",data:=.dict #[]}) rfl;have k1:∀b o,s.heap.get? b=some o->(s.heap.push {cls:=.type "dict",data:=.dict #[]}).get? b=some o:=λb o e=>ad _ e;have k2:∀b o,s.heap.get? b=some o->(pushCells (s.heap.push {cls:=.type "dict",data:=.dict #[]}) b_.names).get? b=some o:=λb o e=>fQ _ _ b o (k1 b o e);generalize G:cellsFrom (s.heap.objs.size+1) b_.names (kR b_.names f.env [])=iR at *;have I:∀{x a},(x,a)∈iR->((x,NameKind.free)∈b_.names/\f.env.cells.lookup x=some a/\(x,a)∈kR b_.names f.env [])∨((x,NameKind.cell)∈b_.names/\s.heap.objs.size+1<=a):=λ{x a} h=>by
  rw[<-G]at h;rcases qR h with h|h
  .rcases qb h with h'|h'
   .cases h'
   .exact .inl ⟨h'.1,h'.2,h⟩
  .exact .inr h
 apply GT;rw[G];refine q _ ⟨{scope:=relabel b_ f.env,locals:=s.heap.objs.size,globals:=f.env.globals,cells:=iR,qual:=f.env.qual,func:=none,code:=f.env.code,frame:=f.env.frame,builtins:=f.env.builtins},qr b_ Y,
  s.heap.objs.size::(iR.filter λp=>decide (s.heap.objs.size+1<=p.2)).map (·.2)⟩ _ rfl ?_ ?_ rfl ?_
 .
  have Rk:∀x,Env.kindOf {scope:=relabel b_ f.env,locals:=s.heap.objs.size,globals:=f.env.globals,cells:=iR,qual:=f.env.qual,func:=none,code:=f.env.code,frame:=f.env.frame,builtins:=f.env.builtins} x=
    (b_.names.lookup x).map λk=>if(k==NameKind.free&&c.scope.kind==.function&&c.scope.names.lookup x==some .cell)then NameKind.cell else k:=λx=>by
   rw[uP u.1];exact sH
  have Mi:∀p∈iR,s.heap.objs.size+1<=p.2->(pushCells (s.heap.push {cls:=.type "dict",data:=.dict #[]}) b_.names).IsCell p.2 none:=λp g w=>by
   rcases D p g with h|h
   .have:=Z p h;rw[bY]at this;exact absurd w (Nat.not_le_of_lt this)
   .exact h.2
  refine X.push (t:=s.toks) k2 (λa ha=>?_) (λa ha=>?_) ?_ ⟨⟨_,(Heap.Ns.new s.heap (.type "dict")).keeps (fQ _ _),λx d=>?_⟩,λx d=>?_,.head _,λx a d=>?_,?_,?_,λx y a l i=>ut pw l i⟩
  .rcases af.mp ha with rfl|ha
   .exact aq (ao _)
   .obtain⟨p,g,rfl⟩:=aM.mp ha;have:=(aD.mp g).2;exact aq (by have:=fh this;omega)
  .rcases af.mp ha with rfl|ha
   .exact⟨_,fQ _ _ _ _ hC⟩
   .obtain⟨p,g,rfl⟩:=aM.mp ha;have⟨g,w⟩:=aD.mp g;have⟨o,P,_⟩:=Mi p g (fh w);exact⟨o,P⟩
  .grind
  .
   rw[Rk]at d;rw[uQ r];cases n:b_.names.lookup x with
   |none=>rw[n]at d;cases d
   |some k=>
    rw[n]at d;have:k=.local:=by grind
    subst this;rw[aA (by decide)];trivial
  .
   have d:=nV d;rw[Rk]at d;cases n:b_.names.lookup x with
   |none=>rw[n]at d;cases d
   |some k=>
    rw[n]at d;have z:=mem_of_lookup n;have SX:k=.free∨k=.cell:=by simp only[fR]at d;cases k<;>simp_all [mZ]
    rcases SX with rfl|rfl
    .have⟨a,v,j,K,C,e4⟩:=N _ z rfl;obtain⟨b,H⟩:∃b,(x,b)∈iR:=by rw[<-G];exact lh (.inr (rY (.inl ⟨z,a,j⟩)))
     have⟨B,m⟩:=mE H;rcases I (mem_of_lookup m)with⟨_,i,_⟩|⟨l,_⟩
     .simp only at j;rw[i]at j;cases j;refine⟨_,v,m,ag _ K,C.keeps k2,?_⟩;rw[uQ r,n,aB rfl,<-hv];exact e4
     .have:=nq r l;rw[n]at this;cases this
    .obtain⟨b,H⟩:∃b,(x,b)∈iR:=by rw[<-G];exact lh (.inl z)
     have⟨B,m⟩:=mE H;rcases I (mem_of_lookup m)with⟨l,_⟩|⟨_,i⟩
     .have:=nq r l;rw[n]at this;cases this
     .refine⟨B,none,m,aH _ (.tail _ (aM.mpr ⟨(x,B),aD.mpr ⟨mem_of_lookup m,cH i⟩,rfl⟩)),Mi _ (mem_of_lookup m) i,?_⟩;rw[uQ r,n,aA (by decide)];trivial
  .
   rcases I (mem_of_lookup d)with⟨l,i,_⟩|⟨_,i⟩
   .have⟨a',v,j,_,C,_⟩:=N _ l rfl;simp only at j;rw[i]at j;cases j;exact dM C.lt
   .exact fg (Nat.lt_of_succ_le i)
  .show(relabel b_ f.env).kind=_;rw[uP u.1];exact rj
  .have⟨L,U,e⟩:=T.fr;exact⟨L,ag _ U,e⟩
 .
  refine⟨uP u.1,u.2.1,u.2.2.1,u.2.2.2.1,λx d=>?_,λe=>nomatch e⟩;obtain⟨p,g,rfl⟩:=aM.mp d;have⟨YE,Rl⟩:=aD.mp g;have PE:p.2=.cell:=by simpa using Rl
  have z:(p.1,NameKind.cell)∈b_.names:=PE▸YE;obtain⟨b,H⟩:∃b,(p.1,b)∈iR:=by rw[<-G];exact lh (.inl z)
  have⟨B,m⟩:=mE H;rcases I (mem_of_lookup m)with⟨l,_⟩|⟨_,i⟩
  .have j:=nq r l;have K:=nq r z;rw[j]at K;cases K
  .exact⟨B,m,.tail _ (aM.mpr ⟨(p.1,B),aD.mpr ⟨mem_of_lookup m,cH i⟩,rfl⟩)⟩
 .have⟨L,U,e⟩:=T.fr;show(f.env.frame==some s.heap.objs.size)=false;rw[e];have:L≠s.heap.objs.size:=λq=>by
   have⟨o,P⟩:=X.there L (by
    rcases ba.mp U with h|h
    .exact ag _ (aH _ (aH _ h))
    .exact ag _ (aH _ (ag _ h)))
   have:=ck P;rw[q]at this;exact eB _ this
  simpa using this
def m9 (c:nW)(x:Str):aY:=x !=("__class__":Str)&&match c.scope.names.lookup x with
 |some .local=>true
 |some .cell=>c.JT.contains x
 |_=>false
def Pd:Expr->az Str
 |.Name x _=>some x
 |_=>none
def Bp(h:Pd e=some x):∃p,e=.Name x p:=by cases e<;>first|(cases h;exact⟨_,rfl⟩)|cases h
def pF (c:nW):j5->jy->j9->az j9
 |[],[],Y=>some Y
 |e::es,a::l,Y=>match Pd e with
  |some x=>if m9 c x=true then pF c es l ((x,a)::Y)else none
  |none=>none
 |_,_,_=>none
def yZ (c:nW):Expr->AV->j9->az j9
 |.Name x _,a,Y=>if m9 c x=true then some ((x,a)::Y)else none
 |.Tuple es _ _,.tup l,Y=>if c.calm=true then pF c es l Y else none
 |.Tuple es _ _,.lst l,Y=>if c.calm=true then pF c es l Y else none
 |_,_,_=>none
def m_{a:AV}{Q:Unit->aj->Prop}(g:nC c f)(b:m9 c x=true)(H:j4 S V F J (f::fs) R s)(r:kQ V F v a)
  (q:∀h,j4 S V F J ({f with vars:=(x,a)::f.vars}::fs) R h->Q () h):wpAny M A (storeName f.env x v) Q E s:=by
 unfold m9 at b;have⟨d,b⟩:=(aJ _ _).mp b;refine LY (by simpa [bne]using d) H ?_ r q;have i:f.env.kindOf x=c.scope.names.lookup x:=by show f.env.scope.names.lookup x=_;rw[g.1]
 rw[i];split at b
 .rename_i e;exact .inl e
 .rename_i e;have⟨a,j,k⟩:=g.2.2.2.2.1 x (by simpa using b);exact .inr ⟨e,a,j,k⟩
 .cases b
def A2:∀{es:j5}{l:jy}{Y b:j9},pF c es l Y=some b->∀env,(assignEach es env).findIdx? (·.1)=none/\(assignEach es env).length=l.length:=by
 intro es;induction es with
 |nil=>
  intro l Y b e env;cases l with
  |nil=>exact⟨rfl,rfl⟩
  |cons a l=>cases e
 |cons t es d=>
  intro l Y b e env;cases l with
  |nil=>cases e
  |cons a l=>
   unfold pF at e;split at e
   .rename_i x f;split at e
    .obtain⟨p,rfl⟩:=Bp f;have⟨g,h⟩:=d e env;have i:assignEach (.Name x p::es) env=(false,assign (.Name x p) env)::assignEach es env:=rfl
     grind
    .cases e
   .cases e
def A3{Q:Unit->aj->Prop}{own:jj}:∀{es:j5}{l:jy}{vs:jr}{Y:j9}{s:aj}{b:j9},nC c ⟨env,Y,own⟩->j4 S V F J (⟨env,Y,own⟩::fs) R s->jV V F vs l->
  pF c es l Y=some b->(∀d,j4 S V F J (⟨env,b,own⟩::fs) R d->Q () d)->wpAny M A (assignInOrder ((assignEach es env).map (·.2)) vs) Q E s:=by
 intro es;induction es with
 |nil=>
  intro l vs Y s b f H r e q;cases l with
  |nil=>cases r;cases e;exact ac (q _ H)
  |cons a l=>cases e
 |cons t es g=>
  intro l vs Y s b f H r e q;cases l with
  |nil=>cases e
  |cons a l=>
   unfold pF at e;split at e
   .rename_i x h;split at e
    .rename_i i;obtain⟨p,rfl⟩:=Bp h;cases r with
     |cons j k=>have m:assignEach (.Name x p::es) env=(false,assign (.Name x p) env)::assignEach es env:=rfl;rw[m,bg];exact G (aF (eK (m_ f i H j λd n=>g (Y:=(x,a)::Y) f n k e q)))
    .cases e
   .cases e
def y_{cond:jW->Prop}{it:ae}{Q:jr->aj->Prop}{E:nz}(fa:kj 0 true fs A)(c:cond J):
  ∀{l:jy}{V:jj}{F:jn}{a:mO}{s:aj},mj S 0 cond it l V F a->j4 S V F J fs (a++R) s->
   (∀vs jF F' d e,j8 V jF F F'->jV jF F' vs l->j4 S jF F' J fs (d++R) e->mj S 0 cond it [] jF F' d->Q vs e)->kY S A (draw it l.length) Q E s
 |[],V,F,a,s,b,H,q=>ac (q [] V F a s (.refl _ _) .nil H b)
 |av::l,V,F,a,s,b,H,q=>by
  show wpAny _ A (do
   match <-pyNext it with
   |none=>pure []
   |some v=>return v::(<-holding [v] (draw it l.length))) Q E s
  refine G (ai (b V F J fs R s A (.refl _ _) fa c H) (λr w g=>?_) λ_ _ h=>h.elim);obtain⟨v,x,y,iL,rfl,i,j,k,_,m⟩:=g;refine G (aF (y_ fa c m k λvs n o iS e_ f p t u=>?_));exact ac (q (v::vs) n o iS e_ (i.trans f) (.cons (j.mono f) p) t u)
def vG{Q:jr->aj->Prop}(fa:kj 0 true fs A)(H:j4 S V F J fs R s)(r:kQ V F v av)(g:av=.tup l∨av=.lst l)(m:n=l.length)
  (q:∀vs jF F' a,j8 V jF F F'->jV jF F' vs l->j4 S jF F' J fs R a->Q vs a):kY S A (unpackItems v n none) Q E s:=by
 subst m;have hi:rX av J=some (l,λ_=>True):=by rcases g with rfl|rfl<;>rfl
 have it:kY S A (notIterableAtAll v) (λb a=>b=false/\a=s) E s:=by
  unfold notIterableAtAll;rcases g with rfl|rfl
  .cases r with
   |tup c f d1 p=>exact G (cA ⟨_,H.lw _ _ c,f⟩ PySem.F.slot_tuple_iter.lookup (ac ⟨rfl,rfl⟩))
  .cases r with
   |lst c f d1 p=>exact G (cA ⟨_,H.lw _ _ c,f⟩ slot_list_iter.lookup (ac ⟨rfl,rfl⟩))
 unfold unpackItems;refine G (ai it (λb a h=>?_) λ_ _ e=>e);obtain⟨rfl,rfl⟩:=h;simp only[au,bD];refine G (aF (ai (qp (d:=0) H r hi) (λit O t=>?_) λ_ _ e=>e));have⟨P,T,iL,u,w,i,I⟩:=t;refine G (aF (y_ fa i I.next w λvs x y iS e_ z j B C=>?_));rw[aA (by rw[j.length];exact eB _)];refine G (aF (ai (C x y J fs R e_ A (.refl _ _) fa i B) (λo D K=>?_) λ_ _ h=>h.elim));obtain⟨rfl,L,M,k,N⟩:=K;simp only[gd,au,bD];exact ac (q vs L M D ((u.trans z).trans k) (j.mono k) N)
def uS{a:AV}{i:j9}{Q:Unit->aj->Prop}(fa:kj d c.calm (f::fs) A)(o:nC c f)(H:j4 S V F J (f::fs) R s)(r:kQ V F v a)
  (e:yZ c target a f.vars=some i) (q:∀jF F' b,j8 V jF F F'->j4 S jF F' J ({f with vars:=i}::fs) R b->Q () b):kY S A (assign target f.env v) Q E s:=by
 have g:∀es k p l,(a=.tup l∨a=.lst l)->c.calm=true->pF c es l f.vars=some i->kY S A (assign (.Tuple es k p) f.env v) Q E s:=λes k p l t h e=>by have⟨j,m⟩:=A2 e f.env;rw[arm_assign_Tuple];unfold unpack;rw[j,m];refine G (bR (G (aF (vG (h▸fa.less (cg _)) H r t rfl λvs u w C x y z=>?_))));exact A3 (env:=f.env) (own:=f.own) o z y e λb n=>q u w b x n
 unfold yZ at e;split at e
 .split at e
  .rename_i B;cases e;exact eK (m_ o B H r λb n=>q V F b (.refl _ _) n)
  .cases e
 .split at e
  .rename_i h;exact g _ _ _ _ (.inl rfl) h e
  .cases e
 .split at e
  .rename_i h;exact g _ _ _ _ (.inr rfl) h e
  .cases e
 .cases e
def uT (fE:rT)(fI:D5):Rj:=λc tg e Y J K X=>fE c e Y J (λit iT=>oX fI it iT K) X
def pG{b:rT}{g:D5}(i:l7 S d b)(j:qO S d g):xF S d (uT b g):=by intro c tg e Y J K X h V F f fs R s A fa k l m H;refine wp_mono (i c e Y J _ X h V F f fs R s A (k▸fa) l m H) λt u v a w x n o q r=>?_;exact ai (GS j fa o q r) (λit e_ p=>p.toT.grow n) λ_ _ e=>e
section
variable {jR:dq->jr->kr->Prop}{B:wG}{V jF:jj}{F F':jn}{J:lH}{fs:jS}{f:ma}{R:mO}{s:aj}
def oA:∀{fs:jS}{a:iJ},a∈lK fs->a∈fs.map (λf=>f.env.locals)
 |f::r,a,m=>by
  unfold lK ls at m;rw[cL]at m;split at m
  .rename_i b;rw[bg,bQ,aG.mp b]at m;rcases af.mp m with rfl|m
   .exact .head _
   .exact .tail _ (oA (fs:=r) m)
  .exact .tail _ (oA (fs:=r) m)
def vH{h:cj}:∀{fs:jS},mK V F h fs->∀{a:iJ},a∈fs.map (λf=>f.env.locals)->a∈pC fs
 |f::r,⟨x,y⟩,a,m=>by
  rcases af.mp m with rfl|m
  .exact aH _ x.loc
  .exact ag _ (vH y m)
def rZ{h b:cj}:∀{fs:jS},mK V F h fs->(∀a∈lK fs,b.get? a=none)->h.FunFrames b (ls fs)
 |[],_,_=>trivial
 |f::r,⟨x,y⟩,d=>by
  by_cases c:f.isFn=true
  .have e:ls (f::r)=f.env::ls r:=by unfold ls;rw[cL,aB c];rfl
   have g:lK (f::r)=f.env.locals::lK r:=by unfold lK;rw[e,bQ,aG.mp c]
   rw[e];have⟨_,⟨o,es,k,i,j,_⟩,_⟩:=x.ns;refine⟨by rw[x.kind];decide,⟨_,o,aG.mp c,d _ (by rw[g];exact .head _),i,λvs q=>by rw[j]at q;cases q⟩,rZ y λa m=>d a (by rw[g];exact .tail _ m)⟩
  .have e:ls (f::r)=ls r:=by unfold ls;rw[cL,aA c]
   rw[e];exact rZ y λa m=>d a (by unfold lK;rw[e];exact m)
def Holds.J2(X:Holds jR B V F J fs R s):∀L∈lK fs,F L=none/\B.H.get? L=none/\L∉jT V J/\L∉R.map (·.1):=λL m=>by
 have a:=vH X.frames (oA m);have⟨b,c⟩:=X.new L (ag _ (aH _ a));have⟨_,d,e⟩:=aK.mp X.nd
 grind
variable {M:fL}{A:bO}{E:nz}
def zc{x:ae}{X:XK}{Q:Unit->aj->Prop}(j:A.frames=some (ls (f::fs)))(l:f.isFn=true)(fl:Cq jR B V F J (f::fs) R x X s)
  (q:∀n,Cq jR B V F J fs R x ⟨X.name,true⟩ n->Q () n):wpAny M A (leaving f.env x) Q E s:=by
 obtain⟨h₀,e,rfl,H,st⟩:=fl;have k:ls (f::fs)=f.env::ls fs:=by unfold ls;rw[cL,aB l];rfl
 have p:=aG.mp l;rw[k]at j;have c:=H.J2;rcases st with⟨_,d⟩|⟨_,g,a0,C,D,G,r,u,I⟩
 .obtain⟨ob,t,K,N,O⟩:=d.there;have w:h₀.FunFrames (hideAll h₀ (lK (f::fs))) (ls (f::fs)):=rZ H.frames λa m=>hideAll_none _ m;have y:(hideAll h₀ (lK (f::fs))).StaysIn h₀:=λb o q=>of_hideAll _ q;have h:(hideAll h₀ (lK (f::fs))).get? e=none:=by
   cases P:(hideAll h₀ (lK (f::fs))).get? e with
   |none=>rfl
   |some o=>have:=of_hideAll _ P;rw[d.new]at this;cases this
  rw[k]at w;refine wpAny_leaving_firstW (a0:=t) j (w.of_keeps λb o i _=>⟨o,d.keeps b o i,rfl⟩) p K (λb o i=>d.keeps b o (y b o i)) h O rfl rfl λh' S=>?_;obtain⟨T,⟨_,_,U⟩,z,W⟩:=S;rw[N]at z;exact q _ ⟨h₀,e,rfl,H.pop,.inr ⟨rfl,_,t,lK (f::fs),y,λb o i Y=>hideAll_get _ i Y,⟨T,h,U,z⟩,(Heap.UpToSlots.of_keeps d.keeps).trans W,c,λL m=>xz H.frames L (oA m)⟩⟩
 .rw[k]at r;exact wpAny_leaves_onW j p r λh' Z x2=>q _ ⟨h₀,e,rfl,H.pop,.inr ⟨rfl,g,a0,C,D,G,Z,u.trans x2,I⟩⟩
end
structure sF (B:wG):Prop where
 at_:∀t∈B.tabs,∃Rm,B.H.TableAt t.1 t.2.1 Rm
 uniq:∀t∈B.tabs,∀t'∈B.tabs,t.2.1=t'.2.1->t.1=t'.1
structure tj (B:wG):Prop where
 ex:∃o es n bm ob,B.H.get? mainGlobals=some o/\o.cls≠.none/\o.data=.dict es n/\StrKeys es/\nsFind es "__builtins__"=some (.ref bm)/\bm≠builtinsNs/\B.H.get? bm=some ob/\ob.cls=.type "module"/\ob.dict=some builtinsNs/\ob.data=.plain
def A4{a b:Int}{g tb:Tok}{c d:ae}(l:jr)(h:TriplesOk l)(e:codeAmong pos (l++[.int a g,.int b tb,c])=some d):codeAmong pos l=some d∨d=c:=by
 fun_induction TriplesOk l with
 |case1=>
  simp only[aX,codeAmong]at e;split at e
  .cases e;exact .inr rfl
  .cases e
 |case2 a t b u x iN i=>
  simp only[eS,codeAmong]at e⊢;split at e
  .rename_i f;rw[aB f];exact .inl e
  .rename_i f;rw[aA f];exact i h e
 |case3 l j k=>exact h.elim
def Holds.Ix(H:j4 S V F J fs R s)(K:sF S.B){c P c':iJ}{w:Str}{ps:bM ae}{tk:Nat}(y:(c,P,q)∈S.B.tabs)(qT:s.heap.IsCode c P ps)(L:s.heap.TableAt c P ps)
  (a:Heap.ExtBut P s.heap h') (Wn:s.heap.objs.size<=c') (tm:h'.IsCode c P (ps++#[rawInt pos.line,rawInt pos.col,.ref c'])) (Mk:h'.CodeRec (.ref c') w) (M:h'.TableAt c P (ps++#[rawInt pos.line,rawInt pos.col,.ref c'])):
  ∃o vs t,o.data=.fields vs/\vs[1]?=some (.str w t)/\j4 S V (F.put c' o) J fs R {s with heap:=h',toks:=tk}/\j8 V V F (F.put c' o)/\(F.put c' o) c'=some o:=by
 have⟨c2,o,vs,t,j,ho,N,O⟩:=Mk;cases j;have hn:=aq Wn;have⟨f1,Q,f3⟩:=H.fresh hn;have g:j8 V V F (F.put c' o):=.put V f1;have⟨y1,y2,y3,y4,y5⟩:=H.tabs _ y;have hPc:P≠c':=λe=>by rw[e,Q]at y3;cases y3
 have kF:∀b x,F b=some x->h'.get? b=some x:=λb x e=>a b x (λz=>by rw[z,y2]at e;cases e) (H.lw b x e);have k:∀b∈kz V J fs R,∀x,s.heap.get? b=some x->h'.get? b=some x:=λb m x e=>a b x (λz=>by have:=(H.new b m).2;rw[z]at this;rw[this]at y3;cases y3) e;refine⟨o,vs,t,N,O,{
  base:=λb x e l=>g.fr (H.base b x e l),lw:=λb x e=>?_,old:=?_,lim:=?_,bare:=H.bare,os:=H.os,len:=H.len,nd:=H.nd,new:=λb m=>?_,there:=λb m=>let ⟨x,A⟩:=H.there b m;⟨x,k b m _ A⟩,
  cells:=λi b l j T=>?_,frames:=H.frames.mono g λb m=>k b (ag _ (aH _ m)),res:=λp d=>k _ (ag _ (ag _ (bz d))) _ (H.res p d),
  tabs:=λt' U=>?_,mS:=H.mS},g,jn.lf _ _ _⟩
 .by_cases h:b=c'
  .subst h;rw[jn.lf]at e;cases e;exact ho
  .rw[jn.nB _ _ h]at e;exact kF b x e
 .have⟨Rm,h₀⟩:=K.at_ _ y;exact H.old.step_table h₀ L M a y4
 .have⟨mc,⟨o2,es,ep,ua,r⟩,q2⟩:=H.lim;exact⟨mc,⟨o2,es,ep,a _ _ (λe=>y4 e.symm) ua,r⟩,q2⟩
 .have⟨n,C⟩:=H.new b m;exact⟨(jn.nB _ _ λh=>f3 (by rw[<-h];exact m)).trans n,C⟩
 .by_cases W:l=.dead
  .subst W;trivial
  .exact(H.cells i b l j T).mono g λx=>k b (aH _ (lx j T W)) x
 .have⟨tc,X,tq⟩:=t';have⟨n,C,u,Y,D⟩:=H.tabs _ U;have Z:(F.put c' o tc).isSome=true:=by obtain⟨x,A⟩:=bH.mp D;rw[g.fr A];rfl
  have z2:F.put c' o X=none:=(jn.nB _ _ λh=>by rw[h,Q]at u;cases u).trans C;by_cases d:X=P
  .have hc:=K.uniq _ U _ y d;subst d;subst hc;refine⟨⟨_,tm,M,λZg cv e=>?_⟩,z2,u,Y,Z⟩;have⟨f,i1,i2,i3⟩:=n;have E:f=ps:=by have:=eY (i2.2.symm.trans L.2);injection this with _ _ h3;injection h3
   subst E;have G:TriplesOk f.toList:=by obtain⟨_,_,_,_,_,_,_,_,_,_,_,_,_,_,_,_,_,_,_,z,_⟩:=qT;exact z
   rw[fW]at e;rcases A4 _ G e with e|rfl
   .have⟨c3,o3,I,q3,t3,k1,k2,k3⟩:=i3 Zg cv e;exact⟨c3,o3,I,q3,t3,k1,g.fr k2,k3⟩
   .exact⟨c',o,vs,w,t,rfl,jn.lf _ _ _,N,O⟩
  .refine⟨n.mono (λ_ _ e=>g.fr e) (λx e=>?_) (λx e=>a _ x d e),z2,u,Y,Z⟩;exact a _ x (λz=>by rw[z,y2]at D;cases D) e
end
section
open PySem PySem.SetTable
variable {j i:Nat}{t t':bZ}{p:Probe}{l:List Nat}{α:Type}{h:Int}
section arr
def GD (l:List Nat):Prop:=l.Pairwise (·<·)
def ze(xs:bM Nat)(j:Nat)(h:GD xs.toList):∀(iX lo hi:Nat),lo<=hi->hi<=xs.size->hi-lo<=iX->
  (∀i,i<lo->xs.getD i j<j)->(∀i,hi<=i->i<xs.size->j<=xs.getD i j)->
  lo<=below.go xs j iX lo hi/\below.go xs j iX lo hi<=hi/\(∀i,i<below.go xs j iX lo hi->xs.getD i j<j)/\(∀i,below.go xs j iX lo hi<=i->i<xs.size->j<=xs.getD i j)
 |0,lo,hi,o,_,p,d,f=>by
  obtain rfl:lo=hi:=by omega
  exact⟨ao _,ao _,d,f⟩
 |iX+1,lo,hi,o,s,p,d,f=>by
  have c:∀a b,a<b->b<xs.size->xs.getD a j<xs.getD b j:=by
   intro a b t k;have l:a<xs.size:=by omega
   have:=(dH.mp h) a b (by simpa using l) (by simpa using k) t;simpa [Array.getD,l,k]using this
  unfold below.go;by_cases m:lo<hi
  .simp only[m,dR];have n:(lo+hi) / 2<xs.size:=by omega
   have e:xs.getD ((lo+hi) / 2) j=xs[(lo+hi) / 2]:=by simp[Array.getD,n]
   by_cases g:xs.getD ((lo+hi) / 2) j<j
   .rw[aB g];have r:=ze xs j h iX ((lo+hi) / 2+1) hi (by omega) s (by omega) (λi u=>by
     by_cases q:i=(lo+hi) / 2
     .rw[q];exact g
     .exact Nat.lt_trans (c i _ (by omega) n) g) f
    exact⟨by omega,r.2.1,r.2.2.1,r.2.2.2⟩
   .rw[aA g];have r:=ze xs j h iX lo ((lo+hi) / 2) (by omega) (by omega) (by omega) d (λi u w=>by
     by_cases q:i=(lo+hi) / 2
     .rw[q];omega
     .have:=c ((lo+hi) / 2) i (by omega) w;omega)
    exact⟨r.1,by omega,r.2.2.1,r.2.2.2⟩
  .simp only[m,bD];obtain rfl:lo=hi:=by omega
   exact⟨ao _,ao _,d,f⟩
def uU(xs:bM Nat)(j:Nat)(a:GD xs.toList):below xs j<=xs.size/\(∀i,i<below xs j->xs.getD i j<j)/\(∀i,below xs j<=i->i<xs.size->j<=xs.getD i j):=by have r:=ze xs j a xs.size 0 xs.size (cg _) (ao _) (by omega) (λi h=>absurd h (fU _)) (λi b c=>by omega);exact⟨r.2.1,r.2.2.1,r.2.2.2⟩
def wI(xs:bM Nat)(j:Nat)(a:GD xs.toList):(∃i:Nat,xs[i]?=some j)↔xs[below xs j]?=some j:=by
 have⟨f,k,c⟩:=uU xs j a;constructor
 .rintro⟨i,hi⟩;have⟨b,d⟩:=cr.mp hi;have g:xs.getD i j=j:=by simp[Array.getD,b,d]
  have l:below xs j<=i:=by grind
  have SZ:below xs j<xs.size:=by omega
  have m:=c (below xs j) (ao _) SZ;by_cases q:below xs j=i
  .rw[q];exact hi
  .have e:below xs j<i:=by omega
   have:=(dH.mp a) (below xs j) i (by simpa using SZ) (by simpa using b) e;have n:xs.getD (below xs j) j=xs[below xs j]:=by simp[Array.getD,SZ]
   grind
 .intro h;exact⟨_,h⟩
def qs(xs:bM Nat)(j:Nat)(a:GD xs.toList):has xs j=true↔j∈xs.toList:=by
 unfold has;rw[aG,<-wI xs j a];constructor
 .grind
 .intro h;have⟨i,hi⟩:=aU h
  grind
def Cz(h:GD l){a b:Nat}(e:l[a]?=some j)(f:l[b]?=some j):a=b:=by
 have⟨c,g⟩:=aC.mp e;have⟨d,i⟩:=aC.mp f;rcases gz a b with q|q|q
 .have:=(dH.mp h) a b c d q;omega
 .exact q
 .have:=(dH.mp h) b a d c q;omega
def zf(h:GD l)(o:j∉l)(p:Nat)(f:∀i x,i<p->l[i]?=some x->x<j)(g:∀i x,p<=i->l[i]?=some x->j<=x):GD (l.take p++j::l.drop p):=by
 unfold GD;rw[List.pairwise_append];refine⟨h.sublist (List.take_sublist _ _),?_,?_⟩
 .rw[f9];refine⟨λx m=>?_,h.sublist (List.drop_sublist _ _)⟩;have⟨i,hi⟩:=aU m;rw[c8]at hi;have:=g _ x (by omega) hi
  grind
 .intro a n b hb;have⟨i,hi⟩:=aU n;have⟨c,_⟩:=aC.mp hi;have e:i<p:=by rw[fD]at c;omega
  rw[List.getElem?_take_of_lt e]at hi;have d:=f i a e hi;rcases af.mp hb with rfl|hb
  .exact d
  .have⟨k,q⟩:=aU hb
   grind
def lU(xs:bM α)(p:Nat):(eraseAt xs p).toList=xs.toList.eraseIdx p:=by unfold eraseAt;rw[fW,eN,eN,fz];simp[gn,er]
def zg{xs:bM Nat}(e:xs.toList=l)(h:GD l)(j:Nat):
  below xs j<=l.length/\(∀i x,i<below xs j->l[i]?=some x->x<j)/\(∀i x,below xs j<=i->l[i]?=some x->j<=x):=by
 subst e;have⟨d,f,g⟩:=uU xs j h;refine⟨by simpa using d,λi x hi a=>?_,λi x hi a=>?_⟩
 .rw[ax]at a;have⟨b,c⟩:=cr.mp a;have:=f i hi;simp only[Array.getD,b,iC]at this;simpa [c]using this
 .rw[ax]at a;have⟨b,c⟩:=cr.mp a;have:=g i hi b;simp only[Array.getD,b,iC]at this;simpa [c]using this
end arr
section walk
variable {t:bZ}
def mn (t:bZ):Nat->Probe->Probe
 |0,p=>p
 |n+1,p=>mn t n (t.advance p)
def nb(a b:Nat)(p:Probe):mn t (a+b) p=mn t b (mn t a p):=by
 induction a generalizing p with
 |zero=>simp[mn]
 |succ a c=>rw[show a+1+b=a+b+1 by omega];exact c _
def J3(n:Nat)(p:Probe):mn t (n+1) p=t.advance (mn t n p):=by rw[nb n 1];rfl
def Good (t:bZ)(p:Probe):Prop:=p.more<=9/\p.perturb<2 ^ 64/\p.i<=t.mask/\p.j+p.more<=t.mask
def rz (t:bZ)(p:Probe):Prop:=p.j=p.i/\p.more=runEnd t.mask p.i-p.i
def D6(h:rz t p)(b:p.perturb<2 ^ 64)(hi:p.i<=t.mask):Good t p:=by have⟨c,a⟩:=h;unfold runEnd at a;refine⟨?_,b,hi,?_⟩<;>split at a<;>omega
def Iy(h:Int):bits h<2 ^ 64:=by unfold bits;have a:=Int.emod_lt_of_pos h (show(0:Int)<2 ^ 64 by decide);have b:=Int.emod_nonneg h (show(2 ^ 64:Int)≠0 by decide);omega
def Bq(h:Int):rz t (t.probeStart h):=⟨rfl,rfl⟩
def zh(h:Int):Good t (t.probeStart h):=D6 (Bq h) (Iy h) (by show bits h % (t.mask+1)<=t.mask;have:=hZ (bits h) (show 0<t.mask+1 by omega);omega)
def Mn(h:Good t p):Good t (t.advance p):=by
 have⟨d,b,c,e⟩:=h;unfold advance;by_cases a:p.more>0
 .rw[aB a];exact⟨by dsimp only;omega,b,c,by dsimp only;omega⟩
 .rw[aA a];have q:=hZ (p.i*5+1+p.perturb / 32) (show 0<t.mask+1 by omega);exact D6 ⟨rfl,rfl⟩ (by dsimp only [leap];omega) (by dsimp only [leap];omega)
def rA(n:Nat)(h:Good t p):Good t (mn t n p):=by
 induction n generalizing p with
 |zero=>exact h
 |succ n a=>exact a (Mn h)
def Mo(h:Good t p):∃m,1<=m/\m<=10/\rz t (mn t m p)/\(mn t m p).i=(p.i*5+1+p.perturb / 32) % (t.mask+1)/\(mn t m p).perturb=p.perturb / 32:=by
 have a:∀r (p:Probe),p.more=r->rz t (mn t (r+1) p)/\(mn t (r+1) p).i=(p.i*5+1+p.perturb / 32) % (t.mask+1)/\(mn t (r+1) p).perturb=p.perturb / 32:=by
  intro r;induction r with
  |zero=>intro p b;show rz t (t.advance p)/\(t.advance p).i=_/\(t.advance p).perturb=_;unfold advance;rw[aA (by omega)];exact⟨⟨rfl,rfl⟩,rfl,rfl⟩
  |succ r c=>
   intro p b;have e:t.advance p={p with j:=p.j+1,more:=p.more-1}:=by unfold advance;rw[aB (by omega)]
   have z:=c (t.advance p) (by rw[e];show p.more-1=r;omega);show rz t (mn t (r+1) (t.advance p))/\(mn t (r+1) (t.advance p)).i=_/\(mn t (r+1) (t.advance p)).perturb=_;rw[e]at z⊢;exact z
 exact⟨p.more+1,by omega,by have:=h.1;omega,a p.more p rfl⟩
def Zh (m x:Nat):Nat:=(x*5+1) % (m+1)
def yl (m:Nat):Nat->Nat->Nat
 |0,x=>x
 |n+1,x=>yl m n (Zh m x)
def vI(m a b x:Nat):yl m (a+b) x=yl m b (yl m a x):=by
 induction a generalizing x with
 |zero=>simp[yl]
 |succ a c=>rw[show a+1+b=a+b+1 by omega];exact c _
def Mp{p:Probe}(h:Good t p):∀k,∃m,m<=10*k/\(0<k->rz t (mn t m p))/\(mn t m p).perturb*32 ^ k<=p.perturb
 |0=>⟨0,ao _,λh=>absurd h (eB _),by simp[mn]⟩
 |k+1=>by have⟨m,e,_,a⟩:=Mp h k;have⟨b,f,g,c,_,d⟩:=Mo (rA m h);refine⟨m+b,by omega,λ_=>by rw[nb];exact c,?_⟩;rw[nb,d,Nat.pow_succ,Nat.mul_comm (32 ^ k) 32,<-Nat.mul_assoc];exact bq (fM _ (Nat.div_mul_le_self _ _)) a
def Mq{p:Probe}(h:Good t p)(a:rz t p)(b:p.perturb=0):∀k,∃m,m<=10*k/\rz t (mn t m p)/\(mn t m p).perturb=0/\(mn t m p).i=yl t.mask k p.i
 |0=>⟨0,ao _,a,b,rfl⟩
 |k+1=>by have⟨m,l,n,c,d⟩:=Mq h a b k;have⟨e,o,q,f,g,j⟩:=Mo (rA m h);refine⟨m+e,by omega,by rw[nb];exact f,by rw[nb,j,c],?_⟩;rw[nb,g,c,d,vI];rfl
def Zi (m:Nat):Nat->Nat->List Nat
 |0,_=>[]
 |n+1,x=>x::Zi m n (Zh m x)
def Iz(m:Nat):∀n x j,j∈Zi m n x->∃k,k<n/\yl m k x=j
 |0,_,_,h=>nomatch h
 |n+1,x,j,h=>by
  rcases af.mp h with rfl|h
  .exact⟨0,Nat.succ_pos _,rfl⟩
  .have⟨k,a,e⟩:=Iz m n _ j h;exact⟨k+1,Nat.succ_lt_succ a,e⟩
def IA (m:Nat):aY:=(List.range (m+1)).all (λj=>(Zi m (m+1) 0).contains j)&&yl m (m+1) 0==0
def Mask (m:Nat):Prop:=IA m=true
def Ro:Mask 7:=by unfold Mask;tm_at"d"
def S3:Mask 15:=by unfold Mask;tm_at"d"
def S4:Mask 31:=by unfold Mask;tm_at"d"
def S5:Mask 63:=by unfold Mask;tm_at"d"
def PG:Mask 127:=by unfold Mask;tm_at"d"
def Br{m:Nat}(e:Mask m)(x j:Nat)(h:x<=m)(i:j<=m):∃k,k<=m/\yl m k x=j:=by
 unfold Mask IA at e;have⟨l,d⟩:=db.mp e;have d:=aG.mp d;have c:∀y,y<=m->∃k,k<m+1/\yl m k 0=y:=λy n=>Iz m _ _ _ (by have:=aZ.mp l y (dc.mpr (by omega));simpa using this)
 have⟨a,o,f⟩:=c x h;have⟨b,p,g⟩:=c j i;by_cases q:a<=b
 .refine⟨b-a,by omega,?_⟩;rw[<-f,<-vI,show a+(b-a)=b by omega];exact g
 .refine⟨b+(m+1)-a,by omega,?_⟩;rw[<-f,<-vI,show a+(b+(m+1)-a)=(m+1)+b by omega,vI,d];exact g
def YB(b:Mask t.mask)(h:Good t p)(j:Nat)(c:j<=t.mask):∃m,m<10*turns t.mask/\(mn t m p).j=j:=by
 have⟨m,o,d,q⟩:=Mp h 13;have f:(mn t m p).perturb=0:=by
  have r:=h.2.1
  grind
 have a:=rA m h;have⟨k,s,e⟩:=Br b (mn t m p).i j a.2.2.1 c;have⟨g,u,l,_,n⟩:=Mq a (d (by decide)) f k;refine⟨m+g,by unfold turns;omega,?_⟩;rw[nb,l.1,n,e]
end walk
def D7 (t:bZ)(j:Nat):Prop:=j∈t.place.toList∨j∈t.dummies.toList
structure TabW (t:bZ):Prop where
 inc:GD t.place.toList
 qU:GD t.dummies.toList
 le:∀j∈t.place.toList,j<=t.mask
 Rp:∀j∈t.dummies.toList,j<=t.mask
 LH:∀j∈t.dummies.toList,j∉t.place.toList
 mask:Mask t.mask
 room:t.fill<=t.mask
def sq (t:bZ)(h:Int)(n:Nat):Probe:=mn t n (t.probeStart h)
def Reach(t:bZ)(h:Int)(j:Nat):Prop:=∃n,(sq t h n).j=j/\∀m,m<n->D7 t (sq t h m).j
structure LS (t:bZ) (es:bM (Int×ae)):Prop extends TabW t where
 size:t.place.size=es.size
 reach:∀(i:Nat) (e:Int×ae) (j:Nat),es[i]?=some e->t.place[i]?=some j->Reach t e.1 j
section slots
variable {t:bZ}
def ub(W:TabW t):t.slot j=.live i↔t.place[i]?=some j:=by
 unfold slot;constructor
 .grind
 .intro h;have q:=(wI t.place j W.inc).mp ⟨i,h⟩;rw[aB (aG.mpr q)];congr 1;exact Cz W.inc (by rw[ax];exact q) (by rw[ax];exact h)
def qV(W:TabW t)(a:j∉t.place.toList):t.slot j=if has t.dummies j=true then .dummy else .empty:=by unfold slot;rw[aA];intro q;exact a (bv (by rw[ax];exact aG.mp q))
def nc(W:TabW t):t.slot j=.empty↔¬D7 t j:=by
 by_cases a:j∈t.place.toList
 .constructor
  .intro h;have⟨i,hi⟩:=aU a;rw[ax]at hi;rw[(ub W).mpr hi]at h;cases h
  .intro h;exact absurd (.inl a) h
 .rw[qV W a];by_cases b:j∈t.dummies.toList
  .rw[aB ((qs _ _ W.qU).mpr b)];constructor
   .intro h;cases h
   .intro h;exact absurd (.inr b) h
  .rw[aA (λq=>b ((qs _ _ W.qU).mp q))];exact⟨λ_ q=>q.elim a b,λ_=>rfl⟩
def zj(W:TabW t):t.slot j=.dummy↔j∈t.dummies.toList:=by
 constructor
 .intro h;have a:j∉t.place.toList:=λa=>by have⟨i,hi⟩:=aU a;rw[ax]at hi;rw[(ub W).mpr hi]at h;cases h
  rw[qV W a]at h;split at h
  .rename_i q;exact(qs _ _ W.qU).mp q
  .cases h
 .intro h;rw[qV W (W.LH j h),aB ((qs _ _ W.qU).mpr h)]
def D8(W:TabW t):D7 t j↔t.slot j≠.empty:=by
 constructor
 .intro h q;exact(nc W).mp q h
 .intro h;by_cases q:D7 t j
  .exact q
  .exact absurd ((nc W).mpr q) h
def GU:∀(n:Nat) (l:List Nat),(∀j,j<n->j∈l)->n<=l.length
 |0,_,_=>cg _
 |n+1,l,h=>by
  have a:=h n (gP n);have:=GU n (l.erase n) (λj b=>(List.mem_erase_of_ne (by omega)).mpr (h j (by omega)))
  grind
def GV(W:TabW t):∃j,j<=t.mask/\¬D7 t j:=by
 refine cN λa=>?_;have all:∀j,j<t.mask+1->j∈t.place.toList++t.dummies.toList:=λj b=>by refine cN λq=>a ⟨j,by omega,λo=>q ?_⟩;exact ba.mpr o
 have:=GU _ _ all;rw[bk]at this;have r:=W.room;unfold fill at r;simp only[aQ]at this;omega
def IC(h:Int)(n:Nat):PySem.SetTable.probeStart t h=t.probeStart h/\Mine.Good t (sq t h n):=⟨rfl,rA n (zh h)⟩
def PH(h:Int)(n:Nat):sq t h (n+1)=t.advance (sq t h n):=J3 n _
def Bs(h:Int)(n:Nat):(sq t h n).j<=t.mask:=by have:=(IC (t:=t) h n).2.2.2.2;omega
def tr(W:TabW t)(h:Int)(n:Nat):∃e,n<=e/\e<n+10*turns t.mask/\t.slot (sq t h e).j=.empty:=by have⟨j,a,b⟩:=GV W;have⟨m,c,e⟩:=YB W.mask (IC (t:=t) h n).2 j a;refine⟨n+m,Nat.le_add_right _ _,by omega,?_⟩;have:sq t h (n+m)=mn t m (sq t h n):=nb n m _;rw[this,e];exact(nc W).mpr b
def J4 (t:bZ)(hashAt:Nat->Int)(h:Int)(m:Nat):Prop:=t.slot (sq t h m).j=.dummy∨∃i,t.slot (sq t h m).j=.live i/\hashAt i≠h
def D9 (t:bZ)(h:Int)(d d':az Nat)(n e:Nat):Prop:=d'=d∨∃m,n<=m/\m<e/\t.slot (sq t h m).j=.dummy/\d'=some (sq t h m).j
def wd (p:Probe)(d:az Nat):Probe:=⟨p.j,p.more,p.i,p.perturb,d⟩
def S6(p:Probe)(d:az Nat):t.advance (wd p d)=wd (t.advance p) d:=by unfold advance wd;by_cases h:p.more>0<;>simp[h]
def D_ (t:bZ)(hashAt:Nat->Int)(h:Int)(n:Nat)(d:az Nat)(r:az Met):Prop:=
 (∃e d',n<=e/\t.slot (sq t h e).j=.empty/\(∀m,n<=m->m<e->J4 t hashAt h m)/\r=some (.empty (sq t h e).j d')/\D9 t h d d' n e)∨
 (∃c i d',n<=c/\t.slot (sq t h c).j=.live i/\hashAt i=h/\(∀m,n<=m->m<c->J4 t hashAt h m)/\r=some (.candidate (sq t h c).j i (wd (sq t h (c+1)) d'))/\D9 t h d d' n c)
def D_.back{hashAt:Nat->Int}{n:Nat}{d k:az Nat}{r:az Met}(s:J4 t hashAt h n)(p:D9 t h d k n (n+1))(x:D_ t hashAt h (n+1) k r):D_ t hashAt h n d r:=by
 have l:∀c,(∀m,n+1<=m->m<c->J4 t hashAt h m)->∀m,n<=m->m<c->J4 t hashAt h m:=λc f m a b=>by grind
 have o:∀e c,n+1<=c->D9 t h k e (n+1) c->D9 t h d e n c:=λe c u x=>by
  rcases x with rfl|⟨m,a,b,c',j⟩
  .rcases p with rfl|⟨m,a,b,c',j⟩
   .exact .inl rfl
   .exact .inr ⟨m,a,by omega,c',j⟩
  .exact .inr ⟨m,by omega,b,c',j⟩
 rcases x with⟨j,e,a,b,c,f,g⟩|⟨c',i,e,a,b,q,c,f,g⟩
 .exact .inl ⟨j,e,by omega,b,l j c,f,o e j a g⟩
 .exact .inr ⟨c',i,e,by omega,b,q,l c' c,f,o e c' a g⟩
def zk(hashAt:Nat->Int)(h:Int):∀(iX n:Nat) (d:az Nat),(∃e,n<=e/\e<n+iX/\t.slot (sq t h e).j=.empty)->
  D_ t hashAt h n d (probe.go t hashAt h iX (wd (sq t h n) d))
 |0,n,d,⟨e,k,l,_⟩=>by omega
 |iX+1,n,d,⟨e,k,l,o⟩=>by
  have step:∀GX,t.advance (wd (sq t h n) GX)=wd (sq t h (n+1)) GX:=λGX=>by rw[S6,PH]
  have c:t.slot (sq t h n).j≠.empty->∃e,n+1<=e/\e<n+1+iX/\t.slot (sq t h e).j=.empty:=λq=>by grind
  unfold probe.go;show D_ t hashAt h n d (match t.slot (sq t h n).j with
   |.empty=>some (.empty (sq t h n).j d)
   |.dummy=>probe.go t hashAt h iX (t.advance (wd (sq t h n) (some (sq t h n).j)))
   |.live i=>if hashAt i==h then some (.candidate (sq t h n).j i (t.advance (wd (sq t h n) d)))else probe.go t hashAt h iX (t.advance (wd (sq t h n) d)))
  cases f:t.slot (sq t h n).j with
  |empty=>exact .inl ⟨n,d,ao _,f,λm a b=>by omega,rfl,.inl rfl⟩
  |dummy=>rw[step];exact D_.back (.inl f) (.inr ⟨n,ao _,gP _,f,rfl⟩) (zk hashAt h iX (n+1) _ (c (by rw[f];intro z;cases z)))
  |live i=>
   dsimp only;rw[step];by_cases g:hashAt i=h
   .rw[aB (aG.mpr g)];exact .inr ⟨n,i,d,ao _,f,g,λm a b=>by omega,rfl,.inl rfl⟩
   .rw[aA (λq=>g (aG.mp q))];exact D_.back (.inr ⟨i,f,g⟩) (.inl rfl) (zk hashAt h iX (n+1) d (c (by rw[f];intro z;cases z)))
end slots
def Mr(e:t.mask=t'.mask)(p:Probe):t.advance p=t'.advance p:=by unfold advance;rw[e]
def Bt{t t':bZ}(e:t.mask=t'.mask):∀(n:Nat) (p:Probe),mn t n p=mn t' n p
 |0,_=>rfl
 |n+1,p=>by show mn t n (t.advance p)=mn t' n (t'.advance p);rw[Mr e,Bt e n]
def CA(e:t.mask=t'.mask)(h:Int)(n:Nat):sq t h n=sq t' h n:=by unfold sq;rw[Bt e,show t.probeStart h=t'.probeStart h by unfold probeStart;rw[e]]
def Reach.keep(e:t.mask=t'.mask)(c:∀j,D7 t j->D7 t' j)(r:Reach t h j):Reach t' h j:=by have⟨n,a,b⟩:=r;exact⟨n,by rw[<-CA e];exact a,λm d=>by rw[<-CA e];exact c _ (b m d)⟩
def Ea(W:TabW t)(hashAt:Nat->Int)(h:Int)(n:Nat)(d:az Nat):D_ t hashAt h n d (t.probe hashAt h (wd (sq t h n) d)):=zk hashAt h _ n d (tr W h n)
section put
variable {t:bZ}{es:bM (Int×ae)}
def toList_insertAt(xs:bM α)(p:Nat)(x:α):(SetTable.insertAt xs p x).toList=xs.toList.take p++x::xs.toList.drop p:=SetTable.toList_insertAt xs p x
def ID{l:List α}{p:Nat}(a:p<=l.length)(x:α)(i:Nat):(l.take p++x::l.drop p)[i]?=if i<p then l[i]? else if i=p then some x else l[i-1]?:=by
 by_cases b:i<p
 .grind
 .grind
def o9(j:Nat):(t.put j).1.place.toList=t.place.toList.take (below t.place j)++j::t.place.toList.drop (below t.place j):=toList_insertAt _ _ _
def r0{l:List α}{p:Nat}{x y:α}:y∈l.take p++x::l.drop p↔y=x∨y∈l:=by
 have e:=(bw p l).symm;constructor
 .grind
 .grind
def tu(W:TabW t)(j:Nat):∀k,k∈(t.put j).1.dummies.toList↔k∈t.dummies.toList/\k≠j:=by
 intro k;show k∈(if has t.dummies j=true then eraseAt t.dummies (below t.dummies j)else t.dummies).toList↔_;by_cases a:has t.dummies j=true
 .rw[aB a,lU];have c:=(qs _ _ W.qU).mp a;have b:t.dummies.toList[below t.dummies j]?=some j:=by rw[ax];exact(wI t.dummies j W.qU).mp (by obtain⟨i,hi⟩:=aU c;exact⟨i,by rw[<-ax];exact hi⟩)
  rw[fF];constructor
  .rintro⟨i,hi,e⟩;exact⟨bv e,λq=>hi (Cz W.qU (q▸e) b)⟩
  .rintro⟨d,f⟩;have⟨i,hi⟩:=aU d
   grind
 .rw[aA a];have c:j∉t.dummies.toList:=λq=>a ((qs _ _ W.qU).mpr q)
  grind
def Ms(W:TabW t)(j:Nat):GD (t.put j).1.dummies.toList:=by
 show GD (if has t.dummies j=true then eraseAt t.dummies (below t.dummies j)else t.dummies).toList;split
 .rw[lU];exact W.qU.sublist (eG _ _)
 .exact W.qU
def Eb(W:TabW t)(j:Nat):(t.put j).1.fill=if has t.dummies j=true then t.fill else t.fill+1:=by
 have c:(t.put j).1.place.size=t.place.size+1:=by
  have:=cq List.length (o9 (t:=t) j)
  grind
 have d:(t.put j).1.dummies=(if has t.dummies j=true then eraseAt t.dummies (below t.dummies j)else t.dummies):=rfl;unfold fill;rw[c,d];by_cases a:has t.dummies j=true
 .rw[aB a,aB a];have f:=(qs _ _ W.qU).mp a;have⟨i,hi⟩:=aU f;have b:=(wI t.dummies j W.qU).mp ⟨i,by rw[<-ax];exact hi⟩;have⟨g,_⟩:=cr.mp b;have e:=cq List.length (lU t.dummies (below t.dummies j));rw[eO (by simpa using g)]at e;simp only[aQ]at e;omega
 .rw[aA a,aA a];omega
def PI(W:TabW t)(j k:Nat):D7 (t.put j).1 k↔D7 t k∨k=j:=by
 unfold D7;rw[o9,r0,tu W];constructor
 .grind
 .grind
def PJ(T:LS t es)(l:j<=t.mask)(m:j∉t.place.toList)(u:t.fill+1<=t.mask){x:ae}(n:Reach t h j):
  LS (t.put j).1 (SetTable.insertAt es (t.put j).2 (h,x)):=by
 have W:=T.toTabW;have⟨g,p,r⟩:=zg rfl W.inc j;have s:(t.put j).2=below t.place j:=rfl;have d:below t.place j<=es.toList.length:=by have:=T.size;simp only[aQ]at g⊢;omega
 have f:∀k,D7 t k->D7 (t.put j).1 k:=λk o=>(PI W j k).mpr (.inl o);refine{inc:=?_,qU:=Ms W j,le:=λk hk=>?_,Rp:=λk hk=>W.Rp k ((tu W j k).mp hk).1,LH:=λk hk=>?_,mask:=W.mask,room:=?_,size:=?_,reach:=?_}
 .rw[o9];exact zf W.inc m _ p r
 .rw[o9,r0]at hk;rcases hk with rfl|hk
  .exact l
  .exact W.le k hk
 .have⟨b,c⟩:=(tu W j k).mp hk;rw[o9,r0];rintro(q|q)
  .exact c q
  .exact W.LH k b q
 .rw[Eb W];show _<=t.mask;have:=W.room;split<;>omega
 .have w:=cq List.length (o9 (t:=t) j);have y:=cq List.length (toList_insertAt es (below t.place j) (h,x));have:=T.size
  grind
 .intro i e k a hk;rw[<-ax,s,toList_insertAt,ID d]at a;rw[<-ax,o9,ID g]at hk;by_cases b:i<below t.place j
  .rw[aB b]at a hk;rw[ax]at a hk;exact Reach.keep (t:=t) (t':=(t.put j).1) rfl f (T.reach i e k a hk)
  .rw[aA b]at a hk;by_cases c:i=below t.place j
   .rw[aB c]at a hk;cases a;cases hk;exact Reach.keep (t:=t) (t':=(t.put j).1) rfl f n
   .rw[aA c]at a hk;rw[ax]at a hk;exact Reach.keep (t:=t) (t':=(t.put j).1) rfl f (T.reach _ e k a hk)
def yG(hi:t.place[i]?=some j):t.drop i={t with place:=eraseAt t.place i,dummies:=insertAt t.dummies (below t.dummies j) j}:=by unfold SetTable.drop;rw[hi]
def Mu(T:LS t es)(hi:i<es.size):LS (t.drop i) (eraseAt es i)/\(t.drop i).fill=t.fill:=by
 have W:=T.toTabW;have s:i<t.place.size:=by rw[T.size];exact hi
 obtain⟨j,f⟩:∃j,t.place[i]?=some j:=⟨t.place[i],by simp[s]⟩
 have c:j∈t.place.toList:=bv (by rw[ax];exact f);have g:j∉t.dummies.toList:=λq=>W.LH j q c;rw[yG f];have d:(eraseAt t.place i).toList=t.place.toList.eraseIdx i:=lU _ _;have dl:(insertAt t.dummies (below t.dummies j) j).toList=t.dummies.toList.take (below t.dummies j)++j::t.dummies.toList.drop (below t.dummies j):=toList_insertAt _ _ _;have⟨A,u,w⟩:=zg rfl W.qU j;have h:∀k,k∈(eraseAt t.place i).toList↔k∈t.place.toList/\k≠j:=λk=>by
  rw[d,fF];constructor
  .rintro⟨m,n,e⟩;exact⟨bv e,λq=>n (Cz W.inc (q▸e) (by rw[ax];exact f))⟩
  .rintro⟨hk,B⟩;have⟨m,n⟩:=aU hk
   grind
 have x:(eraseAt t.place i).size=t.place.size-1:=by
  have:=cq List.length d
  grind
 have C:(insertAt t.dummies (below t.dummies j) j).size=t.dummies.size+1:=by
  have:=cq List.length dl
  grind
 have p:(eraseAt t.place i).size+(insertAt t.dummies (below t.dummies j) j).size=t.fill:=by unfold fill;omega
 have r:∀k,D7 t k->D7 {t with place:=eraseAt t.place i,dummies:=insertAt t.dummies (below t.dummies j) j} k:=λk o=>by
  unfold D7;dsimp only;rw[h,dl,r0];rcases o with o|o
  .grind
  .exact .inr (.inr o)
 refine⟨{inc:=?_,qU:=?_,le:=λk hk=>W.le k ((h k).mp hk).1,Rp:=λk hk=>?_,LH:=λk hk=>?_,mask:=W.mask,room:=?_,size:=?_,reach:=?_},p⟩
 .show GD (eraseAt t.place i).toList;rw[d];exact W.inc.sublist (eG _ _)
 .show GD (insertAt t.dummies _ j).toList;rw[dl];exact zf W.qU g _ u w
 .rw[dl,r0]at hk;rcases hk with rfl|hk
  .exact W.le k c
  .exact W.Rp k hk
 .rw[dl,r0]at hk;rw[h];rintro⟨y,z⟩;rcases hk with hk|hk
  .exact z hk
  .exact W.LH k hk y
 .show(eraseAt t.place i).size+(insertAt t.dummies (below t.dummies j) j).size<=t.mask;rw[p];exact W.room
 .have l:=cq List.length (lU es i);rw[eO (by simpa using hi)]at l;show(eraseAt t.place i).size=_;simp only[aQ]at l;rw[x,l,T.size]
 .intro m e k b hk;rw[<-ax,lU,ia]at b;have a:(eraseAt t.place i)[m]?=some k:=hk;rw[<-ax,d,ia]at a;split at b
  .rename_i q;rw[aB q]at a;rw[ax]at b a;exact Reach.keep (t:=t) (t':={t with place:=eraseAt t.place i,dummies:=insertAt t.dummies (below t.dummies j) j}) rfl r (T.reach m e k b a)
  .rename_i q;rw[aA q]at a;rw[ax]at b a;exact Reach.keep (t:=t) (t':={t with place:=eraseAt t.place i,dummies:=insertAt t.dummies (below t.dummies j) j}) rfl r (T.reach (m+1) e k b a)
end put
def ng (mask:Nat):bZ:={mask:=mask,place:=#[],dummies:=#[],finger:=0,led:=true,moves:=0,plain:=true}
section lay
variable {mask:Nat}
def Ec{t:bZ}:∀(r:Nat) (p:Probe),p.more=r->∀k,k<=r->(mn t k p).j=p.j+k
 |_,p,_,0,_=>rfl
 |r+1,p,a,k+1,b=>by
  have e:t.advance p={p with j:=p.j+1,more:=p.more-1}:=by unfold advance;rw[aB (by omega)]
  show(mn t k (t.advance p)).j=_;rw[Ec r (t.advance p) (by rw[e];show p.more-1=r;omega) k (by omega),e];show p.j+1+k=_;omega
def Ed{t:bZ}:∀(r:Nat) (p:Probe),p.more=r->rz t (mn t (r+1) p)/\(mn t (r+1) p).i=(p.i*5+1+p.perturb / 32) % (t.mask+1)/\(mn t (r+1) p).perturb=p.perturb / 32
 |0,p,a=>by show rz t (t.advance p)/\(t.advance p).i=_/\(t.advance p).perturb=_;unfold advance;rw[aA (by omega)];exact⟨⟨rfl,rfl⟩,rfl,rfl⟩
 |r+1,p,a=>by
  have e:t.advance p={p with j:=p.j+1,more:=p.more-1}:=by unfold advance;rw[aB (by omega)]
  have z:=Ed (t:=t) r (t.advance p) (by rw[e];show p.more-1=r;omega);show rz t (mn t (r+1) (t.advance p))/\(mn t (r+1) (t.advance p)).i=_/\(mn t (r+1) (t.advance p)).perturb=_;rw[e]at z⊢;exact z
def pN (mask:Nat):Nat->Nat->Nat->Nat×Nat
 |0,i,p=>(i,p)
 |n+1,i,p=>pN mask n (leap mask i p).1 (leap mask i p).2
def J5(a b i p:Nat):pN mask (a+b) i p=pN mask b (pN mask a i p).1 (pN mask a i p).2:=by
 induction a generalizing i p with
 |zero=>simp[pN]
 |succ a c=>rw[show a+1+b=a+b+1 by omega];exact c _ _
def J6(n i p:Nat):(pN mask n i p).2*32 ^ n<=p:=by
 induction n generalizing i p with
 |zero=>simp[pN]
 |succ n a=>have:=a (leap mask i p).1 (leap mask i p).2;rw[Nat.pow_succ,<-Nat.mul_assoc];exact bq (fM _ this) (Nat.div_mul_le_self _ _)
def Mv(n i p:Nat)(h:i<=mask):(pN mask n i p).1<=mask:=by
 induction n generalizing i p with
 |zero=>exact h
 |succ n a=>exact a _ _ (by have:=hZ (i*5+1+p / 32) (show 0<mask+1 by omega);dsimp only [leap];omega)
def GY(n i:Nat):(pN mask n i 0).1=yl mask n i:=by
 induction n generalizing i with
 |zero=>rfl
 |succ n a=>show(pN mask n ((i*5+1+0 / 32) % (mask+1)) (0 / 32)).1=yl mask n (Zh mask i);rw[show 0 / 32=0 by decide];exact a _
def GZ(a:Mask mask){p:Nat}(hi:i<=mask)(d:p<2 ^ 64)(j:Nat)(b:j<=mask):∃k,k<turns mask/\(pN mask k i p).1=j:=by
 have f:=J6 (mask:=mask) 13 i p;have c:(pN mask 13 i p).2=0:=by grind
 have⟨k,g,e⟩:=Br a (pN mask 13 i p).1 j (Mv 13 i p hi) b;refine⟨13+k,by unfold turns;omega,?_⟩;rw[J5,c,GY];exact e
def Bu{owner:bM (az Nat)}:∀(iX:Nat) (p:Probe),rz (ng mask) p->Good (ng mask) p->(∃k,k<iX/\owner.getD (pN mask k p.i p.perturb).1 (some 0)=none)->
  ∃m,layClean.free mask owner iX p.i p.perturb=some (mn (ng mask) m p).j/\owner.getD (mn (ng mask) m p).j (some 0)=none/\∀a,a<m->owner.getD (mn (ng mask) a p).j (some 0)≠none
 |0,_,_,_,⟨_,h,_⟩=>absurd h (fU _)
 |iX+1,p,g,o,⟨k,G,l⟩=>by
  have r:p.more=runEnd mask p.i-p.i:=g.2;have s:p.i<=runEnd mask p.i:=by unfold runEnd;split<;>omega
  have e:p.j=p.i:=g.1;unfold layClean.free;cases n:(List.range (runEnd mask p.i+1-p.i)).find? (λk=>(owner.getD (p.i+k) (some 0)).isNone)with
  |some q=>
   have⟨u,w,H⟩:=List.find?_range_eq_some.mp n;have f:q<=p.more:=by have:=dc.mp w;omega
   refine⟨q,?_,?_,λa x=>?_⟩
   .dsimp only;rw[Ec _ p rfl q f,e]
   .rw[Ec _ p rfl q f,e];exact Option.isNone_iff_eq_none.mp u
   .rw[Ec _ p rfl a (by omega),e]
    grind
  |none=>
   have y:=List.find?_eq_none.mp n;have b:∀q,q<=p.more->owner.getD (p.i+q) (some 0)≠none:=λq f z=>y q (dc.mpr (by omega)) (by rw[z];rfl);cases k with
   |zero=>exact absurd l (b 0 (cg _))
   |succ k=>
    have⟨A,B,C⟩:=Ed (t:=ng mask) p.more p rfl;have c:(mn (ng mask) (p.more+1) p).i=(leap mask p.i p.perturb).1:=B;have d:(mn (ng mask) (p.more+1) p).perturb=(leap mask p.i p.perturb).2:=C;obtain⟨m,D,E,F⟩:=Bu iX (mn (ng mask) (p.more+1) p) A (rA _ o) ⟨k,by omega,by rw[c,d];exact l⟩;refine⟨p.more+1+m,?_,by rw[nb];exact E,λa x=>?_⟩
    .dsimp only;rw[nb,<-D,c,d]
    .by_cases q:a<=p.more
     .rw[Ec _ p rfl a q,e];exact b a q
     .have:=F (a-(p.more+1)) (by omega);rw[<-nb,show p.more+1+(a-(p.more+1))=a by omega]at this;exact this
end lay
section lay
variable {mask:Nat}
structure Pe (mask:Nat) (owner:bM (az Nat)) (pos:List Nat) (hs:List Int):Prop where
 size:owner.size=mask+1
 own:∀j i,owner.getD j none=some i↔pos[i]?=some j
 len:pos.length=hs.length
 reach:∀(i j:Nat) (h:Int),pos[i]?=some j->hs[i]?=some h->∃m,(sq (ng mask) h m).j=j/\∀m',m'<m->(sq (ng mask) h m').j∈pos
variable {owner:bM (az Nat)}{pos:List Nat}{hs:List Int}
def Q6(h:j<owner.size):owner.getD j (some 0)=owner.getD j none:=by unfold Array.getD;rw[iC h,iC h]
def Pe.le(O:Pe mask owner pos hs)(h:j∈pos):j<=mask:=by have⟨i,hi⟩:=aU h;have:=(O.own j i).mpr hi;have hs:=O.size;refine cN λq=>?_;unfold Array.getD at this;rw[dif_neg (by omega)]at this;cases this
def Pe.mem(O:Pe mask owner pos hs)(a:j<=mask):owner.getD j (some 0)≠none↔j∈pos:=by
 rw[Q6 (by rw[O.size];omega)];constructor
 .intro h;have⟨i,hi⟩:=Option.ne_none_iff_exists'.mp h;exact bv ((O.own j i).mp hi)
 .intro h q;have⟨i,hi⟩:=aU h;rw[(O.own j i).mpr hi]at q;cases q
def Pe.step(O:Pe mask owner pos hs)(y:Mask mask)(L:hs.length<=mask)(h:Int):
  ∃j,layClean.free mask owner (turns mask) (bits h % (mask+1)) (bits h)=some j/\Pe mask (owner.setIfInBounds j (some hs.length)) (pos++[j]) (hs++[h]):=by
 have n:=zh (t:=ng mask) h;have:∃j,j<=mask/\j∉pos:=cN λz=>by have:=GU (mask+1) pos λj A=>cN λq=>z ⟨j,by omega,q⟩;rw[O.len]at this;omega
 have⟨B,o,C⟩:=this;have⟨k,D,E⟩:=GZ (p:=bits h) y n.2.2.1 (Iy h) B o;have⟨m,F,G,H⟩:=Bu (owner:=owner) (turns mask) ((ng mask).probeStart h) (Bq h) n ⟨k,D,by show owner.getD (pN mask k _ (bits h)).1 (some 0)=none;rw[E];exact cN λq=>C ((O.mem o).mp q)⟩
 have r:layClean.free mask owner (turns mask) (bits h % (mask+1)) (bits h)=some (sq (ng mask) h m).j:=F;have s:owner.getD (sq (ng mask) h m).j (some 0)=none:=G;have I:∀c,c<m->(sq (ng mask) h c).j∈pos:=λc J=>(O.mem (Bs (t:=ng mask) h c)).mp (H c J);have d:(sq (ng mask) h m).j<=mask:=Bs (t:=ng mask) h m;generalize A:(sq (ng mask) h m).j=j at r s d;have K:j∉pos:=λq=>(O.mem d).mpr q s;refine⟨j,r,{size:=by rw[dO,O.size],own:=λx i=>?_,len:=by rw[bk,bk,O.len];rfl,reach:=λi x g f l=>?_}⟩
 .have M:=O.size;by_cases u:x=j
  .subst u;have:(owner.setIfInBounds x (some hs.length)).getD x none=some hs.length:=by rw[cG,Array.getElem?_setIfInBounds_self_of_lt (by omega)];rfl
   rw[this];constructor
   .intro e;cases e;rw[<-O.len,aR (ao _),cM];rfl
   .intro e;by_cases q:i<pos.length
    .grind
    .rw[aR (by omega)]at e;have:i-pos.length=0:=by grind
     rw[<-O.len];congr 1;omega
  .have:(owner.setIfInBounds j (some hs.length)).getD x none=owner.getD x none:=by rw[cG,Array.getElem?_setIfInBounds_ne (λq=>u q.symm),<-cG]
   rw[this,O.own]
   grind
 .by_cases q:i<pos.length
  .rw[cx q]at f;rw[cx (by rw[<-O.len];exact q)]at l;have⟨w,a,b⟩:=O.reach i x g f l
   grind
  .rw[aR (by omega)]at f;rw[aR (by rw[<-O.len];omega),<-O.len]at l
   grind
def vJ (mask:Nat)(f_:az (bM (az Nat)×Nat))(h:Int):az (bM (az Nat)×Nat):=do
  let (owner,k) <-f_
  let j <-layClean.free mask owner (turns mask) (bits h % (mask+1)) (bits h)
  pure (owner.setIfInBounds j (some k),k+1)
def IE(f:Mask mask):∀(iN:List Int){owner:bM (az Nat)}{pos:List Nat}{hs:List Int},Pe mask owner pos hs->hs.length+iN.length<=mask+1->
  ∃c a,iN.foldl (vJ mask) (some (owner,hs.length))=some (c,hs.length+iN.length)/\Pe mask c a (hs++iN)
 |[],owner,pos,hs,O,_=>⟨owner,pos,rfl,by rw[bh];exact O⟩
 |h::iN,owner,pos,hs,O,g=>by
  rw[aI]at g;have⟨j,e,i⟩:=O.step f (by omega) h;have⟨c,a,d,b⟩:=IE f iN i (by rw[bk];simp only[aI,bL];omega);refine⟨c,a,?_,by rw[cw]at b;exact b⟩;rw[eX];have:vJ mask (some (owner,hs.length)) h=some (owner.setIfInBounds j (some hs.length),hs.length+1):=by
   unfold vJ
   grind
  rw[this];rw[bk]at d;simp only[aI,bL]at d;rw[d,aI];congr 2;omega
def Ee(b:Mask mask)(a:bM Int)(c:a.size<=mask+1):∃owner pos,layClean mask a=some owner/\Pe mask owner pos a.toList:=by
 have O:Pe mask (Array.replicate (mask+1) none) [] []:={
  size:=Array.size_replicate,own:=λj i=>by
   constructor
   .intro e;rw[cG,Array.getElem?_replicate]at e;split at e<;>cases e
   .intro e;cases e
  len:=rfl,reach:=λi j h e=>by cases e}
 have⟨owner,pos,e,d⟩:=IE b a.toList O (by simpa using c);refine⟨owner,pos,?_,by simpa using d⟩;have:layClean mask a=(a.foldl (vJ mask) (some (Array.replicate (mask+1) none,0))).map (·.1):=rfl;rw[this,<-Array.foldl_toList];have f:a.toList.foldl (vJ mask) (some (Array.replicate (mask+1) none,0))=_:=e;rw[f];rfl
end lay
def A5[DecidableEq α]:∀{l l':List α},l.Nodup->l'.Nodup->(∀x,x∈l↔x∈l')->l.Perm l'
 |[],l',_,_,h=>by grind
 |a::l,l',n,b,h=>by grind
def sJ{α:Type}:∀(l:List α),(List.range l.length).filterMap (λi=>l[i]?)=l
 |[]=>rfl
 |a::l=>by rw[aI,List.range_succ_eq_map,bQ,e6];exact cq (a::·) (sJ l)
def filterMap_get{α d:Type}{f:α->az d}:∀{l:List α},(∀x∈l,(f x).isSome=true)->∀m:Nat,(l.filterMap f)[m]?=l[m]?.bind f
 |[],_,m=>by simp
 |a::l,h,m=>by
  have⟨b,c⟩:=bH.mp (h a bc);rw[bQ,c];cases m with
  |zero=>show some b=f a;rw[c]
  |succ m=>exact filterMap_get (λx e=>h x (aO _ e)) m
def sqj(t:bZ)(h:Int)(n:Nat):(sq t h n).j=(sq (ng t.mask) h n).j:=cq Probe.j (CA (t:=t) (t':=ng t.mask) rfl h n)
section
variable {mask:Nat}
def zl(G:Mask mask)(es:bM (Int×ae))(V:es.size<=mask)(finger moves:Nat)(led plain:aY):
  ∃t d,laid mask finger moves led plain (es.map (·.1))=some (t,d)/\t.mask=mask/\t.fill=es.size/\t.dummies=#[]/\t.plain=plain/\t.led=led/\t.finger=finger/\
   LS t (d.filterMap (es[·]?))/\(d.filterMap (es[·]?)).toList.Perm es.toList/\(d.filterMap (es[·]?)).size=es.size/\d.toList.Perm (List.range es.size):=by
 have⟨owner,pos,e,O⟩:=Ee G (es.map (·.1)) (by rw[Array.size_map];omega);have W:pos.length=es.size:=by rw[O.len];simp
 let c:=(List.range (mask+1)).filterMap λj=>(owner.getD j none).map (j,·);have s:∀j i,(j,i)∈c↔owner.getD j none=some i:=λj i=>by
  rw[List.mem_filterMap];constructor
  .rintro⟨x,_,k⟩;have⟨y,o,q⟩:=ay.mp k;cases q;exact o
  .intro h;refine⟨j,dc.mpr ?_,by rw[h];rfl⟩;have:=O.le (bv ((O.own j i).mp h));omega
 have L:GD (c.map (·.1)):=by refine gA.mpr (gQ.mpr (ib.imp ?_));intro a b A x k y o;have⟨_,_,q⟩:=ay.mp k;have⟨_,_,B⟩:=ay.mp o;cases q;cases B;exact A
 have M:(c.map (·.2)).Nodup:=by refine gA.mpr (gQ.mpr (ib.imp ?_));intro a b A x k y o;have⟨u,N,q⟩:=ay.mp k;have⟨v,P,B⟩:=ay.mp o;cases q;cases B;intro z;have z:=z;subst z;have Q:=(O.own a u).mp N;have H:=(O.own b u).mp P;rw[Q]at H;cases H;exact absurd A (eB _)
 have C:(c.map (·.2)).Perm (List.range es.size):=A5 M List.nodup_range λi=>by
  rw[aM,dc];constructor
  .rintro⟨⟨j,l⟩,k,rfl⟩;have:=(O.own j l).mp ((s j l).mp k);have:=(aC.mp this).1;show l<_;omega
  .intro hi;refine⟨(pos[i],i),(s _ _).mpr ((O.own _ _).mpr ?_),rfl⟩;exact aC.mpr ⟨by omega,rfl⟩
 have R:∀x∈c.map (·.2),(es[x]?).isSome=true:=λx k=>by grind
 have D:((c.map (·.2)).toArray.filterMap (es[·]?)).toList=(c.map (·.2)).filterMap (es[·]?):=by simp
 have I:((c.map (·.2)).filterMap (es[·]?)).Perm es.toList:=by
  have:=C.filterMap (es[·]?);have r:(List.range es.size).filterMap (es[·]?)=es.toList:=by have:=sJ es.toList;rw[aQ]at this;simpa using this
  rw[r]at this;exact this
 have J:((c.map (·.2)).toArray.filterMap (es[·]?)).size=es.size:=by rw[<-aQ,D,I.length_eq,aQ]
 have w:c.length=es.size:=by have:=C.length_eq;simpa using this
 refine⟨_,_,by unfold laid;rw[e];rfl,rfl,?_,rfl,rfl,rfl,rfl,?_,by rw[D];exact I,J,by simpa using C⟩
 .show(c.map (·.1)).toArray.size+0=es.size;simpa using w
 .refine{inc:=L,qU:=List.Pairwise.nil,le:=λj f=>?_,Rp:=λj f=>by simp at f,LH:=λj f=>by simp at f,mask:=G,room:=?_,size:=?_,reach:=λm g j p f=>?_}
  .have f:=f;have f:=f;obtain⟨⟨K,i⟩,k,rfl⟩:=aM.mp f;exact O.le (bv ((O.own _ _).mp ((s _ _).mp k)))
  .show(c.map (·.1)).toArray.size+0<=mask;have:(c.map (·.1)).toArray.size=c.length:=by simp
   omega
  .show(c.map (·.1)).toArray.size=_;rw[J];simpa using w
  .have f:=f;rw[<-ax,D,filterMap_get R]at p;rw[List.getElem?_toArray,bP]at f;rw[bP]at p;cases E:c[m]? with
   |none=>rw[E]at f;cases f
   |some q=>
    have⟨K,i⟩:=q;rw[E]at f p;have f:some K=some j:=f;cases f;have p:es[i]?=some g:=p;have S:=(O.own j i).mp ((s j i).mp (bv E));have⟨n,a,b⟩:=O.reach i j g.1 S (by rw[ax,Array.getElem?_map,p];rfl);refine⟨n,?_,λF T=>.inl ?_⟩
    .exact(sqj _ g.1 n).trans a
    .have:=b F T;apply(cq (·∈(c.map (·.1)).toArray.toList) (sqj _ g.1 F)).mpr;generalize o:(sq (ng mask) g.1 F).j=y at this;have⟨l,U⟩:=aU this;have:=(s y l).mpr ((O.own y l).mpr U);exact aM.mpr ⟨(y,l),this,rfl⟩
end
end
section
open PySem PySem.W PySem.Calls PyProof.Rows PySem.SeqAt
variable {Q:aY->aj->Prop}{v:ae}{e:El}{h:cj}
def El.jJ:El->aY
 |.one _=>true
 |.many _=>false
def nF:jy->az (jK)
 |[]=>some []
 |.str s::l=>(nF l).map (s::·)
 |_=>none
def qW:AV->az El
 |.str s=>some (.one s)
 |.tup l=>(nF l).map .many
 |_=>none
def zn:jy->az (kr)
 |[]=>some []
 |a::l=>match qW a,zn l with
  |some e,some es=>some (e::es)
  |_,_=>none
section
variable {a_:c5}{w:cy}{A:bO}{E:nz}{s:aj}
def El.hash(a_:c5)(w:cy):El->Int
 |.one s=>hashStr w s
 |.many l=>tupleKeyHash (strKind a_ w) l
def mL (a_:c5)(w:cy)(h:cj):El->ae->Prop
 |.one s,v=>∃t,v=.str s t
 |.many l,v=>∃a,v=.ref a/\IsTupleKey (strKind a_ w) h l a
def nQ{d:Type}{M:fL}{c:Prop}[Decidable c]{a b:Sem d}{Q:d->aj->Prop}(e:c->wpAny M A a Q E s)(f:¬c->wpAny M A b Q E s):wpAny M A (if c then a else b) Q E s:=by
 by_cases h:c
 .rw[aB h];exact e h
 .rw[aA h];exact f h
def zo{V:jj}{F:jn}:∀{vs:jr}{l:jy}{ss:jK},jV V F vs l->nF l=some ss->ItemsAre (strKind a_ w) ss vs
 |_,_,ss,.nil,e=>by cases e;exact .nil
 |v::vs,a::l,ss,.cons h t,e=>by
  cases h with
  |str s tk=>have⟨r,b,q⟩:=ay.mp e;subst q;exact .cons (by show Value.isStrOf s (.str s tk)=true;simp[Value.isStrOf]) (zo t b)
  |_=>cases e
def Mw{V:jj}{F:jn}{a:AV}(b:∀a o,F a=some o->h.get? a=some o)(r:kQ V F v a)(x:qW a=some e):mL a_ w h e v:=by
 cases r with
 |str s t=>cases x;exact⟨t,rfl⟩
 |tup f c d r=>have⟨ss,g,q⟩:=ay.mp x;subst q;exact⟨_,rfl,_,_,_,b _ _ f,c,d,zo r g⟩
 |_=>cases x
def mL.mono{h':cj}(k:∀a,v=.ref a->∀o,h.get? a=some o->h'.get? a=some o)(x:mL a_ w h e v):mL a_ w h' e v:=by
 cases e with
 |one s=>exact x
 |many l=>have⟨a,e,o,items,n,b,r⟩:=x;exact⟨a,e,o,items,n,k a e o b,r⟩
def mL.inj{h:cj}{e f:El}{v:ae}(x:mL a_ w h e v)(y:mL a_ w h f v):e=f:=by
 cases e with
 |one a=>
  obtain⟨t,rfl⟩:=x;cases f with
  |one b=>have⟨u,q⟩:=y;injection q with q;rw[q]
  |many l=>have⟨a,q,_⟩:=y;cases q
 |many l=>
  obtain⟨a,rfl,c⟩:=x;cases f with
  |one b=>have⟨u,q⟩:=y;cases q
  |many m=>have⟨b,q,d⟩:=y;cases q;rw[c.inj d]
def CD{Q:Int->aj->Prop}(b:A.units<cLine)(x:mL a_ w s.heap e v)(h:∀t,Q (e.hash a_ w) {s with toks:=t}):wpAny (model a_ w) A (pyHash v) Q E s:=by
 cases e with
 |one a=>obtain⟨t,rfl⟩:=x;exact wpAny_pyHash_str (h _)
 |many l=>obtain⟨a,rfl,c⟩:=x;exact wpAny_pyHash_tuple b c (h _)
def Wr{f:El}{u:ae}(d:A.units<cLine)(x:mL a_ w s.heap e v)(y:mL a_ w s.heap f u)(c:e.jJ=f.jJ)(h:Q (decide (e=f)) s):wpAny (model a_ w) A (eqBool v u) Q E s:=by
 cases e with
 |one a=>
  obtain⟨t,rfl⟩:=x;cases f with
  |one b=>obtain⟨t',rfl⟩:=y;apply wpAny_eqBool_str;rw[show decide (a=b)=decide (El.one a=El.one b) by simp];exact h
  |many l=>cases c
 |many l=>
  obtain⟨a,rfl,g⟩:=x;cases f with
  |one b=>cases c
  |many m=>obtain⟨b,rfl,i⟩:=y;apply wpAny_eqBool_tuple d g i;rw[show decide (l=m)=decide (El.many l=El.many m) by simp];exact h
def IF(x:mL a_ w h e v):v.scannable=e.jJ:=by
 cases e with
 |one a=>obtain⟨t,rfl⟩:=x;rfl
 |many l=>obtain⟨a,rfl,_⟩:=x;rfl
def xG{l:jK}{vs:jr}(h:ItemsAre (strKind a_ w) l vs):∀v∈vs,∃s t,v=.str s t:=by
 induction h with
 |nil=>intro v a;cases a
 |@cons k v d vs b _ c=>
  intro u hu;rcases af.mp hu with rfl|hu
  .have⟨t,q⟩:=Value.isStrOf_shape b;exact⟨_,_,q⟩
  .exact c u hu
def Eh(x:mL a_ w s.heap e v)(h:Q false s):wpAny (model a_ w) A (ofAClassStatement 8 v) Q E s:=by
 cases e with
 |one a=>obtain⟨t,rfl⟩:=x;unfold ofAClassStatement;exact ac h
 |many l=>
  obtain⟨a,rfl,f⟩:=x;have i:=f.typeIs;have⟨o,items,n,j,m,k,hi⟩:=f;unfold ofAClassStatement;refine G (cX i ?_);dsimp only;rw[aB (by decide)];refine G (ac ?_);simp only[dy,au,bD];refine G (cB j k ?_);dsimp only;rw[<-dD];refine G (dA _ (λiN r b=>r.1=none/\b=s/\∀v∈iN,∃x t,v=.str x t) _ ?_ ?_ _ _ ⟨rfl,rfl,xG hi⟩)
  .rintro v iN r b ⟨c,rfl,g⟩;obtain⟨x,t,rfl⟩:=g v bc;unfold ofAClassStatement;refine G (ac ?_);simp only[au,bD];exact ac ⟨rfl,rfl,λu d=>g u (aO _ d)⟩
  .rintro⟨p,q⟩ b ⟨c,rfl,_⟩;simp only at c;subst c;exact ac h
def Ei(x:mL a_ w s.heap e v)(h:Q true s):wpAny (model a_ w) A (eqIsQuiet 8 v) Q E s:=by
 cases e with
 |one a=>obtain⟨t,rfl⟩:=x;rw[eqIsQuiet_byValue _ rfl];exact ac h
 |many l=>obtain⟨a,rfl,b⟩:=x;exact wpAny_eqIsQuiet_tuple b h
def J7{ys:jr}(x:mL a_ w s.heap e v)(g:∀y∈ys,∃f,mL a_ w s.heap f y)(h:Q false s):wpAny (model a_ w) A (searchCouldBeSeen v ys) Q E s:=by
 unfold searchCouldBeSeen;refine G (dA _ (λiN r a=>r.1=none/\a=s/\∀y∈iN,∃f,mL a_ w s.heap f y) _ ?_ ?_ _ _ ⟨rfl,rfl,g⟩)
 .rintro y iN r a ⟨b,rfl,c⟩;have⟨f,d⟩:=c y bc;have more:∀u∈iN,∃f,mL a_ w a.heap f u:=λu i=>c u (aO _ i);refine nQ (λ_=>ac ⟨rfl,rfl,more⟩) λ_=>?_
  .refine G (Ei x ?_);simp only[dy,au,bD];refine G (Ei d ?_);simp only[dy,au,bD];refine G (Eh x ?_);simp only[au,bD];refine G (Eh d ?_);simp only[au,bD];exact ac ⟨rfl,rfl,more⟩
 .rintro⟨j,k⟩ a ⟨b,rfl,_⟩;simp only at b;subst b;exact ac h
end
end
section
open PySem PySem.W PySem.SetTable
variable {es wR rk:bM (Int×ae)}{E:nz}{Q:aY->aj->Prop}{P:ae->Prop}{t t' t1:bZ}{els k8 mh uV m zp m0:kr}{a_:c5}{s s0:aj}{A:bO}{w:cy}{x v:ae}{a b:iJ}{h' h:cj}{o:dq}{ep n jb:Nat}{e:El}{k nd:aY}{V jF:jj}{F F':jn}
section
variable {a_:c5}{w:cy}{A:bO}{E:nz}{s:aj}
inductive kL (prog:c5) (w:cy) (h:cj):List (Int×ae)->kr->Prop
 |nil:kL prog w h [] []
 |cons {k:Int}{v:ae}{e:El}{es:List (Int×ae)}{els:kr}(hk:k=e.hash prog w) (hv:mL prog w h e v) (t:kL prog w h es els):kL prog w h ((k,v)::es) (e::els)
def kL.length{h:cj}:∀{es:List (Int×ae)}{els:kr},kL a_ w h es els->es.length=els.length
 |_,_,.nil=>rfl
 |_,_,.cons _ _ t=>cq (·+1) t.length
def kL.get{h:cj}:∀{es:List (Int×ae)}{els:kr}{i:Nat}{p:Int×ae},kL a_ w h es els->es[i]?=some p->∃e,els[i]?=some e/\p.1=e.hash a_ w/\mL a_ w h e p.2
 |_,_,0,_,.cons a b _,e=>by cases e;exact⟨_,rfl,a,b⟩
 |_,_,i+1,_,.cons _ _ t,e=>t.get (i:=i) e
def kL.get'{h:cj}:∀{es:List (Int×ae)}{els:kr}{i:Nat}{e:El},kL a_ w h es els->els[i]?=some e->∃v,es[i]?=some (e.hash a_ w,v)/\mL a_ w h e v
 |_,_,0,_,.cons a b _,e=>by cases e;exact⟨_,by rw[<-a];rfl,b⟩
 |_,_,i+1,_,.cons _ _ t,e=>t.get' (i:=i) e
def kL.mono{h h':cj}:∀{es:List (Int×ae)}{els:kr},(∀p∈es,∀a,p.2=.ref a->∀o,h.get? a=some o->h'.get? a=some o)->kL a_ w h es els->kL a_ w h' es els
 |_,_,_,.nil=>.nil
 |_,_,k,.cons b c t=>.cons b (c.mono (k _ bc)) (t.mono λp d=>k p (aO _ d))
def kL.append{h:cj}{wR:List (Int×ae)}{mh:kr}(y:kL a_ w h wR mh):∀{es:List (Int×ae)}{els:kr},kL a_ w h es els->kL a_ w h (es++wR) (els++mh)
 |_,_,.nil=>y
 |_,_,.cons a b t=>.cons a b (kL.append y t)
def kL.take{h:cj}:∀{es:List (Int×ae)}{els:kr}(n:Nat),kL a_ w h es els->kL a_ w h (es.take n) (els.take n)
 |_,_,0,_=>.nil
 |_,_,n+1,.nil=>.nil
 |_,_,n+1,.cons a b t=>.cons a b (t.take n)
def kL.drop{h:cj}:∀{es:List (Int×ae)}{els:kr}(n:Nat),kL a_ w h es els->kL a_ w h (es.drop n) (els.drop n)
 |_,_,0,r=>r
 |_,_,n+1,.nil=>.nil
 |_,_,n+1,.cons a b t=>t.drop n
def kL.eraseIdx{h:cj}:∀{es:List (Int×ae)}{els:kr}(n:Nat),kL a_ w h es els->kL a_ w h (es.eraseIdx n) (els.eraseIdx n)
 |_,_,_,.nil=>.nil
 |_,_,0,.cons _ _ t=>t
 |_,_,n+1,.cons a b t=>.cons a b (t.eraseIdx n)
def kL.perm{h:cj}{es wR:List (Int×ae)}(p:es.Perm wR):∀{els:kr},kL a_ w h es els->∃mh,els.Perm mh/\kL a_ w h wR mh:=by
 induction p with
 |nil=>intro els x;exact⟨els,.refl _,x⟩
 |cons a p e=>
  intro els x;cases x with
  |cons c d t=>have⟨mh,q,y⟩:=e t;exact⟨_,.cons _ q,.cons c d y⟩
 |swap a b l=>
  intro els x;cases x with
  |cons c d t=>cases t with
   |cons f g t=>exact⟨_,.swap _ _ _,.cons f g (.cons c d t)⟩
 |trans _ _ i j=>intro els x;have⟨n,q1,y1⟩:=i x;have⟨k,m,y2⟩:=j y1;exact⟨k,q1.trans m,y2⟩
def qc:List Nat:=[7,15,31,63,127]
def zq{m:Nat}(h:m∈qc):Mask m:=by
 simp only[qc,af,bl,cI]at h;rcases h with rfl|rfl|rfl|rfl|rfl
 .exact Ro
 .exact S3
 .exact S4
 .exact S5
 .exact PG
def zr (w:cy):aY:=!w.params.followText "set-order"
structure qd (prog:c5) (w:cy) (h:cj) (es:bM (Int×ae)) (t:bZ) (els:kr):Prop where
 tab:LS t es
 mask:t.mask∈qc
 load:t.fill*5<t.mask*3
 are:kL prog w h es.toList els
 nd:els.Nodup
 plain:els≠[]->t.plain=false
 led:t.led=zr w
variable {es:bM (Int×ae)}{t:bZ}{els:kr}{e:El}{x:ae}{a:iJ}{o:dq}{ep:Nat}
def qd.fits{h:cj}(T:qd a_ w h es t els):t.fits es.size=true:=by unfold SetTable.fits;rw[T.tab.size];simp only[bW,Bool.true_and,eL];exact T.tab.room
def qd.odd{h:cj}(T:qd a_ w h es t els):t.gaveWay=false:=by unfold SetTable.gaveWay;have:=T.mask;simp only[qc,af,bl,cI]at this;rcases this with q|q|q|q|q<;>rw[q]<;>rfl
def PM (t:bZ)(h:Int)(slot:Nat)(wd:aY):Prop:=slot<=t.mask/\slot∉t.place.toList/\Reach t h slot/\(wd=true↔slot∈t.dummies.toList)
def storedAt(es:bM (Int×ae))(i:Nat):Int:=(es[i]?.map (·.1)).getD 0
def Passed(t:bZ)(h:Int)(els:kr)(e:El)(n:Nat):Prop:=∀m,m<n->t.slot (sq t h m).j≠.empty/\∀i,t.slot (sq t h m).j=.live i->els[i]?≠some e
def Passed.step{n c:Nat}(T:qd a_ w s.heap es t els)(p:Passed t (e.hash a_ w) els e n)(f:∀m,n<=m->m<c->J4 t (storedAt es) (e.hash a_ w) m):Passed t (e.hash a_ w) els e c:=λm a=>by
 by_cases q:m<n
 .exact p m q
 .rcases f m (by omega) a with d|⟨i,hi,b⟩
  .grind
  .rw[hi];refine⟨λz=>(nomatch z),λj z g=>?_⟩;cases z;have⟨v,h,_⟩:=T.are.get' g;apply b;unfold storedAt;rw[<-ax,h];rfl
def Passed.reach{n:Nat}(T:qd a_ w s.heap es t els)(p:Passed t (e.hash a_ w) els e n):∀m,m<=n->Reach t (e.hash a_ w) (sq t (e.hash a_ w) m).j:=λm b=>⟨m,rfl,λa c=>(D8 T.tab.toTabW).mpr (p a (by omega)).1⟩
def Passed.absent{n:Nat}(T:qd a_ w s.heap es t els)(p:Passed t (e.hash a_ w) els e n)(b:t.slot (sq t (e.hash a_ w) n).j=.empty):e∉els:=λf=>by
 have⟨i,hi⟩:=aU f;have⟨v,c,_⟩:=T.are.get' hi;have g:i<t.place.size:=by rw[T.tab.size,<-aQ];exact(aC.mp c).1
 have d:t.place[i]?=some t.place[i]:=by simp[g]
 obtain⟨m,h,k⟩:=T.tab.reach i _ _ (by rw[<-ax];exact c) d;have a:t.slot (sq t (e.hash a_ w) m).j=.live i:=by rw[h];exact(ub T.tab.toTabW).mpr d
 rcases gz m n with q|q|q
 .exact(p m q).2 i a hi
 .rw[q,b]at a;cases a
 .exact(nc T.tab.toTabW).mp b (k n q)
end
def tv{jc:aY}(N:s.heap.get? a=some o)(O:o.data=.set es ep t)(T:qd a_ w s.heap es t els)(R:mL a_ w s.heap e x)(he:e.jJ=false)(S:∀f∈els,f.jJ=false)(hu:A.units<cLine)
  {Q:SetFound->aj->Prop}(U:∀i r,els[i]?=some e->(jc=false->r=some i)->Q (.there r) s) (V:e∉els->∀slot wd,PM t (e.hash a_ w) slot wd->Q (.free slot wd) s):
  ∀(iX n:Nat) (d:az Nat) (J:az Probe),J.getD (t.probeStart (e.hash a_ w))=wd (sq t (e.hash a_ w) n) d->
   Passed t (e.hash a_ w) els e n->(∀q,d=some q->∃m,m<n/\t.slot (sq t (e.hash a_ w) m).j=.dummy/\q=(sq t (e.hash a_ w) m).j)->(∃B,n<=B/\B<n+iX/\t.slot (sq t (e.hash a_ w) B).j=.empty)->
   wpAny (model a_ w) A (setSearchFrom a x (e.hash a_ w) jc iX J) Q E s
 |0,n,d,J,hs,X,JR,⟨B,a1,a2,_⟩=>by omega
 |iX+1,n,d,J,hs,X,JR,⟨B,a1,a2,K⟩=>by
  have W:=T.tab.toTabW;unfold setSearchFrom;refine G (aP N O T.fits ?_);dsimp only;rw[T.odd];simp only[au,bD];rw[hs];have P:=Ea W (storedAt es) (e.hash a_ w) n d;rcases P with⟨c,D,hc,C,L,Y,Z⟩|⟨c,i,D,hc,C,hh,L,Y,Z⟩
  .erw [Y]
   have F:=X.step T L;have A0:=F.absent T C;have Zp:∀q,D=some q->∃m,m<c/\t.slot (sq t (e.hash a_ w) m).j=.dummy/\q=(sq t (e.hash a_ w) m).j:=λq u=>by
    rcases Z with rfl|⟨m,b1,b2,b3,b4⟩
    .grind
    .rw[b4]at u;cases u;exact⟨m,b2,b3,rfl⟩
   cases D with
   |none=>
    refine ac (V A0 _ _ ⟨Bs _ _,λq=>?_,F.reach T c (ao _),⟨λz=>(nomatch z),λq=>?_⟩⟩)
    .exact(nc W).mp C (.inl q)
    .exact absurd (Or.inr q) ((nc W).mp C)
   |some dd=>obtain⟨m,z1,z2,rfl⟩:=Zp dd rfl;dsimp only;have Pl:=(zj W).mp z2;have fin:Q (.free (sq t (e.hash a_ w) m).j true) s:=V A0 _ _ ⟨Bs _ _,λq=>W.LH _ Pl q,F.reach T m (by omega),⟨λ_=>Pl,λ_=>rfl⟩⟩;rw[z2];simp only[dj,Bool.and_false,au,bD];exact ac fin
  .erw [Y]
   have wS:=(ub W).mp C;have hi:i<es.size:=by have:=(cr.mp wS).1;rw[T.tab.size]at this;exact this
   obtain⟨p,Zq⟩:∃p,es[i]?=some p:=⟨es[i],by simp[hi]⟩
   obtain⟨f,hf,hfh,H⟩:=T.are.get (by rw[ax];exact Zq);have U4:=bv hf;have iN:wpAny (model a_ w) A (do
     let some (_,y):=es[i]?|unsupported "internal:set-entry"
     let h <-holding [y] (eqBool y x)
     let (wR,_,t') <-setState a
     if jc&&h then return .there none
     let some same:=t'.sameMemory t.moves t.mask|unsupported "set.changed-during-lookup:is-the-new-block-at-the-old-address"
     let Ws <-match(if same then t'.slot (sq t (e.hash a_ w) c).j else .empty)with
      |.live M=>match wR[M]? with
       |some (_,y')=>do pure (if <-isSame y' y then some M else none)
       |none=>pure none
      |_=>pure none
     match Ws with
     |none=>rule "set.search.anew";setSearchFrom a x (e.hash a_ w) jc iX none
     |some M=>if h then return .there (some M)else setSearchFrom a x (e.hash a_ w) jc iX (some (wd (sq t (e.hash a_ w) (c+1)) D))) Q E s:=by
    rw[Zq];have⟨k,y⟩:=p;refine G (aF (Wr hu H R (by rw[he,S f U4]) ?_));refine G (aP N O T.fits ?_);refine nQ (λu=>?_) λu=>?_
    .have⟨q1,q2⟩:=db.mp u;have:=fh q2;subst this;exact ac (U i none hf λz=>by rw[q1]at z;cases z)
    .have hsm:t.sameMemory t.moves t.mask=some true:=by unfold sameMemory;simp
     rw[hsm];dsimp only;rw[aB rfl,C];dsimp only;rw[Zq];obtain⟨b,hb⟩:∃b,y=.ref b:=by
      cases f with
      |one z=>have:=S _ U4;cases this
      |many l=>have⟨b,q,_⟩:=H;exact⟨b,q⟩
     subst hb;refine G (wpAny_isSame_ref_self (G (ac ?_)));rw[aB rfl];refine nQ (λI=>?_) λI=>?_
     .have:=fh I;subst this;exact ac (U i (some i) hf λ_=>rfl)
     .have o8:f≠e:=λz=>I (cH z);have F:=X.step T L;refine tv N O T R he S hu U V iX (c+1) D _ rfl ?_ ?_ ⟨B,?_,?_,K⟩
      .intro m hm;rcases Nat.lt_or_ge m c with q|q
       .exact F m q
       .grind
      .intro q u;rcases Z with rfl|⟨m,b1,b2,b3,b4⟩
       .grind
       .rw[b4]at u;cases u;exact⟨m,by omega,b3,rfl⟩
      .rcases gz B c with q|q|q
       .exfalso;rcases L B a1 q with z|⟨j,z,_⟩<;>rw[K]at z<;>cases z
       .rw[q,C]at K;cases K
       .omega
      .omega
   refine nQ (λ_=>?_) λ_=>iN;refine G (J7 R ?_ ?_)
   .intro y hy;obtain⟨q,u,rfl⟩:=aM.mp hy;have I:q∈es.toList:=by grind
    have⟨j,hj⟩:=aU I;have⟨g,_,_,hg⟩:=T.are.get hj;exact⟨g,hg⟩
   .simp only[au,bD];exact iN
def uW(T:qd a_ w h es t els):es.size<=127:=by have a:=T.tab.room;have c:=T.tab.size;have b:=T.mask;unfold SetTable.fill at a;simp only[qc,af,bl,cI]at b;rcases b with q|q|q|q|q<;>rw[q]at a<;>omega
def qd.len(T:qd a_ w h es t els):es.size=els.length:=by rw[<-aQ,T.are.length]
def kL.vK:∀{l:List (Int×ae)}{els:kr},kL a_ w h l els->(∀f∈els,f.jJ=true)->ElemsOf (strKind a_ w) l
 |_,_,.nil,_=>λe b=>nomatch b
 |_,f::_,.cons c d t,a=>by
  intro p hp;rcases af.mp hp with rfl|hp
  .cases f with
   |one z=>obtain⟨tk,rfl⟩:=d;exact⟨⟨z,by show Value.isStrOf z (.str z tk)=true;simp[Value.isStrOf],c⟩,rfl⟩
   |many l=>have:=a _ bc;cases this
  .exact t.vK (λf g=>a f (aO _ g)) p hp
def kL.find{z:Str}:∀{l:List (Int×ae)}{els:kr},kL a_ w h l els->(∀f∈els,f.jJ=true)->
  (∀j,l.findIdx? (λp=>(strKind a_ w).is z p.2)=some j->els[j]?=some (.one z))/\(l.findIdx? (λp=>(strKind a_ w).is z p.2)=none->El.one z∉els)
 |_,_,.nil,_=>⟨λj q=>by simp at q,λ_ q=>nomatch q⟩
 |(k,v)::l,f::els,.cons n b t,a=>by
  have⟨c,o⟩:=t.find (z:=z) λf d=>a f (aO _ d);cases f with
  |many l=>have:=a _ bc;cases this
  |one y=>
   obtain⟨tk,rfl⟩:=b;rw[ge];have hi:(strKind a_ w).is z (Value.str y tk)=(y==z):=rfl;rw[hi];by_cases q:y=z
   .grind
   .rw[show(y==z)=false from beq_false_of_ne q];refine⟨λj e=>?_,λe m=>?_⟩
    .obtain⟨g,i,rfl⟩:=ay.mp e;exact c g i
    .have e:List.findIdx? (λp=>(strKind a_ w).is z p.2) l=none:=by simpa using e
     grind
def IH(d:s.heap.get? a=some o)(g:o.data=.set es ep t)(T:qd a_ w s.heap es t els)(h:mL a_ w s.heap e x)(n:∀f∈els,f.jJ=e.jJ)(C:A.units<cLine)
  {Q:az Nat->aj->Prop}(u:∀i,els[i]?=some e->Q (some i) s) (y:e∉els->Q none s):wpAny (model a_ w) A (setFind a x (e.hash a_ w)) Q E s:=by
 unfold setFind setFindIn;refine G (aP d g T.fits ?_);dsimp only;have D:=uW T;cases e with
 |one z=>
  have B:=T.are.vK (λf b=>n f b);have⟨F,H⟩:=T.are.find (z:=z) λf b=>n f b;obtain⟨tk,rfl⟩:=h;have I:(strKind a_ w).is z (.str z tk)=true:=by show Value.isStrOf z (.str z tk)=true;simp[Value.isStrOf]
  rw[byScan_of rfl (Nat.lt_of_le_of_lt D (by decide)) B];simp only[↓reduceIte];refine G (b9 ?_);refine G (wpAny_setScan_of (knd:=strKind a_ w) (k:=z) I d g T.fits B ?_);cases c:List.findIdx? (λe=>(strKind a_ w).is z e.2) es.toList with
  |none=>exact ac (y (H c))
  |some j=>dsimp only;rw[fj];exact ac (u j (F j c))
 |many l=>
  have J:byScan x es=false:=by unfold byScan;rw[IF h];rfl
  rw[J];simp only[au,bD];apply G;unfold setSearch;have⟨K,L,M,N⟩:=tr T.tab.toTabW ((El.many l).hash a_ w) 0;refine tv d g T h rfl (λf b=>n f b) C (λi r hi c=>?_) (λO slot wd b=>ac (y O)) 100000 0 none none rfl (λm p=>absurd p (fU _)) (λq P=>nomatch P) ⟨K,L,?_,N⟩
  .rw[c rfl];exact ac (u i hi)
  .have p:=T.mask;simp only[qc,af,bl,cI]at p;unfold turns at M
   grind
def jZ (a_:c5)(w:cy)(h:cj)(a:iJ)(els:kr)(P:ae->Prop):Prop:=∃o es ep t mh,h.get? a=some o/\o.ExactSet/\o.data=.set es ep t/\mh.Perm els/\qd a_ w h es t mh/\∀p∈es.toList,P p.2
def jZ.perm(x:jZ a_ w h a els P)(p:els.Perm mh):jZ a_ w h a mh P:=by have⟨o,es,ep,t,l,b,c,d,e,f⟩:=x;exact⟨o,es,ep,t,l,b,c,d,e.trans p,f⟩
def jZ.nodup(x:jZ a_ w h a els P):els.Nodup:=by have⟨o,es,ep,t,l,d,e,f,b,c,_⟩:=x;exact b.nodup_iff.mp c.nd
def jZ.typeIs(x:jZ a_ w s.heap a els P):s.TypeIs (.ref a) "set":=let ⟨o,_,_,_,_,b,c,_⟩:=x;⟨o,b,c.1⟩
def jZ.noDict(x:jZ a_ w s.heap a els P):∀b,Value.ref a=.ref b->∃c,s.heap.get? b=some c/\c.dict=none:=λb e=>by injection e with e;subst e;exact let ⟨o,_,_,_,_,d,f,_⟩:=x;⟨o,d,f.2.1⟩
def jZ.find(S:jZ a_ w s.heap a els P)(b:mL a_ w s.heap e x)(c:∀f∈els,f.jJ=e.jJ)(d:A.units<cLine)
  {Q:az Nat->aj->Prop}(h:∀r:az Nat,r.isSome=decide (e∈els)->Q r s):wpAny (model a_ w) A (setFind a x (e.hash a_ w)) Q E s:=by
 have⟨o,es,ep,t,l,g,p,j,k,m,q⟩:=S;refine IH g j m b (λf n=>c f (k.mem_iff.mp n)) d (λi hi=>h _ ?_) λu=>h _ ?_
 .grind
 .grind
def LS.same(T:LS t es)(b:t.mask=t'.mask)(a:t.place=t'.place)(c:t.dummies=t'.dummies):LS t' es where
 inc:=by rw[<-a];exact T.inc
 qU:=by rw[<-c];exact T.qU
 le j hj:=by rw[<-b];exact T.le j (by rw[a];exact hj)
 Rp j hj:=by rw[<-b];exact T.Rp j (by rw[c];exact hj)
 LH j hj:=by rw[<-a];exact T.LH j (by rw[c];exact hj)
 mask:=by rw[<-b];exact T.mask
 room:=by have:=T.room;unfold SetTable.fill at this⊢;rw[<-b,<-a,<-c];exact this
 size:=by rw[<-a];exact T.size
 reach i e j d hj:=by refine Reach.keep b (λk o=>?_) (T.reach i e j d (by rw[a];exact hj));unfold D7 at o⊢;rw[<-a,<-c];exact o
structure tw (prog:c5) (w:cy) (h:cj) (es:bM (Int×ae)) (t:bZ) (els:kr):Prop where
 tab:LS t es
 mask:t.mask∈qc
 are:kL prog w h es.toList els
 nd:els.Nodup
 plain:els≠[]->t.plain=false
 led:t.led=zr w
def tw.full(T:tw a_ w h es t els)(l:t.fill*5<t.mask*3):qd a_ w h es t els:=⟨T.tab,T.mask,l,T.are,T.nd,T.plain,T.led⟩
def qd.bare(T:qd a_ w h es t els):tw a_ w h es t els:=⟨T.tab,T.mask,T.are,T.nd,T.plain,T.led⟩
def tw.mono(T:tw a_ w h es t els)(k:∀p∈es.toList,∀a,p.2=.ref a->∀o,h.get? a=some o->h'.get? a=some o):tw a_ w h' es t els:=⟨T.tab,T.mask,T.are.mono k,T.nd,T.plain,T.led⟩
def qd.mono(T:qd a_ w h es t els)(k:∀p∈es.toList,∀a,p.2=.ref a->∀o,h.get? a=some o->h'.get? a=some o):qd a_ w h' es t els:=(T.bare.mono k).full T.load
def tw.fits(T:tw a_ w h es t els):t.fits es.size=true:=by unfold SetTable.fits;rw[T.tab.size];simp only[bW,Bool.true_and,eL];exact T.tab.room
def tw.len(T:tw a_ w h es t els):es.size=els.length:=by rw[<-aQ,T.are.length]
def J8(T:qd a_ w h es t els):t.fill+1<=t.mask:=by
 have a:=T.load
 grind
def IJ(T:qd a_ w h es t els)(d:mL a_ w h e x)(f:e∉els){slot:Nat}{wd:aY}(g:PM t (e.hash a_ w) slot wd)(a:t'.mask=t.mask)(b:t'.place=(t.put slot).1.place)(c:t'.dummies=(t.put slot).1.dummies)(i:t'.plain=false)(j:t'.led=t.led):
  ∃uV,uV.Perm (e::els)/\tw a_ w h (SetTable.insertAt es (t.put slot).2 (e.hash a_ w,x)) t' uV/\(wd=true->t'.fill=t.fill)/\(wd=false->t'.fill=t.fill+1):=by
 have⟨k,l,m,n⟩:=g;have o:=PJ T.tab k l (J8 T) (h:=e.hash a_ w) (x:=x) m;have r:LS t' (SetTable.insertAt es (t.put slot).2 (e.hash a_ w,x)):=o.same a.symm b.symm c.symm;have s:=Eb T.tab.toTabW slot;have u:t'.fill=(t.put slot).1.fill:=by unfold SetTable.fill;rw[b,c]
 have y:has t.dummies slot=true↔slot∈t.dummies.toList:=qs _ _ T.tab.qU;have p:(els.take (t.put slot).2++e::els.drop (t.put slot).2).Perm (e::els):=by apply bx.trans;rw[bw]
 refine⟨els.take (t.put slot).2++e::els.drop (t.put slot).2,p,⟨r,by rw[a];exact T.mask,?_,p.nodup_iff.mpr (aL.mpr ⟨f,T.nd⟩),λ_=>i,j.trans T.led⟩,λq=>?_,λq=>?_⟩
 .rw[toList_insertAt];exact kL.append (.cons rfl d (T.are.drop _)) (T.are.take _)
 .rw[u,s,aB (y.mpr (n.mp q))]
 .grind
def vL:∀n,n<128->sizeAbove n-1∈qc/\n<=sizeAbove n-1:=by tm_at"d"
def zt(T:tw a_ w h es t els)(n:es.size*2<=jb)(g:jb<128):
  ∃t' a mh,t.relaid (es.map (·.1)) jb=some (t',a)/\qd a_ w h (a.filterMap (es[·]?)) t' mh/\mh.Perm els/\(a.filterMap (es[·]?)).toList.Perm es.toList/\coversAll a es.size=true/\t'.led=t.led:=by
 have⟨b,o⟩:=vL jb g;have⟨t',a,e,c,i,p,j,d,r,k,f,s,l⟩:=zl (zq b) es (by omega) t.finger (t.movedTo (sizeAbove jb-1)) t.led t.plain;have⟨mh,q,m⟩:=T.are.perm f.symm;refine⟨t',a,mh,e,⟨k,by rw[c];exact b,?_,m,q.nodup_iff.mp T.nd,λz=>?_,d.trans T.led⟩,q.symm,f,?_,d⟩
 .rw[i,c];simp only[qc,af,bl,cI]at b
  grind
 .rw[j];refine T.plain λy=>z ?_;rw[y]at q;exact q.symm.eq_nil
 .unfold coversAll;exact List.isPerm_iff.mpr l
def zu{p:Nat}{k:Int}(a:∀p∈es.toList,P p.2)(b:P x):∀q∈(SetTable.insertAt es p (k,x)).toList,P q.2:=λq hq=>by
 rw[toList_insertAt,r0]at hq;rcases hq with rfl|hq
 .exact b
 .exact a q hq
def jZ.stored(h:s.heap.get? a=some o)(hex:o.ExactSet)(d:o.data=.set es ep t){j:kr}(k:qd a_ w s.heap wR t' mh)(p:mh.Perm j)(u:∀p∈wR.toList,P p.2):
  jZ a_ w (s.heap.update a (Obj.putSet wR t')) a j P:=by
 have x:(s.heap.update a (Obj.putSet wR t')).get? a=some {o with data:=.set wR (ep+1) t'}:=by have:=bA (Obj.putSet wR t') h (by rw[fG wR t' d];rfl);rw[fG wR t' d]at this;exact this
 refine⟨_,wR,ep+1,t',mh,x,hex,rfl,p,k.mono λq A b e C B=>?_,u⟩;by_cases z:b=a
 .subst z;exfalso;have⟨i,hi⟩:=aU A;have⟨f,_,_,g⟩:=k.are.get hi;rw[e]at g;cases f with
  |one y=>have⟨_,q⟩:=g;cases q
  |many l=>have⟨c,q,ok,items,n,m,_,r,_⟩:=g;cases q;rw[h]at m;cases m;rw[d]at r;cases r
 .exact((bK s.heap a (Obj.putSet wR t')).2 b z).trans B
def qe:(127:Nat)<=sizeLine:=by rw[dz];decide
def vM:∀n,n<128->sizeAbove n<=128:=by tm_at"d"
def Ej(T:tw a_ w h es t els):es.size<=127:=by have a:=T.tab.room;have c:=T.tab.size;have b:=T.mask;unfold SetTable.fill at a;simp only[qc,af,bl,cI]at b;rcases b with q|q|q|q|q<;>rw[q]at a<;>omega
def Ek(c:s.heap.get? a=some o)(hex:o.ExactSet)(d:o.data=.set es ep t)(T:tw a_ w s.heap es t els)(i:∀p∈es.toList,P p.2)(j:es.size*2<=jb)(e:jb<128)
  {Q:Unit->aj->Prop}(h:∀h',Heap.SameBut a s.heap h'->jZ a_ w h' a els P->Q () {s with heap:=h'}):wpAny (model a_ w) A (setRelay a jb) Q E s:=by
 unfold setRelay;refine G (aP c d T.fits ?_);dsimp only;rw[aA (by have:=vM jb e;have:=qe;rw[dz]at this⊢;omega)];have⟨t',b,mh,k,l,p,f,_⟩:=zt T j e;rw[k];apply G;have g:(b.filterMap (es[·]?)).size=es.size:=by rw[<-aQ,f.length_eq,aQ]
 show wpAny _ _ (if(b.filterMap (es[·]?)).size !=es.size then unsupported "internal:set-table-lost-an-element" else pure (b.filterMap (es[·]?),t')) _ _ _;rw[g];simp only[dj,au,bD];apply ac;refine cS c d ?_ (by rw[g];exact bq (Ej T) qe);exact h _ (bK s.heap a _) (jZ.stored c hex d l p λq m=>i q (f.mem_iff.mp m))
def G0(c:mL a_ w s.heap e x)(f:e≠.many [])(h:Q false s):wpAny (model a_ w) A (hashByValue 8 x) Q E s:=by
 cases e with
 |one z=>obtain⟨tk,rfl⟩:=c;unfold hashByValue;exact ac h
 |many l=>
  obtain⟨a,rfl,d⟩:=c;have g:=d.typeIs;have⟨o,items,n,i,m,j,hi⟩:=d;unfold hashByValue;refine G (cA g F.slot_tuple_hash.lookup ?_);refine G (cB i j ?_);dsimp only [Option.getD];cases l with
  |nil=>exact absurd rfl f
  |cons z l=>
   cases b:items.toList with
   |nil=>rw[b]at hi;cases hi
   |cons v vs=>have⟨y,tk,k⟩:=xG hi v (by rw[b];exact bc);subst k;rw[<-dD,b,cW];refine G (G ?_);unfold hashByValue;refine G (ac ?_);simp only[Bool.not_false,dR];apply ac;exact ac (ac h)
def IK(h:¬t.tooFull=true):t.fill*5<t.mask*3:=by unfold SetTable.tooFull at h;simp only[ge_iff_le,eL]at h;omega
def Em(T:qd a_ w h es t els)(k:Int):∃slot wd,t.freeSlot k=some (slot,wd)/\PM t k slot wd:=by
 have W:=T.tab.toTabW;rcases Ea W (λ_=>k+1) k 0 none with⟨c,d,l,b,n,o,p⟩|⟨c,i,d,l,b,f,_⟩
 .have a:∀m,m<c->D7 t (sq t k m).j:=λm r=>(D8 W).mpr (by rcases n m (cg _) r with z|⟨i,z,_⟩<;>rw[z]<;>intro y<;>cases y)
  have e:t.probe (λ_=>k+1) k (t.probeStart k)=some (.empty (sq t k c).j d):=o;unfold SetTable.freeSlot;rw[e];refine⟨_,_,rfl,?_⟩;rcases p with rfl|⟨m,x,A,s,rfl⟩
  .refine⟨Bs _ _,λq=>(nc W).mp b (.inl q),⟨c,rfl,a⟩,⟨λz=>(nomatch z),λq=>absurd (Or.inr q) ((nc W).mp b)⟩⟩
  .have g:=(zj W).mp s;exact⟨Bs _ _,λq=>W.LH _ g q,⟨m,rfl,λu B=>a u (by omega)⟩,⟨λ_=>g,λ_=>rfl⟩⟩
 .have f:k+1=k:=f;omega
def nY(h:n<=31):grown n=n*4:=by unfold grown;rw[aA (by omega)]
def IL{f:dq->dq}(k:s.heap.get? a=some o)(m:o.data=.set es ep t)(g:qd a_ w s.heap wR t' mh):qd a_ w (s.heap.update a f) wR t' mh:=
 g.mono λq p b e u r=>by
 by_cases z:b=a
 .subst z;exfalso;have⟨i,hi⟩:=aU p;have⟨f,_,_,d⟩:=g.are.get hi;rw[e]at d;cases f with
  |one y=>have⟨_,q⟩:=d;cases q
  |many l=>have⟨c,q,ok,items,n,h,_,j,_⟩:=d;cases q;rw[k]at h;cases h;rw[m]at j;cases j
 .exact((bK s.heap a f).2 b z).trans r
def En{g:aY->Sem Unit}(B:∀(b:aY) (j:aj) (k:Unit->aj->Prop),k () j->wpAny (model a_ w) A (g b) k E j)
  (e:s.heap.get? a=some o) (hex:o.ExactSet) (d:o.data=.set es ep t) (l:tw a_ w s.heap rk t1 uV) (m:uV.Perm k8) (n:∀p∈rk.toList,P p.2) (r:rk.size<=31)
   (C:nd=false->t1.fill*5<t1.mask*3){R:az aY->aj->Prop}(h:∀h',Heap.SameBut a s.heap h'->jZ a_ w h' a k8 P->R (some true) {s with heap:=h'}):
  wpAny (model a_ w) A (do
    storeSet a rk t1
    if(nd&&t1.tooFull)=true then do
      g (relayAll t1 rk (SetTable.grown rk.size)).2.2
      storeSet a (relayAll t1 rk (SetTable.grown rk.size)).1 (relayAll t1 rk (SetTable.grown rk.size)).2.1
      pure (some true)
     else pure (some true)) R E s:=by
 refine G (cS e d ?_ (by have:=qe;omega));have u:=bK s.heap a (Obj.putSet rk t1);have x:(s.heap.update a (Obj.putSet rk t1)).get? a=some {o with data:=.set rk (ep+1) t1}:=by have:=bA (Obj.putSet rk t1) e (by rw[fG rk t1 d];rfl);rw[fG rk t1 d]at this;exact this
 refine nQ (λf=>?_) λf=>?_
 .have⟨t',c,mh,D,y,p,z,i,_⟩:=zt l (jb:=grown rk.size) (by rw[nY r];omega) (by rw[nY r];omega);have F:(c.filterMap (rk[·]?)).size=rk.size:=by rw[<-aQ,z.length_eq,aQ]
  have H:relayAll t1 rk (grown rk.size)=(c.filterMap (rk[·]?),t',false):=by unfold relayAll;rw[D];dsimp only;rw[aB (by rw[i,y.fits];rfl)]
  rw[H];refine G (B _ _ _ ?_);refine G (cS x rfl ?_ (by rw[F];have:=qe;omega));have I:qd a_ w (s.heap.update a (Obj.putSet rk t1)) (c.filterMap (rk[·]?)) t' mh:=IL e d y;exact ac (h _ (u.trans (bK _ a _)) (jZ.stored (o:={o with data:=.set rk (ep+1) t1}) x hex rfl I (p.trans m) λq f=>n q (z.mem_iff.mp f)))
 .refine ac (h _ u (jZ.stored e hex d (l.full ?_) m n));cases nd with
  |false=>exact C rfl
  |true=>exact IK (by simpa using f)
def Mx(i:s.heap.get? a=some o)(hex:o.ExactSet)(l:o.data=.set es ep t)(T:qd a_ w s.heap es t els){z:Str}{tk:Tok}(F:∀p∈es.toList,P p.2)(H:P (.str z tk))(r:∀f∈els,f.jJ=true)(X:els.length<31)
  {Q:az aY->aj->Prop}(I:El.one z∈els->Q (some false) s) (u:El.one z∉els->∀h',Heap.SameBut a s.heap h'->jZ a_ w h' a (.one z::els) P->Q (some true) {s with heap:=h'}):
  wpAny (model a_ w) A (setAddByScan a (.str z tk) (hashStr w z) es t) Q E s:=by
 have J:=T.are.vK (λf m=>r f m);have⟨K,L⟩:=T.are.find (z:=z) λf m=>r f m;have M:(strKind a_ w).is z (.str z tk)=true:=by show Value.isStrOf z (.str z tk)=true;simp[Value.isStrOf]
 have N:mL a_ w s.heap (.one z) (.str z tk):=⟨tk,rfl⟩
 unfold setAddByScan;refine G (b9 ?_);refine G (wpAny_setScan_of (knd:=strKind a_ w) (k:=z) M i l T.fits J ?_);cases x:List.findIdx? (λe=>(strKind a_ w).is z e.2) es.toList with
 |some j=>exact ac (I (bv (K j x)))
 |none=>
  have n:=L x;have⟨slot,wd,O,R⟩:=Em T ((El.one z).hash a_ w);have⟨uV,h,d,S,Y⟩:=IJ T N n R (t':={(t.put slot).1 with plain:=false}) rfl rfl rfl rfl rfl;have y:(t.put slot).1.fits (SetTable.insertAt es (t.put slot).2 (hashStr w z,Value.str z tk)).size=true:=d.fits;have U:layNew t es (hashStr w z) (.str z tk)=(SetTable.insertAt es (t.put slot).2 (hashStr w z,.str z tk),(t.put slot).1,wd,false):=by unfold layNew;rw[show t.freeSlot (hashStr w z)=some (slot,wd)from O];dsimp only;rw[show(t.put slot).1.fits (SetTable.insertAt es (t.put slot).2 (hashStr w z,Value.str z tk)).size=true from y];unfold SetTable.orStandIn;rw[aB y];rfl
  rw[U];refine G (ac ?_);have V:∀(b:aY) (jw:aj) (g:Unit->aj->Prop),g () jw->wpAny (model a_ w) A (match b with|true=>rule "set.scan.the-table-gave-way"|false=>pure ()) g E jw:=λb jw g c=>by cases b<;>first|exact ac c|exact b9 c
  have B:=zu (k:=hashStr w z) (p:=(t.put slot).2) F H;have C:(!wd)=false->(({(t.put slot).1 with plain:=false}:bZ)).fill*5<(({(t.put slot).1 with plain:=false}:bZ)).mask*3:=λq=>by rw[S (by simpa using q)];exact T.load
  refine nQ (λD=>?_) λD=>?_
  .refine G ?_;rw[hashByValue_scannable 8 rfl];apply ac;refine En ?_ i hex l d h B (by rw[d.len,h.length_eq,aI];omega) C (u n);intro b jw g c;cases b<;>first|exact ac c|exact b9 c
  .refine G (ac ?_);have W:(t.put slot).1={(t.put slot).1 with plain:=false}:=by
    have:(t.put slot).1.plain=false:=by simpa using D
    rw[<-this]
   simp only[↓reduceIte];rw[W];refine En ?_ i hex l d h B (by rw[d.len,h.length_eq,aI];omega) C (u n);intro b jw g c;cases b<;>first|exact ac c|exact b9 c
def J_{jc:aY}(d:s.heap.get? a=some o)(g:o.data=.set es ep t)(T:qd a_ w s.heap es t els)(h:mL a_ w s.heap e x)(j:e.jJ=false)(k:∀f∈els,f.jJ=false)(l:A.units<cLine)
  {Q:SetFound->aj->Prop}(n:∀i r,els[i]?=some e->(jc=false->r=some i)->Q (.there r) s) (p:e∉els->∀slot wd,PM t (e.hash a_ w) slot wd->Q (.free slot wd) s):
  wpAny (model a_ w) A (setSearch a x (e.hash a_ w) jc) Q E s:=by
 unfold setSearch;have⟨u,y,c,z⟩:=tr T.tab.toTabW (e.hash a_ w) 0;refine tv d g T h j k l n p 100000 0 none none rfl (λm b=>absurd b (fU _)) (λq B=>nomatch B) ⟨u,y,?_,z⟩;have b:=T.mask;simp only[qc,af,bl,cI]at b;unfold turns at c;rcases b with q|q|q|q|q<;>rw[q]at c<;>omega
def G1(j:s.heap.get? a=some o)(hex:o.ExactSet)(d:o.data=.set es ep t)(k:tw a_ w s.heap rk t1 uV)(u:uV.Perm k8)(x:∀p∈rk.toList,P p.2)(B:rk.size<=31)
   (F:n=rk.size) (H:nd=false->t1.fill*5<t1.mask*3) (h:∀h',Heap.SameBut a s.heap h'->jZ a_ w h' a k8 P->Q true {s with heap:=h'}):
  wpAny (model a_ w) A (do
    storeSet a rk t1
    if(nd&&t1.tooFull)=true then setRelay a (SetTable.grown n)
    return true) Q E s:=by
 subst F;refine G (cS j d ?_ (by have:=qe;omega));have m:=bK s.heap a (Obj.putSet rk t1);have I:(s.heap.update a (Obj.putSet rk t1)).get? a=some {o with data:=.set rk (ep+1) t1}:=by have:=bA (Obj.putSet rk t1) j (by rw[fG rk t1 d];rfl);rw[fG rk t1 d]at this;exact this
 have J:tw a_ w (s.heap.update a (Obj.putSet rk t1)) rk t1 uV:=k.mono λq g b e N K=>by
  by_cases z:b=a
  .subst z;exfalso;have⟨i,hi⟩:=aU g;have⟨f,_,_,r⟩:=k.are.get hi;rw[e]at r;cases f with
   |one y=>have⟨_,q⟩:=r;cases q
   |many l=>have⟨c,q,ok,items,n,C,_,D,_⟩:=r;cases q;rw[j]at C;cases C;rw[d]at D;cases D
  .exact(m.2 b z).trans K
 by_cases g:(nd&&t1.tooFull)=true
 .rw[aB g];refine G (Ek (s:={s with heap:=s.heap.update a (Obj.putSet rk t1)}) (o:={o with data:=.set rk (ep+1) t1}) I hex rfl J x (by rw[nY B];omega) (by rw[nY B];omega) λh' L M=>?_);exact ac (h h' (m.trans L) (M.perm u))
 .rw[aA g];refine G (ac (ac (h _ m (jZ.stored j hex d (k.full ?_) u x))));cases nd with
  |false=>exact H rfl
  |true=>exact IK (by simpa using g)
def Mz(K:jZ a_ w s.heap a els P)(b:mL a_ w s.heap e x)(L:∀f∈els,f.jJ=e.jJ)(M:e≠.many [])(B:P x)(N:els.length<31)(O:A.units<cLine)
   (C:e∈els->Q false s) (D:e∉els->∀h',Heap.SameBut a s.heap h'->jZ a_ w h' a (e::els) P->Q true {s with heap:=h'}):wpAny (model a_ w) A (setAddHashed a x (e.hash a_ w)) Q E s:=by
 have⟨o,es,ep,t,l,c,hex,d,p,T,F⟩:=K;have j:∀f∈l,f.jJ=e.jJ:=λf u=>L f (p.mem_iff.mp u);have R:l.length<31:=by rw[p.length_eq];exact N
 unfold setAddHashed;apply aF;unfold setAddHashedIn;refine G (aP c d T.fits ?_);dsimp only;cases e with
 |one z=>have S:=T.are.vK (λf u=>j f u);obtain⟨tk,rfl⟩:=b;rw[byScan_of rfl (Nat.lt_of_le_of_lt (uW T) (by decide)) S];simp only[↓reduceIte];refine G (Mx c hex d T F B j R (λU=>ac (C (p.mem_iff.mp U))) λh h' V W=>?_);exact ac (D (λq=>h (p.mem_iff.mpr q)) h' V (W.perm (p.cons _)))
 |many m=>
  have X:byScan x es=false:=by unfold byScan;rw[IF b];rfl
  rw[X];simp only[au,bD];refine G (J_ (jc:=true) c d T b rfl j O (λi r hi hr=>ac (C (p.mem_iff.mp (bv hi)))) λh slot wd Y=>?_);refine G (aP c d T.fits ?_);have⟨uV,H,I,Z,l2⟩:=IJ T b h Y (t':={(t.put slot).1 with plain:=false}) rfl rfl rfl rfl rfl;have YG:=zu (k:=(El.many m).hash a_ w) (p:=(t.put slot).2) F B;have J:(SetTable.insertAt es (t.put slot).2 ((El.many m).hash a_ w,x)).size=es.size+1:=by rw[I.len,H.length_eq,aI,T.len]
  have sK:(!wd)=false->(({(t.put slot).1 with plain:=false}:bZ)).fill*5<(({(t.put slot).1 with plain:=false}:bZ)).mask*3:=λq=>by rw[Z (by simpa using q)];exact T.load
  have g:=G1 (A:=A) (E:=E) (Q:=Q) c hex d I (H.trans (p.cons _)) YG (by rw[J,T.len];omega) (n:=es.size+1) J.symm sK (D λq=>h (p.mem_iff.mpr q));by_cases y:(t.put slot).1.plain=true
  .rw[aB y];refine G (G0 b M ?_);simp only[au,bD];exact g
  .rw[aA y];refine G (ac ?_);have he:(t.put slot).1={(t.put slot).1 with plain:=false}:=by
    have:(t.put slot).1.plain=false:=by simpa using y
    rw[<-this]
   simp only[↓reduceIte];rw[he];exact g
def Ka{M:fL}{a:Source}{Q:Nat->aj->Prop}(h:n≠0)(q:∀i,i<n->∀d,Q i {s with drawn:=d}):wpAny M A (choose a n) Q E s:=λb p c=>by unfold choose;rw[Sem.wp_choose];refine⟨h,?_⟩;rw[Sem.wp_pure];exact q _ (hZ _ (Nat.pos_of_ne_zero h)) _
def py{b:Type}:∀{l:List b}{i:Nat}{x:b},l[i]?=some x->(x::l.eraseIdx i).Perm l
 |a::l,0,x,e=>by cases e;exact .refl _
 |a::l,i+1,x,e=>by have:=py (l:=l) (i:=i) e;exact(List.Perm.swap _ _ _).trans (this.cons a)
def r_{M:fL}{b:Type}{Q:List b->aj->Prop}:∀(n:Nat) (xs:List b) (s:aj),xs.length<=n->(∀ys d,ys.Perm xs->Q ys {s with drawn:=d})->wpAny M A (drawOrder n xs) Q E s
 |0,xs,s,a,q=>by obtain rfl:xs=[]:=cT (by omega);unfold drawOrder;exact ac (q [] s.drawn (.refl _))
 |n+1,[],s,a,q=>by unfold drawOrder;exact ac (q [] s.drawn (.refl _))
 |n+1,y::xs,s,a,q=>by
  unfold drawOrder;refine G (Ka (by simp) λi hi d=>?_);cases c:(y::xs)[i]? with
  |none=>rw[dI]at c;omega
  |some x=>have e:=py c;refine G (r_ n ((y::xs).eraseIdx i) {s with drawn:=d} ?_ λys f g=>ac (q _ f ((g.cons x).trans e)));have:=e.length_eq;simp only[aI]at this a;omega
def vN{b:Type}{next:Nat->Nat}:∀(iX k:Nat) (left:List b) (a:bM b),left.length<=iX->(pickOrder.go next iX k left a).toList.Perm (a.toList++left)
 |0,k,left,a,e=>by obtain rfl:left=[]:=cT (by omega);unfold pickOrder.go;simp
 |iX+1,k,left,a,e=>by
  unfold pickOrder.go;cases c:left[next k % left.length]? with
  |none=>
   rw[dI]at c;have:left.length=0:=by
    rcases Nat.eq_zero_or_pos left.length with q|q
    .exact q
    .have:=hZ (next k) q;omega
   obtain rfl:left=[]:=cT this;simp
  |some x=>have d:=py c;have f:=d.length_eq;simp only[aI]at f;apply(vN iX (k+1) _ _ (by omega)).trans;rw[dk,cw];exact(List.Perm.refl _).append d
def tz{a:Type}(next:Nat->Nat)(xs:bM a):(pickOrder next xs).toList.Perm xs.toList:=by unfold pickOrder;apply(vN _ _ _ _ (by simp)).trans;simp
structure wU (prog:c5) (w:cy) (h:cj) (P:ae->Prop) (els:kr) (l:List (Int×ae)):Prop where
 ex:∃mh,mh.Perm els/\kL prog w h l mh
 all:∀p∈l,P p.2
def IM(f:jZ a_ w s.heap a els P){Q:bM (Int×ae)->aj->Prop}(q:∀l d,wU a_ w s.heap P els l.toList->Q l {s with drawn:=d}):wpAny (model a_ w) A (setWalk a) Q E s:=by
 have⟨o,es,ep,t,l,g,hex,h,p,T,i⟩:=f;have b:∀l':List (Int×ae),l'.Perm es.toList->wU a_ w s.heap P els l':=λl' c=>by have⟨mh,q1,j⟩:=T.are.perm c.symm;exact⟨⟨mh,q1.symm.trans p,j⟩,λz k=>i z (c.mem_iff.mp k)⟩
 unfold setWalk setsByText;refine G (aP g h T.fits ?_);refine G (G (bU (ac ?_)));refine nQ (λ_=>?_) λ_=>?_
 .refine G (bU (ac ?_));exact q _ s.drawn (b _ (tz _ _))
 .show wpAny _ A (if(!t.plain&&decide (es.size>1))=true then(do return (<-drawOrder es.size es.toList).toArray)else(do (if(!t.led&&decide (es.size>1))=true then unsupported "set:maker-not-led" else pure ());return es)) Q E s;refine nQ (λ_=>?_) λe=>?_
  .refine G (r_ _ _ _ (by simp) λys d c=>ac (q _ d ?_));exact b _ c
  .have m:¬es.size>1:=λn=>by
    have r:=T.plain λz=>by have:=T.len;rw[z,bL]at this;omega
    rw[r]at e;simp[n]at e
   rw[aA (by simp[m])];exact G (ac (ac (q _ s.drawn (b _ (.refl _)))))
def G2{l:kr}{i:Nat}(hi:l[i]?=some e):(l.eraseIdx i).Perm (l.erase e):=((py hi).trans (List.perm_cons_erase (bv hi))).cons_inv
def qd.small(T:qd a_ w h es t els):es.size<=sizeLine:=bq (uW T) qe
def G3(n:jZ a_ w s.heap a els P)(r:mL a_ w s.heap e x)(u:∀f∈els,f.jJ=e.jJ)(y:A.units<cLine)
   (B:e∉els->Q false s) (C:e∈els->∀h',Heap.SameBut a s.heap h'->jZ a_ w h' a (els.erase e) P->Q true {s with heap:=h'}):wpAny (model a_ w) A (setDiscardHashed a x (e.hash a_ w)) Q E s:=by
 have⟨o,es,ep,t,l,c,hex,d,p,T,D⟩:=n;have F:∀f∈l,f.jJ=e.jJ:=λf H=>u f (p.mem_iff.mp H);unfold setDiscardHashed;refine G (IH c d T r F y (λi hi=>?_) λI=>ac (B λq=>I (p.mem_iff.mpr q)));dsimp only;refine G (aP c d T.fits ?_);dsimp only;have b:i<es.size:=by rw[T.len];exact(aC.mp hi).1
 have⟨J,K⟩:=Mu T.tab b;have L:i<t.place.size:=by rw[T.tab.size];exact b
 obtain⟨j,g⟩:∃j,t.place[i]?=some j:=⟨t.place[i],by simp[L]⟩
 have h:(t.drop i).mask=t.mask:=by rw[yG g]
 have M:(t.drop i).plain=t.plain:=by rw[yG g]
 have k:qd a_ w s.heap (eraseAt es i) (t.drop i) (l.eraseIdx i):={
  tab:=J,mask:=by rw[h];exact T.mask,load:=by rw[K,h];exact T.load
  are:=by rw[lU];exact T.are.eraseIdx i
  nd:=T.nd.sublist (eG _ _)
  plain:=λq=>by rw[M];exact T.plain λz=>q (by rw[z];rfl)
  led:=by rw[yG g];exact T.led}
 refine G (cS c d ?_ k.small);refine G (wpAny_point (ac (C (p.mem_iff.mp (bv hi)) _ (bK s.heap a _) ?_)));refine jZ.stored c hex d k ((G2 hi).trans (p.erase e)) λq m=>D q ?_;rw[lU]at m;exact(eG _ _).subset m
def PN(b:jZ a_ w s.heap a els P)(f:els.length<=31){Q:Unit->aj->Prop}(h:∀h',Heap.SameBut a s.heap h'->jZ a_ w h' a els P->Q () {s with heap:=h'}):wpAny (model a_ w) A (setTidy a) Q E s:=by
 have g:=b;have⟨o,es,ep,t,l,c,hex,d,p,T,i⟩:=b;unfold setTidy;refine G (aP c d T.fits ?_);have e:es.size<=31:=by rw[T.len,p.length_eq];exact f
 refine nQ (λ_=>?_) λ_=>ac (h s.heap (.refl _ _) g);refine Ek c hex d T.bare i (by rw[nY e];omega) (by rw[nY e];omega) λh' j k=>h h' j (k.perm p)
def Bx:qd a_ w h #[] (.fresh 0 0 (zr w)) [] where
 tab:={
  inc:=List.Pairwise.nil
  qU:=List.Pairwise.nil
  le:=λj a=>by cases a
  Rp:=λj a=>by cases a
  LH:=λj a=>by cases a
  mask:=Ro
  room:=by show(0:Nat)<=7;decide
  size:=rfl
  reach:=λi e j b a=>by simp at b}
 mask:=by show 7∈qc;decide
 load:=by show 0*5<7*3;decide
 are:=.nil
 nd:=.nil
 plain:=λq=>absurd rfl q
 led:=rfl
def MA{Q:nz}
  (q:∀o,jZ a_ w (s.heap.push o) s.heap.objs.size [] P->(s.heap.push o).get? s.heap.objs.size=some o->Q (.ref s.heap.objs.size) {s with heap:=s.heap.push o}):
  wpAny (model a_ w) A (newSet (.type "set")) Q E s:=by
 unfold newSet setsByText;refine G (G (bU (ac ?_)));simp only[newObj];refine G (iq (ac (q _ ⟨_,#[],0,_,[],am _ rfl,⟨rfl,rfl,rfl⟩,rfl,.refl _,Bx,λp a=>by simp at a⟩ (am _ rfl))))
def lj (l:kr)(e:El):kr:=if e∈l then l else e::l
def ku (l:kr)(m:kr):kr:=m.foldl lj l
def wV(l:kr)(e:El):(lj l e).length<=l.length+1:=by unfold lj;split<;>simp
def nt(l:kr)(e f:El):f∈lj l e↔f∈l∨f=e:=by
 unfold lj
 grind
def lN:∀(m l:kr) (f:El),f∈ku l m↔f∈l∨f∈m
 |[],l,f=>by simp[ku]
 |e::m,l,f=>by show f∈ku (lj l e) m↔_;rw[lN m,nt,af,or_assoc]
def si:∀(m l:kr),(ku l m).length<=l.length+m.length
 |[],l=>by simp[ku]
 |e::m,l=>by have a:=si m (lj l e);have b:=wV l e;show(ku (lj l e) m).length<=_;simp only[aI];omega
def lR:∀(m l:kr),l.Nodup->(ku l m).Nodup
 |[],l,h=>h
 |e::m,l,h=>lR m _ (by
   unfold lj;split
   .exact h
   .rename_i q;exact aL.mpr ⟨q,h⟩)
def uY(h:m.Nodup):(ku [] m).Perm m:=by refine(cJ (lR m [] .nil) h).mpr λf=>?_;rw[lN];simp
def qf(b:s.heap.get? a=some o)(c:o.data=.set es ep t)(T:qd a_ w s.heap es t els){Q:bM (Int×ae)->aj->Prop}(q:Q es s):wpAny (model a_ w) A (setEntries a) Q E s:=by unfold setEntries;exact G (aP b c T.fits (ac q))
def Kb(T:∀a∈l,∃o es ep t els,s.heap.get? a=some o/\o.data=.set es ep t/\qd a_ w s.heap es t els/\∀f∈els,f.jJ=true)(q:Q true s):wpAny (model a_ w) A (setsQuiet l) Q E s:=by
 unfold setsQuiet;refine G (dA _ (λiN r b=>r.1=none/\b=s/\∀a∈iN,∃o es ep t els,s.heap.get? a=some o/\o.data=.set es ep t/\qd a_ w s.heap es t els/\∀f∈els,f.jJ=true) _ ?_ ?_ _ _ ⟨rfl,rfl,T⟩)
 .rintro a iN r b ⟨c,rfl,h⟩;have⟨o,es,ep,t,els,j,m,T,n⟩:=h a bc;refine G (qf j m T ?_);rw[<-dD];have u:=T.are.vK n;refine G (dA _ (λiN r d=>r.1=none/\d=b/\∀p∈iN,p.2.scannable=true) _ ?_ ?_ _ _ ⟨rfl,rfl,λp e=>(u p e).2⟩)
  .rintro⟨k,v⟩ x D d ⟨g,rfl,i⟩;have y:=i (k,v) bc;have more:∀p∈x,p.2.scannable=true:=λp e=>i p (aO _ e);cases v<;>first|(cases y;done)|exact ac ⟨rfl,rfl,more⟩
  .rintro⟨z,B⟩ d ⟨g,rfl,_⟩;simp only at g;subst g;exact ac ⟨rfl,rfl,λa C=>h a (aO _ C)⟩
 .rintro⟨z,B⟩ b ⟨c,rfl,_⟩;simp only at c;subst c;exact ac q
def G4{l:jj}(e:s.heap.get? a=some o)(g:o.data=.set es ep t)(T:qd a_ w s.heap es t els)(i:∀f∈els,f.jJ=false)(j:els≠[])(q:Q false s):wpAny (model a_ w) A (setsQuiet (a::l)) Q E s:=by
 unfold setsQuiet;rw[cW];refine G (G (G (qf e g T ?_)));rw[<-dD];have c:=T.are;cases d:es.toList with
 |nil=>rw[d]at c;cases c;exact absurd rfl j
 |cons p iN=>
  rw[d]at c;cases c with
  |cons x n y=>
   rename_i k v f mh;cases f with
   |one z=>have:=i _ bc;cases this
   |many m=>obtain⟨b,rfl,r⟩:=n;have u:=r.typeIs;rw[cW];refine G (G ?_);refine G (cA u F.slot_tuple_eq.lookup ?_);refine nQ (λ_=>ac ?_) λh=>absurd (by decide) h;apply ac;exact ac (ac (ac q))
def qd.marks(T:qd a_ w h es t els)(led a:aY)(b:els≠[]->a=false)(c:led=zr w):qd a_ w h es {t with led:=led,plain:=a} els:=⟨T.tab.same rfl rfl rfl,T.mask,T.load,T.are,T.nd,b,c⟩
def A6(B:jZ a_ w s.heap b k8 P)(Sa:jZ a_ w s.heap a els P)(Z:b≠a)(u:∀f∈els,f.jJ=k)(K:∀f∈k8,f.jJ=k){Q:bM (Int×ae)->aj->Prop}
  (q:∀l h' d,Heap.SameBut a s.heap h'->jZ a_ w h' a els P->wU a_ w h' P k8 l.toList->Q l {s with heap:=h',drawn:=d}):wpAny (model a_ w) A (setWalkUnseen b [a] (some a)) Q E s:=by
 have L:=B;have C:=Sa;have⟨o,es,ep,t,l,D,hex,F,p,T,M⟩:=B;have⟨oa,H,N,ta,la,j,O,m,R,g,x⟩:=Sa;have plain:wpAny (model a_ w) A (setWalk b) Q E s:=IM L λl d S=>q l s.heap d (.refl _ _) C S;unfold setWalkUnseen setsByText;refine G (aP D F T.fits ?_);dsimp only;refine G (G (bU (ac ?_)));dsimp only;refine nQ (λ_=>plain) λU=>?_;have V:l≠[]:=λz=>by
  have:=T.len
  grind
 have fill:∀(h':cj),Heap.SameBut a s.heap h'->wU a_ w h' P k8 es.toList:=λh' r=>by
  refine⟨⟨l,p,T.are.mono λz W c e ob X=>?_⟩,M⟩;refine(r.2 c λq=>?_).trans X;subst q;obtain⟨i,hi⟩:=aU W;obtain⟨f,_,_,h⟩:=T.are.get hi;rw[e]at h;cases f with
  |one y=>obtain⟨_,q⟩:=h;cases q
  |many l=>obtain⟨c',q,ok,items,n,u,_,I,_⟩:=h;cases q;rw[j]at u;cases u;rw[m]at I;cases I
 cases k with
 |false=>refine G (G4 D F T (λf h=>K f (p.mem_iff.mp h)) V ?_);exact plain
 |true=>
  refine G (Kb (l:=[b,a]) (λc U=>?_) ?_)
  .grind
  .simp only[dy,au,bD];refine G (b9 ?_);refine G (aP j m g.fits ?_);dsimp only;by_cases J:(ta.led&&!t.led||ta.plain&&!t.plain)=true
   .rw[aB J];have Y:qd a_ w s.heap H {ta with led:=ta.led&&t.led,plain:=ta.plain&&t.plain} la:=g.marks _ _ (λz=>by rw[g.plain z];rfl) (by rw[g.led,T.led,gH]);refine G (cS j m ?_ g.small);have r:=bK s.heap a (Obj.putSet H {ta with led:=ta.led&&t.led,plain:=ta.plain&&t.plain});exact ac (q es _ s.drawn r (jZ.stored j O m Y R x) (fill _ r))
   .rw[aA J];exact G (ac (ac (q es s.heap s.drawn (.refl _ _) C (fill _ (.refl _ _)))))
def Eo{a:kr}(d:m.Perm a){l l':kr}(b:l.Perm l')(c:l.Nodup):(ku l m).Perm (ku l' a):=by refine(cJ (lR m l c) (lR a l' (b.nodup_iff.mp c))).mpr λf=>?_;rw[lN,lN,d.mem_iff,b.mem_iff]
structure vn (prog:c5) (w:cy) (s0:aj) (a:iJ) (P:ae->Prop) (k:aY) (zp m0:kr) (rest:List (Int×ae)) (s:aj):Prop where
 but:Heap.SameBut a s0.heap s.heap
 same:s={s0 with heap:=s.heap}
 all:∀p∈rest,P p.2
 ex:∃m els,kL prog w s.heap rest m/\jZ prog w s.heap a els P/\(∀f∈els,f.jJ=k)/\(∀f∈m,f.jJ=k)/\(∀f∈m,f≠.many [])/\els.length+m.length<=31/\∀f,(f∈els∨f∈m)↔(f∈zp∨f∈m0)
def vn.turn{iN:List (Int×ae)}{j:Int}(K:A.units<cLine)(I:vn a_ w s0 a P k zp m0 ((j,v)::iN) s)(q:∀b x,vn a_ w s0 a P k zp m0 iN x->Q b x):wpAny (model a_ w) A (setAddHashed a v j) Q E s:=by
 have⟨g,same,all,m,els,L,r,h,B,C,M,Y⟩:=I;cases L with
 |cons j N u=>
  rename_i e m;subst j;have D:∀p∈iN,P p.2:=λp O=>all p (aO _ O);have F:∀f∈m,f.jJ=k:=λf d=>B f (aO _ d);have G:∀f∈m,f≠.many []:=λf d=>C f (aO _ d);simp only[aI]at M;refine Mz r N (λf d=>by rw[h f d,B e bc]) (C e bc) (all _ bc) (by omega) K (λZ=>?_) λhn h' H R=>?_
  .refine q _ _ ⟨g,same,D,m,els,u,r,h,F,G,by omega,λf=>?_⟩
   grind
  .refine q _ _ ⟨g.trans H,by rw[same],D,m,e::els,u.mono λz S c T ob U=>?_,R,λf d=>?_,F,G,by simp only[aI];omega,λf=>?_⟩
   .refine(H.2 c λV=>?_).trans U;subst V;have⟨i,hi⟩:=aU S;have⟨f,_,_,d⟩:=u.get hi;rw[T]at d;cases f with
    |one y=>have⟨_,q⟩:=d;cases q
    |many l=>have⟨c',q,ok,items,n,h,_,J,_⟩:=d;cases q;have⟨o,es,ep,t,l',W,hex,X,_⟩:=r;rw[W]at h;cases h;rw[X]at J;cases J
   .grind
   .grind
def vn.done(d:zp.Nodup)(I:vn a_ w s0 a P k zp m0 [] s):Heap.SameBut a s0.heap s.heap/\s={s0 with heap:=s.heap}/\jZ a_ w s.heap a (ku zp m0) P:=by have⟨b,same,all,m,els,e,c,h,i,j,l,g⟩:=I;cases e;refine⟨b,same,c.perm ((cJ c.nodup (lR _ _ d)).mpr λf=>?_)⟩;have:=g f;rw[lN,<-this];simp
def CE (a_:c5)(w:cy)(h:cj)(a:iJ)(els:kr)(P:ae->Prop)(n:Nat):Prop:=∃o es ep t mh,h.get? a=some o/\o.ExactSet/\o.data=.set es ep t/\mh.Perm els/\qd a_ w h es t mh/\(∀p∈es.toList,P p.2)/\(es.size+n)*5<t.mask*3
def CE.at(x:CE a_ w h a els P n):jZ a_ w h a els P:=let ⟨o,es,ep,t,l,b,c,d,e,f,g,_⟩:=x;⟨o,es,ep,t,l,b,c,d,e,f,g⟩
def PQ(B:jZ a_ w s.heap a els P)(L:els.length+n<=31){Q:Unit->aj->Prop}(h:∀h',Heap.SameBut a s.heap h'->CE a_ w h' a els P n->Q () {s with heap:=h'}):wpAny (model a_ w) A (setRoomFor a n) Q E s:=by
 have⟨o,es,ep,t,l,d,hex,c,p,T,f⟩:=B;have M:es.size=els.length:=by rw[T.len,p.length_eq]
 unfold setRoomFor;refine G (aP d c T.fits ?_);unfold SetTable.roomFor;by_cases m:(t.fill+n)*5 ≥ t.mask*3
 .rw[aB m,T.tab.size];unfold setRelay;refine G (aP d c T.fits ?_);dsimp only;have r:(es.size+n)*2<128:=by omega
  have⟨e,u⟩:=vL ((es.size+n)*2) r;rw[aA (by have:=vM _ r;have:=qe;rw[dz]at this⊢;omega)];have⟨t',b,C,g,D,N,F,H,O,I,i,x,R⟩:=zl (zq e) es (by omega) t.finger (t.movedTo (sizeAbove ((es.size+n)*2)-1)) t.led t.plain;rw[show t.relaid (es.map (·.1)) ((es.size+n)*2)=some (t',b)from C];have⟨mh,q,J⟩:=T.are.perm i.symm;have j:qd a_ w s.heap (b.filterMap (es[·]?)) t' mh:=⟨I,by rw[g];exact e,by
   rw[D,g];simp only[qc,af,bl,cI]at e;rcases e with q|q|q|q|q<;>rw[q]at u⊢<;>omega,J,q.nodup_iff.mp T.nd,λz=>by
   rw[F];refine T.plain λy=>z ?_;rw[y]at q;exact q.symm.eq_nil,H.trans T.led⟩
  apply G;show wpAny _ _ (if(b.filterMap (es[·]?)).size !=es.size then unsupported "internal:set-table-lost-an-element" else pure (b.filterMap (es[·]?),t')) _ _ _;rw[x];simp only[dj,au,bD];apply ac;refine cS d c ?_ j.small;have S:=jZ.stored (P:=P) d hex c j (q.symm.trans p) λq k=>f q (i.mem_iff.mp k);have K:(s.heap.update a (Obj.putSet (b.filterMap (es[·]?)) t')).get? a=some {o with data:=.set (b.filterMap (es[·]?)) (ep+1) t'}:=by have:=bA (Obj.putSet (b.filterMap (es[·]?)) t') d (by rw[fG _ t' c];rfl);rw[fG _ t' c]at this;exact this
  refine h _ (bK s.heap a _) ⟨_,_,_,_,mh,K,hex,rfl,q.symm.trans p,IL d c j,λq k=>f q (i.mem_iff.mp k),?_⟩;rw[x,g];simp only[qc,af,bl,cI]at e;rcases e with q|q|q|q|q<;>rw[q]at u⊢<;>omega
 .rw[aA m];refine ac (h s.heap (.refl _ _) ⟨o,es,ep,t,l,d,hex,c,p,T,f,?_⟩);have:es.size<=t.fill:=by unfold SetTable.fill;rw[T.tab.size];omega
  omega
def zw(k:jZ a_ w h b k8 P)(Sa:jZ a_ w h a els P)(m:a≠b)(e:Heap.SameBut a h h'):jZ a_ w h' b k8 P:=by
 have⟨o,es,ep,t,l,r,hex,s,p,T,u⟩:=k;have⟨oa,G,x,H,I,A,J,B,K,L,C⟩:=Sa;refine⟨o,es,ep,t,l,(e.2 b λq=>m q.symm).trans r,hex,s,p,T.mono λz D c E M F=>?_,u⟩;refine(e.2 c λq=>?_).trans F;subst q;have⟨i,hi⟩:=aU D;have⟨f,_,_,d⟩:=T.are.get hi;rw[E]at d;cases f with
 |one y=>have⟨_,q⟩:=d;cases q
 |many l=>have⟨c',q,ok,items,n,g,_,j,_⟩:=d;cases q;rw[A]at g;cases g;rw[B]at j;cases j
def Ep{Z:Sem Unit}(Sa:jZ a_ w s.heap a els P)(Sb:jZ a_ w s.heap b k8 P)(C:a≠b)(H:∀f∈els,f.jJ=k)(yH:∀f∈k8,f.jJ=k)(O:∀f∈k8,f≠.many [])(hl:els.length+k8.length<=31)(hu:A.units<cLine)
  (Wy:∀x:aj,x.heap.get? b=s.heap.get? b->∀Q:Unit->aj->Prop,Q () x->wpAny (model a_ w) A Z Q E x)
  {Q:Unit->aj->Prop}(q:∀h' d,Heap.SameBut a s.heap h'->jZ a_ w h' a (ku els k8) P->Q () {s with heap:=h',drawn:=d}):wpAny (model a_ w) A (setMerge a b Z) Q E s:=by
 have D:=Sa;have YH:=Sb;have⟨o,es,ep,t,l,R,hex,S,p,T,wT⟩:=Sb;unfold setMerge;rw[aA (by simpa using C)];refine G (aP R S T.fits ?_);have uA:es.size=k8.length:=by rw[T.len,p.length_eq]
 refine nQ (λU=>?_) λU=>?_
 .have:k8=[]:=by
   have:es.size=0:=by simpa using U
   exact cT (by omega)
  subst this;exact ac (q s.heap s.drawn (.refl _ _) D)
 .refine G (PQ (n:=es.size) D (by omega) λj F R1=>?_);have V:=R1.at;have⟨o1,rk,ep1,t1,l1,J,Wz,K,p1,B,hP1,mF⟩:=R1;have L:=zw YH D C F;have Tc:=(F.2 b λz=>C z.symm).trans R;have u:qd a_ w j es t l:=by
   have⟨o',wR,ep',t',l',pV,_,yF,p',M,_⟩:=L;rw[Tc]at pV;cases pV;rw[S]at yF;cases yF;refine T.mono λz hz c ec ob O=>?_;refine(F.2 c λq=>?_).trans O;subst q;have⟨i,hi⟩:=aU hz;have⟨f,_,_,g⟩:=T.are.get hi;rw[ec]at g;cases f with
   |one y=>have⟨_,q⟩:=g;cases q
   |many l=>have⟨oa,ea,epa,ta,la,Rw,S_,Rx,_⟩:=D;have⟨c',q,ok,items,n,H,_,Bw,_⟩:=g;cases q;rw[Rw]at H;cases H;rw[Rx]at Bw;cases Bw
  refine G (aP (s:={s with heap:=j}) J K B.fits ?_);dsimp only;have WA:t1.fill=0->els=[]:=λg=>by
   have:rk.size=0:=by unfold SetTable.fill at g;have:=B.tab.size;omega
   have W:=B.len;have h3:=p1.length_eq
   grind
  have o8:l≠[]:=λz=>U (by have:=T.len;rw[z,bL]at this;simpa using this)
  have wS:t.plain=false:=T.plain o8;unfold SetTable.road;by_cases g:t1.fill=0
  .rw[aA (by simp[g])];have Td:=WA g;subst Td;have WB:=uY YH.nodup;by_cases hm:(t1.mask==t.mask&&t.dummies.isEmpty)=true
   .rw[aB hm];have M:qd a_ w j es {t with finger:=t1.finger,led:=t1.led&&t.led,moves:=t1.moves,plain:=t1.plain&&t.plain} l:=⟨u.tab.same rfl rfl rfl,u.mask,u.load,u.are,u.nd,λ_=>by simp[wS],by show(t1.led&&t.led)=_;rw[B.led,u.led,gH]⟩
    refine cS (s:={s with heap:=j}) J K ?_ u.small;exact q _ s.drawn (F.trans (bK j a _)) ((jZ.stored (s:={s with heap:=j}) J Wz K M (p.trans WB.symm) wT))
   .rw[aA hm];have⟨t',e,e1,r1,r2,r3,r4,r5,r6,r7,r8,r9,Zr⟩:=zl (zq B.mask) es (by omega) t1.finger t1.moves (t1.led&&t.led) (t1.plain&&t.plain);rw[e1];have⟨mh,q',ar⟩:=u.are.perm r8.symm;have M:qd a_ w j (e.filterMap (es[·]?)) t' mh:=⟨r7,by rw[r1];exact B.mask,by rw[r2,r1];omega,ar,q'.nodup_iff.mp u.nd,λz=>by rw[r4,wS];simp,by rw[r5,B.led,u.led,gH]⟩
    apply G;show wpAny _ _ (if(e.filterMap (es[·]?)).size !=es.size then unsupported "internal:set-table-lost-an-element" else pure (e.filterMap (es[·]?),t')) _ _ _;rw[r9];simp only[dj,au,bD];apply ac;refine cS (s:={s with heap:=j}) J K ?_ M.small;exact q _ s.drawn (F.trans (bK j a _)) ((jZ.stored (s:={s with heap:=j}) J Wz K M (q'.symm.trans (p.trans WB.symm)) λq hq=>wT q (r8.mem_iff.mp hq)))
  .rw[aB (by simpa using g)];refine G (A6 (s:={s with heap:=j}) L V (λz=>C z.symm) H yH λX W d k2 Y hw=>?_);have⟨⟨m,N,Zt⟩,uu⟩:=hw;rw[<-dD];have kk:=F.trans k2;refine G (ai (dA (E:=E) _ (λiN _ x=>vn a_ w {s with heap:=W,drawn:=d} a P k els m iN x) (λ_ x=>vn a_ w {s with heap:=W,drawn:=d} a P k els m [] x) ?_ (λ_ _ h=>h) X.toList PUnit.unit ?_) (λ_ x I=>ac ?_) λ_ _ h=>h)
   .rintro⟨hh,v⟩ iN r x I;refine G (aF (I.turn hu λbb ql I'=>?_));have YI:=(I'.but.2 b λz=>C z.symm).trans ((k2.2 b λz=>C z.symm).trans Tc);refine G (Wy ql (by rw[YI,R]) _ ?_);refine G (aP YI S (by unfold SetTable.fits;have:=T.fits;unfold SetTable.fits at this;exact this) ?_)
    rw[aA (by simp)];exact ac I'
   .exact⟨.refl _ _,rfl,uu,m,els,Zt,Y,H,λf g=>yH f (N.mem_iff.mp g),λf g=>O f (N.mem_iff.mp g),by rw[N.length_eq];exact hl,λf=>Iff.rfl⟩
   .have⟨i1,i2,i3⟩:=I.done D.nodup;rw[i2];exact q _ d (kk.trans i1) (i3.perm (Eo N (.refl _) D.nodup))
def tA(b:jZ a_ w s.heap a els P)(c:mL a_ w s.heap e x)(d:∀f∈els,f.jJ=e.jJ)(i:A.units+8<cLine)(q:∀tk,Q (decide (e∈els)) {s with toks:=tk}):
  wpAny (model a_ w) A (contains (.ref a) x) Q E s:=by
 unfold contains
 try with_reducible refine aF ?_
 refine G (cA b.typeIs F.slot_set_contains.lookup ?_);rw[aA (by rw[beq_builtin_none];exact et)];refine G (wpAny_callSpecialUnlessNone?_slot (name:=Str.ofString "__contains__") b.typeIs F.slot_set_contains
  (bn F.slot_set_contains b.typeIs entry_set_contains ?_ (F.args_set_contains_2 _ _)))
 unfold Builtin.«frozenset.__contains__» Builtin.Frozenset.oneOther;simp only[cC,bind_assoc];unfold Builtin.Frozenset.addrOf Builtin.Frozenset.withSetAsKey setContains;refine G (ac ?_)
 try dsimp only
 refine G (ac ?_)
 try dsimp only
 refine G (gf ?_);apply aF;refine G (CD (by show A.units+1<cLine;omega) c λtk=>?_);have g:=b;refine G (g.find (s:={s with toks:=tk}) c d (by show A.units+1<cLine;omega) λr h=>?_);apply ac;rw[h];exact ac ⟨_,rfl,dL (q tk)⟩
def uc(b:jZ a_ w s.heap a els P)(c:mL a_ w s.heap e x)(g:∀f∈els,f.jJ=e.jJ)(h:e≠.many [])(i:P x)(j:els.length<31)(d:A.units<cLine)
  (q:∀h' tk k,Heap.SameBut a s.heap h'->jZ a_ w h' a (lj els e) P->Q k {s with heap:=h',toks:=tk}):wpAny (model a_ w) A (setAdd a x) Q E s:=by
 unfold setAdd;refine aF (G (CD d c λtk=>?_));have l:jZ a_ w ({s with toks:=tk}:aj).heap a els P:=b;refine Mz l c g h i j d (λm=>?_) λn h' o p=>?_
 .exact q s.heap tk _ (.refl _ _) (by unfold lj;rw[aB m];exact b)
 .exact q h' tk _ o (by unfold lj;rw[aA n];exact p)
def qX(b:jZ a_ w s.heap a els P)(c:mL a_ w s.heap e x)(h:∀f∈els,f.jJ=e.jJ)(d:A.units<cLine)
  (q:∀h' tk,Heap.SameBut a s.heap h'->jZ a_ w h' a (els.erase e) P->Q (decide (e∈els)) {s with heap:=h',toks:=tk}):wpAny (model a_ w) A (setDiscard a x) Q E s:=by
 unfold setDiscard;refine aF (G (CD d c λtk=>?_));have i:jZ a_ w ({s with toks:=tk}:aj).heap a els P:=b;refine G3 i c h d (λg=>?_) λj h' k l=>?_
 .have:=q s.heap tk (.refl _ _) (by rw[List.erase_of_not_mem g];exact b);rw[dJ g]at this;exact this
 .have:=q h' tk k l;rw[cH j]at this;exact this
def xH(b:jZ a_ w s.heap a els P)(c:mL a_ w s.heap e x)(d:∀f∈els,f.jJ=e.jJ)(g:e≠.many [])(h:P x)(i:els.length<31)(l:A.units+8<cLine){Q:nz}
  (q:∀h' tk,Heap.SameBut a s.heap h'->jZ a_ w h' a (lj els e) P->Q .none {s with heap:=h',toks:=tk}):wpAny (model a_ w) A (call (.builtin "set.add") [.ref a,x]) Q E s:=by
 refine bn F.slot_set_add b.typeIs F.entry_set_add ?_ (F.args_set_add_2 _ _);unfold Builtin.«set.add» Builtin.Frozenset.oneOther;simp only[cC,bind_assoc];unfold Builtin.Frozenset.addrOf;refine G (ac ?_)
 try dsimp only
 refine G (ac ?_)
 try dsimp only
 refine G (uc b c d g h i (by show A.units+1<cLine;omega) λh' tk m j k=>?_);exact ac ⟨_,rfl,q h' tk j k⟩
def ym(b:jZ a_ w s.heap a els P)(c:mL a_ w s.heap e x)(d:∀f∈els,f.jJ=e.jJ)(i:A.units+8<cLine){Q:nz}
  (q:∀h' tk,Heap.SameBut a s.heap h'->jZ a_ w h' a (els.erase e) P->Q .none {s with heap:=h',toks:=tk}):wpAny (model a_ w) A (call (.builtin "set.discard") [.ref a,x]) Q E s:=by
 refine bn F.slot_set_discard b.typeIs F.entry_set_discard ?_ (F.args_set_discard_2 _ _);unfold Builtin.«set.discard» Builtin.Frozenset.oneOther;simp only[cC,bind_assoc];unfold Builtin.Frozenset.addrOf Builtin.Frozenset.withSetAsKey;refine G (ac ?_)
 try dsimp only
 refine G (ac ?_)
 try dsimp only
 refine G (gf ?_);refine qX b c d (by show A.units+1<cLine;omega) λh' tk g h=>?_;exact ac ⟨_,rfl,q h' tk g h⟩
def zx(b:jZ a_ w s.heap a els P)(c:mL a_ w s.heap e x)(d:∀f∈els,f.jJ=e.jJ)(g:e∈els)(j:A.units+8<cLine){Q:nz}
  (q:∀h' tk,Heap.SameBut a s.heap h'->jZ a_ w h' a (els.erase e) P->Q .none {s with heap:=h',toks:=tk}):wpAny (model a_ w) A (call (.builtin "set.remove") [.ref a,x]) Q E s:=by
 refine bn F.slot_set_remove b.typeIs F.entry_set_remove ?_ (F.args_set_remove_2 _ _);unfold Builtin.«set.remove» Builtin.Frozenset.oneOther;simp only[cC,bind_assoc];unfold Builtin.Frozenset.addrOf Builtin.Frozenset.withSetAsKey;refine G (ac ?_)
 try dsimp only
 refine G (ac ?_)
 try dsimp only
 refine G (gf ?_);refine qX b c d (by show A.units+1<cLine;omega) λh' tk h i=>?_;rw[cH g];exact ac ⟨_,rfl,q h' tk h i⟩
def CF:entryFor table "set.__eq__"=some Builtin.«frozenset.__eq__»:=gi (id':="frozenset.__eq__") (by kernel_rfl) rfl (by tm_at"d") (by kernel_rfl)
def zy:isSubtype (.type "set") (.type "frozenset")=pure false:=by rw[b5];kernel_rfl
def jZ.push(b:jZ a_ w h a els P)(c:dq):jZ a_ w (h.push c) a els P:=by have⟨o,es,ep,t,l,d,hex,f,p,T,g⟩:=b;exact⟨o,es,ep,t,l,ad _ d,hex,f,p,T.mono λ_ _ _ _ _ e=>ad _ e,g⟩
def Kc(c:jZ a_ w s.heap a els P)(m:∀f∈els,f.jJ=k)(n:∀f∈els,f≠.many [])(p:els.length<=31)(r:A.units<cLine){Q:nz}
  (q:∀h' d g,(∀b o,s.heap.get? b=some o->h'.get? b=some o)->h'.get? s.heap.objs.size=some g->jZ a_ w h' s.heap.objs.size els P->Q (.ref s.heap.objs.size) {s with heap:=h',drawn:=d}):wpAny (model a_ w) A (Builtin.Frozenset.copyOf a) Q E s:=by
 have t:s.heap.objs.size≠a:=by have⟨o,_,_,_,_,j,_⟩:=c;exact fg (ck j)
 unfold Builtin.Frozenset.copyOf Builtin.Frozenset.baseOf;refine G (G (bN c.typeIs eT ?_));rw[aB rfl];refine ac (G (MA (P:=P) λg N j=>?_));refine G (ac (G ?_));refine Ep (s:={s with heap:=s.heap.push g}) (els:=[]) (k:=k) N (c.push g) t (λf u=>nomatch u) m n (by simpa using p) r (λD _ Q x=>ac x) λh' d y z=>?_;have h:∀b o,s.heap.get? b=some o->h'.get? b=some o:=λb o e=>y.extBut b o (dM (ck e)) (ad _ e);have B:=uY c.nodup;have l:=z.perm B;obtain⟨i,_,_,_,_,C,_⟩:=id l;exact ac (q h' d i h C l)
def CG(e:jZ a_ w s.heap a els P)(g:∀f∈els,f.jJ=k)(h:∀f∈els,f≠.many [])(i:els.length<=31)(n:A.units+8<cLine){Q:nz}
  (q:∀h' d c,(∀b o,s.heap.get? b=some o->h'.get? b=some o)->h'.get? s.heap.objs.size=some c->jZ a_ w h' s.heap.objs.size els P->Q (.ref s.heap.objs.size) {s with heap:=h',drawn:=d}):wpAny (model a_ w) A (call (.builtin "set.copy") [.ref a]) Q E s:=by
 refine bn F.slot_set_copy e.typeIs F.entry_set_copy ?_ (F.args_set_copy_1 _);unfold Builtin.«set.copy» Builtin.Frozenset.noArgs;simp only[cC,bind_assoc];unfold Builtin.Frozenset.addrOf;refine G (ac ?_);refine G (Kc e g h i (by show A.units+1<cLine;omega) λh' d c j l m=>?_);exact ac ⟨_,rfl,q h' d c j l m⟩
def G5(x:jZ a_ w s.heap a els P)(Y:∀f∈els,f.jJ=false)(C:jZ a_ w s.heap b k8 P)(Z:∀f∈k8,f.jJ=false){Q:List (Int×ae)->aj->Prop}(q:∀l d,wU a_ w s.heap P els l->Q l {s with drawn:=d}):
  wpAny (model a_ w) A (Builtin.Frozenset.walkUnseen a b) Q E s:=by
 have D:=x;have⟨o,es,ep,t,l,H,hex,I,p,T,J⟩:=x;have⟨ob,K,L,tb,lb,M,Zu,N,pb,y,O⟩:=C;have e:∀{B:List (Int×ae)->aj->Prop},(∀l d,wU a_ w s.heap P els l->B l {s with drawn:=d})->wpAny (model a_ w) A (Builtin.Frozenset.walk a) B E s:=λR=>by unfold Builtin.Frozenset.walk;exact G (IM D λl d j=>ac (R _ d j))
 have all:∀z∈es.toList++K.toList,∃f,f.jJ=false/\mL a_ w s.heap f z.2:=λz hz=>by
  rcases ba.mp hz with hz|hz
  .have⟨i,hi⟩:=aU hz;have⟨f,S,_,U⟩:=T.are.get hi
   grind
  .have⟨i,hi⟩:=aU hz;have⟨f,S,_,U⟩:=y.are.get hi
   grind
 unfold Builtin.Frozenset.walkUnseen;refine G (qf H I T ?_);refine G (qf M N y ?_);refine G (dA _ (λiN r g=>r.1=none/\g=s/\∀z∈iN,∃f,f.jJ=false/\mL a_ w s.heap f z.2) _ ?_ ?_ _ _ ⟨rfl,rfl,all⟩)
 .rintro⟨k,v⟩ iN r g ⟨n,rfl,V⟩;have⟨f,u,W⟩:=V (k,v) bc;cases f with
  |one z=>cases u
  |many m=>obtain⟨c,rfl,X⟩:=W;unfold Builtin.Frozenset.quietEq;refine G (G (cA X.typeIs F.slot_tuple_eq.lookup (ac ?_)));refine nQ (λ_=>?_) λh=>absurd (by decide) h;refine G (e λl d j=>?_);apply ac;exact ac (q l d j)
 .rintro⟨r1,r2⟩ g ⟨n,rfl,_⟩;simp only at n;subst n;exact ac (q _ g.drawn ⟨⟨l,p,T.are⟩,J⟩)
def ue(b:jZ a_ w s.heap a els P){Q:Nat->aj->Prop}(q:Q els.length s):wpAny (model a_ w) A (Builtin.Frozenset.sizeOf a) Q E s:=by have⟨o,es,ep,t,l,c,hex,d,p,T,e⟩:=b;unfold Builtin.Frozenset.sizeOf;refine G (qf c d T (ac ?_));rw[T.len,p.length_eq];exact q
def Kd{id:String}(H:jZ a_ w s.heap a els P)(I:∀f∈els,f.jJ=false)(y:jZ a_ w s.heap b k8 P)(J:∀f∈k8,f.jJ=false)(N:A.units<cLine)
  (q:∀d,Q (decide (els.length<=k8.length/\∀f∈els,f∈k8)) {s with drawn:=d}):wpAny (model a_ w) A (Builtin.Frozenset.subsetOf id a b) Q E s:=by
 have K:=H;have⟨o,es,ep,t,l,L,hex,M,p,T,Y⟩:=H;unfold Builtin.Frozenset.subsetOf;refine G (ue K (G (ue y ?_)));refine nQ (λO=>?_) λO=>?_
 .have:=q s.drawn;rw[dJ (λz=>by omega)]at this;exact ac this
 .unfold setEpoch;refine G (G (aP L M T.fits (ac ?_)));refine G (G5 K I y J λR d S=>?_);have⟨⟨m,B,U⟩,Z⟩:=S;refine G (dA _ (λiN r C=>r.1=none/\C={s with drawn:=d}/\∃h,kL a_ w s.heap iN h/\(∀f∈h,f.jJ=false)/\((∀f∈h,f∈k8)↔∀f∈els,f∈k8)) _ ?_ ?_ _ _ ⟨rfl,rfl,m,U,λf i=>I f (B.mem_iff.mp i),⟨λz f i=>z f (B.mem_iff.mpr i),λz f i=>z f (B.mem_iff.mp i)⟩⟩)
  .rintro⟨k,v⟩ iN r C ⟨c,rfl,h,D,F,u⟩;cases D with
   |cons V W X=>
    rename_i f h;subst V;refine G (aF (y.find (s:={s with drawn:=d}) W (λg n=>by rw[J g n,F f bc]) N λr c=>?_));by_cases x:f∈k8
    .rw[cH x]at c;obtain⟨j,rfl⟩:=bH.mp c;simp only[Option.isNone_some,au,bD];unfold Builtin.Frozenset.unchanged setEpoch;refine G (G (G (aP (s:={s with drawn:=d}) L M T.fits (ac ?_))));rw[aA (by simp)];refine ac (ac ⟨rfl,rfl,h,X,λg n=>F g (aO _ n),?_⟩);rw[<-u];exact⟨λz g n=>(af.mp n).elim (λe=>e▸x) (z g),λz g n=>z g (aO _ n)⟩
    .rw[dJ x]at c;have:r=none:=by cases r<;>first|rfl|cases c
     subst this;simp only[Option.isNone_none,dR];apply ac;have:=q d;rw[dJ (λz=>x (u.mpr z.2 f bc))]at this;exact ac this
  .rintro⟨r1,r2⟩ C ⟨c,rfl,h,D,F,u⟩;simp only at c;subst c;cases D;have:=q d;rw[cH ⟨by omega,u.mp λf i=>nomatch i⟩]at this;exact ac this
def xI:∀{l b:kr},l.Nodup->(∀f∈l,f∈b)->b.length<=l.length->l.Perm b
 |[],b,_,_,h=>by rw[cT (by simpa using h:b.length=0)]
 |a::l,b,nd,sub,h=>by
  have⟨na,d⟩:=aL.mp nd;have c:=List.perm_cons_erase (sub a bc);have e:=c.length_eq;simp only[aI]at e h;refine((xI d (λf g=>?_) (by omega)).cons a).trans c.symm
  grind
def same_iff(a:els.Nodup)(d:k8.Nodup):(els.length=k8.length/\els.length<=k8.length/\∀f∈els,f∈k8)↔els.Perm k8:=by
 constructor
 .rintro⟨e,_,b⟩;exact xI a b (by omega)
 .intro p;exact⟨p.length_eq,eU p.length_eq,λf c=>p.mem_iff.mp c⟩
def MB(c:jZ a_ w s.heap a els P)(j:∀f∈els,f.jJ=false)(e:jZ a_ w s.heap b k8 P)(k:∀f∈k8,f.jJ=false)(n:A.units+8<cLine){Q:nz}
  (q:∀d v,(v=true↔els.Perm k8)->Q (.bool v) {s with drawn:=d}):wpAny (model a_ w) A (compareOp .Eq (.ref a) (.ref b)) Q E s:=by
 refine wpAny_richCompare_same_room (op:=.Eq) c.typeIs e.typeIs F.slot_set_eq ?_ (by omega);refine bn F.slot_set_eq c.typeIs CF ?_ (F.args_set_eq_2 _ _);unfold Builtin.«frozenset.__eq__»;apply G;unfold Builtin.Frozenset.slot1 slotArgs;simp only[cC];refine G (G (ac (G (ac (ac ?_)))));apply ac;apply G;refine G (bN e.typeIs eT ?_);apply ac;simp only[dy,au,bD];unfold Builtin.Frozenset.addrOf;refine G (ac (G (ac (G (ue c (G (ue e ?_)))))));have g:∀d v,(v=true↔els.Perm k8)->∃i,Fin.done (Flow.ret (.bool v))=Fin.done (.ret i)/\i≠.notImplemented/\Q i {s with drawn:=d}:=λd v l=>⟨_,rfl,(λz=>nomatch z),q d v l⟩
 apply G;refine nQ (λh=>?_) λh=>?_
 .refine ac (ac (g s.drawn false ⟨λz=>(nomatch z),λp=>?_⟩));rw[p.length_eq]at h;simp at h
 .refine G ?_;refine G (bN c.typeIs zy ?_);apply ac;simp only[au,bD];refine Kd c j e k (by show A.units+1<cLine;omega) λd=>?_;refine ac (g d _ ?_);have m:els.length=k8.length:=by simpa using h
  rw[c9,<-same_iff c.nodup e.nodup];exact⟨λz=>⟨m,z⟩,λz=>z.2⟩
def A8:fillsInplaceSlot (.type "set") "or" (Operator.BitOr==.Add)=pure true:=by unfold fillsInplaceSlot;show(typeLookup (.type "set") (dunderI "or")>>=λa=>pure (a.isSome&&!isSeqSlot a))=_;rw[F.slot_set_ior.lookup];rfl
def Te(Sa:jZ a_ w s.heap a els P)(c:jZ a_ w s.heap b k8 P)(j:a≠b)(l:∀f∈els,f.jJ=k)(m:∀f∈k8,f.jJ=k)(n:∀f∈k8,f≠.many [])(o:els.length+k8.length<=31)(y:A.units+8<cLine)
  {Q:nz}(q:∀h' d,Heap.SameBut a s.heap h'->jZ a_ w h' a (ku els k8) P->Q (.ref a) {s with heap:=h',drawn:=d}):wpAny (model a_ w) A (inplaceOp .BitOr (.ref a) (.ref b)) Q E s:=by
 unfold inplaceOp;apply aF;refine G (cX Sa.typeIs ?_);refine G (bC A8 ?_);rw[aB rfl];apply G;unfold tryMethod;refine G (b8 (name:=dunderI "or") Sa.typeIs F.slot_set_ior (bn F.slot_set_ior Sa.typeIs F.entry_set_ior ?_ (F.args_set_ior_2 _ _)));unfold Builtin.«set.__ior__»;apply G;unfold Builtin.Frozenset.slot1 slotArgs;simp only[cC];refine G (G (ac (G (ac (ac ?_)))));apply ac;apply G;unfold Builtin.Frozenset.isAnySet;refine G (bN c.typeIs eT ?_);apply ac;simp only[dy,au,bD];apply G;unfold Builtin.Frozenset.addrOf;refine ac (G ?_);unfold Builtin.Frozenset.updateFrom Builtin.Frozenset.isAnySet;apply G;refine G (bN c.typeIs eT ?_);apply ac;rw[aB rfl];apply G;unfold Builtin.Frozenset.addrOf;apply ac;unfold Builtin.Frozenset.merge;have⟨z,B,p,tb,C,g,D,h,H,i,r⟩:=id c;apply G;unfold setEpoch;refine G (aP g h i.fits (ac ?_));refine Ep Sa c j l m n o (by show A.units+1<cLine;omega) (λI t J e=>?_) λh' d u x=>?_
 .unfold Builtin.Frozenset.unchanged setEpoch;refine G (G (aP (t.trans g) h i.fits (ac ?_)));rw[aA (by simp)];exact ac e
 .refine ac ⟨_,rfl,?_⟩;apply ac;exact G (b9 (ac (q h' d u x)))
def lQ:∀l:jK,nF (l.map .str)=some l
 |[]=>rfl
 |s::l=>by show(nF (l.map AV.str)).map (s::·)=_;rw[lQ l];rfl
def By(e:El):qW (p7 e)=some e:=by
 cases e with
 |one s=>rfl
 |many l=>show(nF (l.map AV.str)).map El.many=_;rw[lQ];rfl
def oB:∀{l:jy}{ss:jK},nF l=some ss->l=ss.map .str
 |[],ss,h=>by cases h;rfl
 |a::l,ss,h=>by
  cases a with
  |str s=>obtain⟨r,b,rfl⟩:=ay.mp h;rw[oB b];rfl
  |_=>cases h
def o_{a:AV}(h:qW a=some e):a=p7 e:=by
 cases a with
 |str s=>cases h;rfl
 |tup l=>obtain⟨ss,b,rfl⟩:=ay.mp h;rw[oB b];rfl
 |_=>cases h
def vO (a_:c5)(w:cy):dq->jr->kr->Prop:=λo vs els=>o.ExactSet/\∃es ep t,o.data=.set es ep t/\vs=es.toList.map (·.2)/\es.toList.map (·.1)=els.map (El.hash a_ w)/\
 LS t es/\t.mask∈qc/\t.fill*5<t.mask*3/\els.Nodup/\(els≠[]->t.plain=false)/\t.led=zr w
def qg (V:jj)(F:jn)(v:ae):Prop:=∃e,kQ V F v (p7 e)
def qg.mono(g:j8 V jF F F'){v:ae}(r:qg V F v):qg jF F' v:=let ⟨e,r⟩:=r;⟨e,r.mono g⟩
def nM(b:∀a o,F a=some o->h.get? a=some o)(r:kQ V F v (p7 e)):mL a_ w h e v:=Mw b r (By e)
def MC(b:∀a o,F a=some o->h.get? a=some o)(r:qg V F v)(x:mL a_ w h e v):kQ V F v (p7 e):=by have⟨f,r⟩:=r;rw[x.inj (nM (a_:=a_) (w:=w) b r)];exact r
def G6(c:∀a o,F a=some o->h.get? a=some o):∀{es:List (Int×ae)}{els:kr},es.map (·.1)=els.map (El.hash a_ w)->jV V F (es.map (·.2)) (els.map p7)->kL a_ w h es els
 |[],[],_,_=>.nil
 |(k,v)::es,e::els,b,.cons d f=>by rw[bg,bg]at b;injection b with g i;exact .cons g (nM c d) (G6 c i f)
 |[],_::_,b,_=>by cases b
def MD(b:∀a o,F a=some o->h.get? a=some o):∀{es:List (Int×ae)}{els:kr},kL a_ w h es els->(∀p∈es,qg V F p.2)->es.map (·.1)=els.map (El.hash a_ w)/\jV V F (es.map (·.2)) (els.map p7)
 |_,_,.nil,_=>⟨rfl,.nil⟩
 |_,_,.cons d e t,c=>by have⟨f,g⟩:=MD b t λp i=>c p (aO _ i);refine⟨?_,.cons (MC b (c _ bc) e) g⟩;rw[bg,bg,f,d]
def ME{vs:jr}:jV V F vs (els.map p7)->∀v∈vs,qg V F v:=by
 induction els generalizing vs with
 |nil=>intro r v hv;cases r;cases hv
 |cons e els a=>
  intro r v hv;cases r with
  |cons b c=>
   rcases af.mp hv with rfl|hv
   .exact⟨e,b⟩
   .exact a c v hv
def CI(e:∀a o,F a=some o->h.get? a=some o)(c:sZ (vO a_ w) V F h a (.set els)):jZ a_ w h a els (qg V F):=by obtain⟨o,vs,l',f,⟨hex,es,ep,t,g,rfl,i,b,j,k,nd,l,m⟩,p,d⟩:=c;refine⟨o,es,ep,t,l',f,hex,g,p,⟨b,j,k,G6 e i d,nd,l,m⟩,λq n=>ME d _ (bz n)⟩
def zz(b:∀a o,F a=some o->h.get? a=some o)(x:jZ a_ w h a els (qg V F)):sZ (vO a_ w) V F h a (.set els):=by have⟨o,es,ep,t,l,c,hex,d,p,T,e⟩:=x;have⟨f,g⟩:=MD b T.are e;exact⟨o,_,l,c,⟨hex,es,ep,t,d,rfl,f,T.tab,T.mask,T.load,T.nd,T.plain,T.led⟩,p,g⟩
def jZ.weaken{P':ae->Prop}(x:jZ a_ w h a els P)(k:∀v,P v->P' v):jZ a_ w h a els P':=let ⟨o,es,ep,t,l,b,hex,c,p,T,d⟩:=x;⟨o,es,ep,t,l,b,hex,c,p,T,λq e=>k _ (d q e)⟩
section
variable {S:Sys}{J:jW}{fs:jS}{R:mO}{k:Nat}
def ml (S:Sys):Prop:=S.jR=vO S.prog S.w
def Holds.drawn{d:_}(X:j4 S V F J fs R s):j4 S V F J fs R {s with drawn:=d}:=⟨X.base,X.lw,X.old,X.lim,X.bare,X.os,X.len,X.nd,X.new,X.there,X.cells,X.frames,X.res,X.tabs,X.mS⟩
def Holds.setAt(ok:ml S)(X:j4 S V F J fs R s)(b:V[k]?=some a)(c:J[k]?=some (.set els)):jZ S.prog S.w s.heap a els (qg V F):=by have:=X.cells k a _ b c;rw[ok]at this;exact CI X.lw this
def Holds.Tf(ok:ml S)(X:j4 S V F J fs R s)(b:V[k]?=some a)(c:J[k]?=some (.mP els o)):jZ S.prog S.w s.heap a els (qg V F):=by have:=X.cells k a _ b c;have⟨vs,l',d,e,f,g⟩:=this;refine CI X.lw ⟨o,vs,l',d,?_,f,g⟩;rw[<-ok];exact e
def Holds.xJ{t:Nat}{d:_}(ok:ml S)(X:j4 S V F J fs R s)(c:V[k]?=some a)(f:J[k]?=some (.set els))(g:Heap.SameBut a s.heap h')(i:jZ S.prog S.w h' a mh (qg V F)):
  j4 S V F (J.set k (.set mh)) fs R {s with heap:=h',toks:=t,drawn:=d}:=by
 have j:∀b o,F b=some o->h'.get? b=some o:=λb o e=>by refine g.extBut b o (λz=>?_) (X.lw b o e);subst z;have:=(X.new b (X.live c f (by intro h;cases h))).1;rw[this]at e;cases e
 have⟨o,_,_,_,_,l,_⟩:=id i;exact Holds.drawn (s:={s with heap:=h',toks:=t}) (X.setC c f (by intro h;cases h) (by intro h;cases h) (λb o m e=>g.extBut b o m e) (by rw[ok];exact zz j i) ⟨o,l⟩)
def Holds.newSet{K:KV}{t:Nat}{d:_}{f:dq}(ok:ml S)(X:j4 S V F J fs R s){n:iJ}(i:s.heap.get? n=none)(a:∀b o,s.heap.get? b=some o->h'.get? b=some o)(j:h'.get? n=some f)(k:jZ S.prog S.w h' n els (qg V F))(q:K (.ref J.length) (J++[.set els])):
  nP S V F fs R K (.ref n) {s with heap:=h',toks:=t,drawn:=d}:=by
 have l:=X.oU (t:=t) a i j;have m:∀b o,F b=some o->h'.get? b=some o:=λb o e=>a b o (X.lw b o e);have p:=j8.snoc V F n;have⟨u,g⟩:=l.vz (c:=.set els) (by rw[ok];exact zz (V:=V++[n]) m (k.weaken λv r=>r.mono p)) (by intro h;cases h);refine⟨_,F,_,_,g,u.drawn,.ref ?_,q⟩;rw[<-X.len,aR (ao _),cM];rfl
end
end
section
open PySem PySem.W PySem.Calls PyProof.Rows PySem.SeqAt
variable {iO:List dP}{V jF own:jj}{fs:jS}{F F':jn}{s:aj}{A:bO}{Y:j9}{J:jW}{S:Sys}{d iW n t k dl line j:Nat}{R iS:mO}{env:Env}{l:jy}{Rr:Result->aj->Prop}{b_:dF}{iV value slice:Expr}{i0:AV->AV->jW->KV->KX->Prop}{M:fL}{c:nW}{b expr:aY}{pos p:Pos}{m:List (Str×AV)}{vs:jr}{X:KX}{f_ it I vo va vb vt:ae}{K:KV}{items:bM ae}{α:Type}{g:dP}{fE:rT}{h':cj}{a:AV}{ts:j5}{fT:GB}{fJ:Rj}{Kf:Frag}{D C fa:iJ}{o:dq}{name:Str}
def wW:KX:=λ_ _=>False
def Ti (fT:GB)(c:nW):j5->j9->jW->(aY->jW->Prop)->Prop
 |[],_,J,K=>K true J
 |e::es,Y,J,K=>fT c e Y J (λb g_=>if b=true then Ti fT c es Y g_ K else K false g_) wW
abbrev Er:=AV->j9->jW->jy->(j9->jW->jy->Prop)->Prop
def xK (step:Er)(cond:jW->Prop):jy->j9->jW->jy->(j9->jW->jy->Prop)->Prop
 |[],Y,J,f_,K=>cond J/\K Y J f_
 |a::l,Y,J,f_,K=>cond J/\step a Y J f_ λkM g_ ru=>xK step cond l kM g_ ru K
def pW:Expr->aY
 |.Set ..=>true
 |_=>false
def Tj:aY->jy->AV->(jy->Prop)->Prop
 |false,f_,v,K=>f_.length<=100000/\K (f_++[v])
 |true,f_,v,K=>ky (qW v) λe=>e.jJ=false/\e≠.many []/\f_.length<31/\K (f_++[v])
def Es (b:aY)(fE:rT)(fT:GB)(fJ:Rj)(c:nW)(iV:Expr):List dP->Er
 |[],_,_,_,_,_=>False
 |g::gs,a,Y,J,f_,K=>g.is_async=0/\ky (yZ c g.target a Y) λkI=>Ti fT c g.ifs kI J λok iT=>
   if ok=true then(match gs with
    |[]=>fE c iV kI iT (λv jf=>Tj b f_ v λru=>K kI jf ru) wW
    |g'::_=>g'.is_async=0/\pW g'.iter=false/\fJ c g'.target g'.iter kI iT (λl cond j1=>xK (Es b fE fT fJ c iV gs) cond l kI j1 f_ K) wW)
   else K kI iT f_
def G7(p:R.Perm iS):(kz V J fs R).Perm (kz V J fs iS):=by
 unfold kz
 grind
def Holds.nw(X:j4 S V F J fs R s)(p:R.Perm iS):j4 S V F J fs iS s:=
 have q:=G7 (V:=V) (J:=J) (fs:=fs) p
 {X with nd:=q.nodup_iff.mp X.nd,new:=λa m=>X.new a (q.mem_iff.mpr m),there:=λa m=>X.there a (q.mem_iff.mpr m),res:=λr b=>X.res r (p.mem_iff.mpr b)}
def uB (S:Sys)(b:aY)(V:jj)(F:jn)(o:dq)(f_:jy):Prop:=match b with
 |false=>∃vs n,o={cls:=.type "list",data:=.seq vs n}/\jV V F vs.toList f_
 |true=>∃els l' vs,f_=els.map p7/\(∀f∈els,f.jJ=false)/\vO S.prog S.w o vs l'/\l'.Perm (ku [] els)/\jV V F vs (l'.map p7)
def uB.mono{b:aY}{o:dq}{f_:jy}(g:j8 V jF F F')(h:uB S b V F o f_):uB S b jF F' o f_:=by
 cases b
 .have⟨vs,n,b,r⟩:=h;exact⟨vs,n,b,r.mono g⟩
 .have⟨els,l',vs,e,a,i,p,r⟩:=h;exact⟨els,l',vs,e,a,i,p,r.mono g⟩
def tB (S:Sys)(b:aY)(V:jj)(F:jn)(env:Env)(own:jj)(fs:jS)(D:iJ)(R:mO)(K:j9->jW->jy->Prop)(r:Result)(s:aj):Prop:=r=.ok .next/\∃jF F' g_ kM ru o',j8 V jF F F'/\j4 S jF F' g_ (⟨env,kM,own⟩::fs) ((D,o')::R) s/\uB S b jF F' o' ru/\K kM g_ ru
def tB.grow{K:j9->jW->jy->Prop}{r:Result}(g:j8 V jF F F')(h:tB S b jF F' env own fs D R K r s):tB S b V F env own fs D R K r s:=let ⟨e,a,b,c,d,x,o,f,q⟩:=h;⟨e,a,b,c,d,x,o,g.trans f,q⟩
def qt{t:Sem α}{Q:α->aj->Prop}{E:nz}(h:wpAny M A t Q (oW S V F fs R wW) s):wpAny M A t Q E s:=ai h (λ_ _ q=>q) λ_ _ ⟨_,_,_,_,_,_,k⟩=>k.elim
def wX{fT:GB}(i:rn S d fT){env:Env}{own:jj}{E:nz}(fa:kj d c.calm (⟨env,Y,own⟩::fs) A)(j:nC c ⟨env,Y,own⟩):
  ∀{es:j5}{V:jj}{F:jn}{J:jW}{s:aj}{b:aY}{K:aY->jW->Prop}{Q:aY->aj->Prop},(if b=true then Ti fT c es Y J K else K false J)->j4 S V F J (⟨env,Y,own⟩::fs) R s->
   (∀ok jF F' a f,j8 V jF F F'->j4 S jF F' a (⟨env,Y,own⟩::fs) R f->K ok a->Q ok f)->
   kY S A (forIn es b λc r=>if r=true then do let ok <-isTrue c env (eval c env);pure (ForInStep.yield ok)else pure (ForInStep.yield r)) Q E s
 |[],V,F,J,s,b,K,Q,h,H,q=>by
  rw[dW];cases b
  .exact ac (q _ V F J s (.refl _ _) H h)
  .exact ac (q _ V F J s (.refl _ _) H h)
 |e::es,V,F,J,s,b,K,Q,h,H,q=>by
  rw[cW];cases b
  .rw[aA (by decide)]at h;simp only[au,bD];refine G (ac ?_);exact wX i fa j (b:=false) (by rw[aA (by decide)];exact h) H q
  .rw[aB rfl]at h;simp only[dR];refine G (G (qt (V:=V) (F:=F) (fs:=⟨env,Y,own⟩::fs) (R:=R) (S:=S) (rp (i c e Y J _ wW h V F ⟨env,Y,own⟩ fs R s A fa j rfl H) λp u t w x l m n=>?_)));apply ac;exact wX i fa j (b:=t) n m λok jF F' a f g o k=>q ok jF F' a f (l.trans g) o k
def Rz:aY->String
 |false=>"list.append"
 |true=>"set.add"
def Et(els:kr)(e:El):ku [] (els++[e])=lj (ku [] els) e:=by unfold ku;rw[List.foldl_append];rfl
def Ke{f_:jy}{x:ae}{K:jy->Prop}{Q:nz}{E:nz}(B:A.units+8<cLine)(H:j4 S V F J fs ((D,o)::R) s)(j:uB S b V F o f_)(r:kQ V F x a)(c:Tj b f_ a K)
  (q:∀o' l,j4 S V F J fs ((D,o')::R) l->uB S b V F o' (f_++[a])->K (f_++[a])->Q .none l):kY S A (call (.builtin (Rz b)) [.ref D,x]) Q E s:=by
 cases b with
 |false=>
  obtain⟨vs,n,rfl,d⟩:=j;have⟨c,k⟩:=c;have h:=H.res (D,_) (.head _);have C:vs.size<=sizeLine:=by have:=d.length;simp only[aQ]at this;rw[this];exact bq c (by decide)
  refine gR ⟨n,h⟩ (λh' G I=>?_) C;have⟨L,g⟩:=G;refine q _ _ (H.uL (t:=s.toks) (λb x i e=>I.extBut b x i e) g) ⟨_,L,rfl,?_⟩ k;rw[dk];exact jV.append (.one r) d
 |true=>
  have⟨e,M,m,N,O,k⟩:=jo c;obtain rfl:=o_ M;obtain⟨els,l',vs,rfl,p,hi,P,d⟩:=j;have h:=H.res (D,o) (.head _);have T:=CI (V:=V) (F:=F) H.lw ⟨o,vs,l',h,hi,P,d⟩;have iP:(ku [] els).length<=els.length:=by have:=si els [];simpa using this
  rw[ah]at O;refine xH T (nM H.lw r) (λf hf=>?_) N ⟨e,r⟩ (by omega) B λh' tk U u=>?_
  .rw[lN]at hf;rw[m];exact p f (hf.resolve_left λz=>nomatch z)
  .have⟨o',_,_,_,_,g,_⟩:=id u;have w:=H.uL (t:=tk) (λb x i e=>U.extBut b x i e) g;have⟨W,X,Y,Z,g2,g3,g4⟩:=zz (V:=V) (F:=F) w.lw u;have:W=o':=by have y:=Z;rw[g]at y;cases y;rfl
   subst this;refine q _ _ w ⟨els++[e],Y,X,by rw[bB];rfl,λf hf=>?_,g2,by rw[Et];exact g3,g4⟩ k;rcases ba.mp hf with hf|hf
   .exact p f hf
   .rw[aN.mp hf];exact m
def tC{e:Expr}{x:ae}(h:pW e=false):foldedSetIterable e env x=pure x:=by cases e<;>first|rfl|cases h
def Eu:aY->Expr->List dP->dF->Pos->Expr
 |false=>.ListComp
 |true=>.SetComp
def JO:aY->Expr->Env->ae->Sem Unit
 |false,iV,env,f_=>do let _ <-call (.builtin "list.append") [f_,<-eval iV env]
 |true,iV,env,f_=>do let v <-eval iV env;standAt iV.pos;let _ <-call (.builtin "set.add") [f_,v]
def Bz(d:iO[iW]?=some g)(e:g.is_async=0):
  compTurn (Eu b iV iO b_ pos) iW it f_ env=(standAt g.iter.pos>>=λ_=>pyNext it>>=λr=>match r with
   |none=>pure (.done .next)
   |some v=>letOwnedTupleGo g.target it v>>=λ_=>assign g.target env v>>=λ_=>
    (forIn g.ifs true λc r=>if r=true then do let ok <-isTrue c env (eval c env);pure (ForInStep.yield ok)else pure (ForInStep.yield r))>>=λok=>
     if ok=true then
      (match iO[iW+1]? with
       |some a=>do
        let x <-eval a.iter env
        standAt a.iter.pos
        let x <-if a.is_async !=0 then foldedIterable a.iter x else foldedSetIterable a.iter env x
        let _ <-runOwn (.compStart (Eu b iV iO b_ pos) (iW+1) (<-holding [x] (if a.is_async !=0 then asyncIter x else pyIter x)) f_ env) env
        again (.compLoop (Eu b iV iO b_ pos) iW it f_ env)
       |none=>do
        JO b iV env f_
        again (.compLoop (Eu b iV iO b_ pos) iW it f_ env))
     else again (.compLoop (Eu b iV iO b_ pos) iW it f_ env)):=by
 cases b
 all_goals
  unfold compTurn Eu;simp only[d,e,dj,au,bD];rfl
def Ev{l r:List α}{a:α}(h:l.drop n=a::r):l[n]?=some a/\l.drop (n+1)=r:=by
 refine⟨?_,by rw[<-dS,h];rfl⟩;have:(l.drop n)[0]?=some a:=by rw[h];rfl
 rwa [c8,fc]at this
def Kg{Q:Unit->aj->Prop}{E:nz}(h:wpAny M A (eval iV env) (λx a=>wpAny M A (call (.builtin (Rz b)) [f_,x]) (λ_ e_=>Q () e_) E a) E s):wpAny M A (JO b iV env f_) Q E s:=by
 cases b with
 |false=>unfold JO;exact G (ai h (λx a c=>G (ai c (λ_ e_ d=>ac d) λ_ _ e=>e)) λ_ _ e=>e)
 |true=>unfold JO;exact G (ai h (λx a c=>G (bR (G (ai c (λ_ e_ d=>ac d) λ_ _ e=>e)))) λ_ _ e=>e)
def pf:(Code.compLoop (Eu b iV iO b_ pos) iW it f_ env).quiet=true:=by cases b<;>rfl
def G8
  (h:kY S A ((compStart (Eu b iV iO b_ pos) iW I f_ env).onRaise (λx=>do noteFrame x env;standAt theWindowsPlace)) (λc a=>match c with|.done f=>Rr (.ok f) a|.again c'=>c'.quiet=true/\codeAny (p_ S) A c' Rr a) (λe a=>Rr (.error e) a) s):
  codeAny (p_ S) A (.compStart (Eu b iV iO b_ pos) iW I f_ env) Rr s:=by
 cases b
 .exact bX h
 .exact bX h
def BA
  (h:kY S A ((compTurn (Eu b iV iO b_ pos) iW it f_ env).onRaise (λx=>do noteFrame x env;theTreesLotGoes x)) (λc a=>match c with|.done f=>Rr (.ok f) a|.again c'=>c'.quiet=true/\codeAny (p_ S) A c' Rr a) (λe a=>Rr (.error e) a) s):
  codeAny (p_ S) A (.compLoop (Eu b iV iO b_ pos) iW it f_ env) Rr s:=by
 cases b
 .exact bX h
 .exact bX h
def xL(a:iO[iW]?=some g)(c:g.is_async=0)
  (self:∀(A:bO) Q E,Q I s->kY S A (pyIter I) Q E s) (h:codeAny (p_ S) A (.compLoop (Eu b iV iO b_ pos) iW I f_ env) Rr s):
  codeAny (p_ S) A (.compStart (Eu b iV iO b_ pos) iW I f_ env) Rr s:=by
 apply G8;apply wpAny_notedAt;unfold compStart;have d:(clausesOf (Eu b iV iO b_ pos))[iW]?=some g:=by cases b<;>exact a
 simp only[d,Option.elim,c,dj,au,bD];refine G (bU ?_);split
 .first
   |exact ac (And.intro pf h)
   |exact G (ac (ac (And.intro pf h)))
 .refine G (b9 (G (bR (G (self A _ _ ?_)))));exact ac (And.intro pf h)
def G9(hE:l7 S d fE)(hT:rn S d fT)(hJ:xF S d fJ)(N:c.calm=true)
  (fa:∀Y,kj d c.calm (⟨env,Y,own⟩::fs) A) (O:∀Y,nC c ⟨env,Y,own⟩):∀(gs:List dP) (iW:Nat),iO.drop iW=gs->
  ∀(l:jy) (Y:j9) (V:jj) (F:jn) (J:jW) (f_:jy) (o:dq) (P:mO) (cond:jW->Prop) (it:ae) (K:j9->jW->jy->Prop) (s:aj) (R:mO),
   gs≠[]->(∀g r,gs=g::r->g.is_async=0)->xK (Es b fE fT fJ c iV gs) cond l Y J f_ K->(∀g r,gs=g::r->ot S d g.target cond it l V F P)->j4 S V F J (⟨env,Y,own⟩::fs) (P++(D,o)::R) s->uB S b V F o f_->
   codeAny (p_ S) A (.compLoop (Eu b iV iO b_ pos) iW it (.ref D) env) (tB S b V F env own fs D R K) s:=by
 intro gs;induction gs with
 |nil=>intro _ _ _ _ _ _ _ _ _ _ _ _ _ _ _ o8;exact absurd rfl o8
 |cons g gs ih=>
  intro iW Zw l;have⟨hg,vE⟩:=Ev Zw;induction l with
  |nil=>intro Y V F J f_ o P cond it K s R _ has h nx H B;have Kh:=has g gs rfl;apply BA;apply ir;rw[Bz hg Kh];refine G (bR (G (ai (nx g gs rfl V F J _ _ s A (.refl _ _) (N▸fa Y) h.1 H) (λr jw lX=>?_) λ_ _ h=>h.elim)));obtain⟨rfl,jq,jL,C,d_⟩:=lX;exact ac ⟨rfl,jq,jL,J,Y,f_,o,C,d_,B.mono C,h.2⟩
  |cons a l Zx=>
   intro Y V F J f_ o P cond it K s R o8 has h nx H B;have Kh:=has g gs rfl;have⟨rq,zF⟩:=h;have⟨_,WC⟩:=zF;have⟨i,hb,Zy⟩:=jo WC;apply BA;apply ir;rw[Bz hg Kh];refine G (bR (G (ai (nx g gs rfl V F J _ _ s A (.refl _ _) (N▸fa Y) rq H) (λr jw lX=>?_) λ_ _ h=>h.elim)));obtain⟨v,rfl,lt⟩:=lX;refine G (ai lt (λ_ e_ nS=>?_) λ_ _ e=>e.elim);have⟨jq,jL,iL,C,kG,jN,za⟩:=nS;refine G (uS (f:=⟨env,Y,own⟩) (fa Y) (O Y) jN kG hb λmq nA mr t kK=>?_);have IO:=fa i;refine G (wX hT IO (O i) (b:=true) (by rw[aB rfl];exact Zy) kK λok u w lY rB y mt m=>?_);have MF:=(C.trans t).trans y;have again:∀(j:jj) (k:jn) (z:jW) (T:j9) (U:jy) (W:dq) (CK:aj) (X:mO),j8 jq j jL k->ot S d g.target cond it l j k X->j4 S j k z (⟨env,T,own⟩::fs) (X++(D,W)::R) CK->uB S b j k W U->
     xK (Es b fE fT fJ c iV (g::gs)) cond l T z U K->codeAny (p_ S) A (.compLoop (Eu b iV iO b_ pos) iW it (.ref D) env) (tB S b V F env own fs D R K) CK:=
    λj k z T U W CK X I WD wY WE L=>b7 (Zx T j k z U W X cond it K CK R o8 has L (λPU PV e=>by cases e;exact WD) wY WE) λ_ _ p=>p.grow (C.trans I)
   cases ok with
   |false=>rw[aA (by decide)]at m⊢;exact ac (And.intro pf (again u w lY i f_ o rB iL (t.trans y) (ot.mono (t.trans y) za) mt (B.mono MF) m))
   |true=>
    rw[aB rfl]at m⊢;cases gs with
    |nil=>
     have hn:iO[iW+1]?=none:=by
      have h1:(iO.drop (iW+1)).length=0:=by rw[vE];rfl
      grind
     rw[hn];refine G (Kg (qt (V:=u) (F:=w) (fs:=⟨env,i,own⟩::fs) (R:=iL++(D,o)::R) (S:=S) (wp_mono (hE c iV i lY _ wW m u w ⟨env,i,own⟩ fs _ rB A IO (O i) rfl mt) λj k x av z CK I wY Zz L=>?_)));have WF:=wY.nw (iS:=(D,o)::(iL++R)) bx;refine Ke (b:=b) (by have:=IO.units;show A.units+8<9900;omega) WF (B.mono (MF.trans I)) Zz L λo' Z A9 MH kk=>?_;have MI:=A9.nw (iS:=iL++(D,o')::R) bx.symm;exact ac (And.intro pf (again j k z i _ o' Z iL ((t.trans y).trans I) (ot.mono ((t.trans y).trans I) za) MI MH kk))
    |cons g' IP=>have⟨M,_⟩:=Ev vE;rw[M];have⟨MJ,Ex,m⟩:=m;simp only[MJ,dj,au,bD];refine G (qt (V:=u) (F:=w) (fs:=⟨env,i,own⟩::fs) (R:=iL++(D,o)::R) (S:=S) (ai (hJ c g'.target g'.iter i lY _ wW m u w ⟨env,i,own⟩ fs _ rB A (N▸IO) N (O i) rfl mt) (λx CK Tk=>?_) λ_ _ e=>e));replace Tk:=λ(E':ae->aj->Prop)=>qt (E:=E') (V:=u) (F:=w) (fs:=⟨env,i,own⟩::fs) (R:=iL++(D,o)::R) (S:=S) Tk;refine G (bR (G ?_));rw[tC Ex];refine ac (G (aF (ai (Tk _) (λit' Z ZA=>?_) λ_ _ e=>e)));have⟨IQ,PW,Tl,MK,l',WG,PX,A9,Tm,WH,L⟩:=ZA;have MI:=A9.nw (iS:=Tl++(D,o)::(iL++R)) ((List.Perm.refl Tl).append bx);have n:=ih (iW+1) vE l' i IQ PW MK f_ o Tl WG it' (λkM g_ ru=>xK (Es b fE fT fJ c iV (g::g'::IP)) cond l kM g_ ru K) Z (iL++R) (by simp) (λPU PV e=>by cases e;exact MJ) L (λPU PV e=>by cases e;exact WH.next);refine G (wpAny_runOwn (b7 (xL M MJ (λA Q E q=>WH.self IQ PW MK _ _ Z A Q E (.refl _ _) Tm A9 q) (n MI (B.mono (MF.trans PX)))) λr ZB p=>?_));obtain⟨rfl,WI,ZC,ML,WJ,Tn,WK,ZD,ZE,WM,ZF⟩:=p;have WN:=ZE.nw (iS:=iL++(D,WK)::R) bx.symm;have gg:=((t.trans y).trans PX).trans ZD;exact ac (And.intro pf (again WI ZC ML WJ Tn WK ZB iL gg (ot.mono gg za) WN WM ZF))
def BC (b:aY)(fE:rT)(fT:GB)(fJ:Rj)(c:nW)(iV:Expr)(iO:List dP)(b_:dF)(Y:j9)(J:jW)(K:jy->jW->Prop)(X:KX):Prop:=
 match iO with
 |[]=>False
 |g::gs=>Cw b_ c.scope=true/\c.calm=true/\g.is_async=0/\pW g.iter=false/\fJ c g.target g.iter Y J (λl cond jf=>xK (Es b fE fT fJ (Cx c b_) iV (g::gs)) cond l (qr b_ Y) jf [] λ_ j1 f_=>K f_ j1) X
abbrev uf:=BC false
section
variable {f:ma}
def Holds.To{a:iJ}(X:j4 S V F J (f::fs) R s)(l:a∈f.own)(k:∀b o,b≠a->s.heap.get? b=some o->h'.get? b=some o):j4 S V F J fs R {s with heap:=h',toks:=t}:=by
 have p:=m8 V J f fs R;have⟨_,_,y⟩:=aK.mp (p.nodup_iff.mp X.nd);have g:∀b∈kz V J fs R,b≠a:=λb j e=>y a l b j e.symm;have⟨n,z⟩:=X.new a (p.mem_iff.mpr (aH _ l));have K:s8 S.B a s.heap h':=⟨λb j x=>k b x j,z⟩
 have d:=X.pop;exact{
  base:=X.base,lw:=λb x e=>k _ _ (λh=>by rw[h,n]at e;cases e) (X.lw _ _ e),old:=X.LV K,lim:=X.LW K,bare:=X.bare,os:=X.os,len:=X.len,nd:=d.nd,new:=d.new,
  there:=λb m=>let ⟨x,A⟩:=d.there b m;⟨x,k _ _ (g b m) A⟩,
  cells:=λi b c q r=>by
   by_cases u:c=.dead
   .subst u;trivial
   .exact(X.cells i b c q r).mono (.refl _ _) λx=>k b x (g b (aH _ (lx q r u))),
  frames:=d.frames.mono (.refl _ _) λb m x=>k b x (g b (ag _ (aH _ m))),
  res:=λp w=>k _ _ (g _ (ag _ (ag _ (bz w)))) (d.res p w),
  tabs:=X.DY K n (λ_ _ e=>e) λ_ _ e=>e,mS:=X.mS}
def nC.re{env':Env}(a:nC c ⟨env,Y,own⟩)(b:j9):nC c ⟨env,b,own⟩:=a
def CL(Y a:j9):ls (⟨env,Y,own⟩::fs)=ls (⟨env,a,own⟩::fs):=by unfold ls;rw[cL,cL];have:ma.isFn ⟨env,Y,own⟩=ma.isFn ⟨env,a,own⟩:=rfl;rw[this];split<;>rfl
def kj.vars{a:aY}(h:kj d a (⟨env,Y,own⟩::fs) A)(b:j9):kj d a (⟨env,b,own⟩::fs) A:=⟨h.depth,h.units,h.frames.trans (cq some (CL Y b)),h.guards,h.calm⟩
def MM:aY->Sem ae
 |false=>newList []
 |true=>newSet (.type "set")
def sk(hE:l7 S d fE)(hT:rn S d fT)(O:xF S d fJ){K:jy->jW->Prop}{use:az (ae->Sem Unit)}
  (h:BC b fE fT fJ c iV iO b_ Y J K X) (fa:kj d c.calm (f::fs) A) (z:nC c f) (U:f.vars=Y) (H:j4 S V F J (f::fs) R s){Q:nz}
  (q:∀jF F' W l o C cf D Z,j8 V jF F F'->j4 S jF F' W (cf::f::fs) ((D,o)::R) Z->uB S b jF F' o l->K l W->cf.env.locals=C->C∈cf.own->
   compPost (p_ S) A (oW S V F (f::fs) R X) use Q (.ref D) C (.ok .next) Z):
  kY S A (comprehension (Eu b iV iO b_ pos) b_ f.env p (MM b) false (firstIter iO f.env) use) Q (oW S V F (f::fs) R X) s:=by
 cases iO with
 |nil=>exact h.elim
 |cons g gs=>
  have⟨ok,B,Kh,Ex,h⟩:=h;have T:=H.top;have j:=ok;simp only[Cw,aJ,aZ,cz,dC,iI,aG]at j;have⟨⟨rj,yX⟩,Zf⟩:=j;have Ey:=qQ λq n G=>by
   rcases Zf q n with h|h
   .exact absurd G h
   .have⟨a,_,e,_⟩:=T.cells q.1 (by show m5 q.1 (f.env.scope.names.lookup q.1)=true;rw[z.1];exact h);exact⟨a,e⟩
  rw[show firstIter (g::gs) f.env=eval g.iter f.env by cases g;rfl];apply wpAny_comprehension_free (g:=g) (gs:=gs) (by cases b<;>rfl) (λx=>tC Ex) Ey rj (λx hx I=>nq yX (by rw[<-I];exact hx));refine ai (O c g.target g.iter Y J _ X h V F f fs R s A (B▸fa) B z U H) (λx jw lX=>?_) λ_ _ e=>e;refine ai lX (λit e_ nS=>?_) λ_ _ e=>e;have⟨k,m,iS,jf,l,cond,jY,jN,uZ,WO,iU⟩:=nS;have L:∀{Q':ae->aj->Prop}{E':ae->aj->Prop},(∀i,(e_.heap.push i).get? e_.heap.objs.size=some i->uB S b k m i []->Q' (.ref e_.heap.objs.size) {e_ with heap:=e_.heap.push i})->kY S A (MM b) Q' E' e_:=λn=>by
   cases b with
   |false=>exact wpAny_newList (n _ (am _ rfl) ⟨_,_,rfl,.nil⟩) (by decide)
   |true=>refine MA (P:=qg k m) λi N u=>n i u ?_;have⟨o2,Ri,l2,g1,g2,g3,g4⟩:=zz (V:=k) (F:=m) (λa o e=>ad _ (jN.lw a o e)) N;rw[u]at g1;cases g1;exact⟨[],l2,Ri,rfl,(λf G=>nomatch G),g2,g3,g4⟩
  refine L λi u MN=>?_;have kK:=jN.oU (t:=e_.toks) (λb o e=>ad _ e) (aq (ao _)) u;refine Cy kK z U ok λenv cf rB M mt WP RA l9=>?_;rw[M];have⟨h_,cρ,w⟩:=cf;simp only at RA M;subst RA;have WQ:∀y,kj d (Cx c b_).calm (⟨h_,y,w⟩::f::fs) A:=λy=>(kj.comp (cf:=⟨h_,qr b_ Y,w⟩) fa l9).vars y;have wY:=mt.nw (iS:=iS++(e_.heap.objs.size,i)::R) bx.symm;have I:h_.locals=env.locals:=by rw[<-M]
  rw[<-I];have lp:=G9 (S:=S) (d:=d) (b:=b) hE hT O (env:=h_) (own:=w) (iV:=iV) (iO:=g::gs) (b_:=b_) (pos:=pos) (D:=e_.heap.objs.size) (c:=Cx c b_) B WQ (λy=>WP) (g::gs) 0 rfl l (qr b_ Y) k m jf [] _ iS cond it _ rB R (by simp)
   (λPU PV e=>by cases e;exact Kh) iU (λPU PV e=>by cases e;exact WO.next) wY MN
  refine b7 (xL (g:=g) rfl Kh (λA Q E q=>WO.self k m jf _ _ rB A Q E (.refl _ _) uZ wY q) lp) λr Ki p=>?_;obtain⟨rfl,IQ,PW,BD,RB,Tp,ZG,PX,A9,MH,ZH⟩:=p;exact q IQ PW BD Tp ZG h_.locals ⟨h_,RB,w⟩ e_.heap.objs.size Ki (jY.trans PX) A9 MH ZH rfl A9.top.loc
def zG(q:l7 S d fE)(r:rn S d fT)(u:xF S d fJ)(w:firstAsync iO=false)
  (h:uf fE fT fJ c iV iO b_ Y J (λl a=>K (.lst l) a) X):pD S d (eval (.ListComp iV iO b_ pos)) c Y J K X:=by
 intro V F f fs R s A fa y z H;rw[eval_ListComp,w];refine sk (b:=false) (use:=none) q r u h fa y z H λjF F' a l o C cf D B g i E k G I=>?_;obtain⟨m,j,_⟩:=i.top.ns;rw[G]at j;refine⟨m,j,λQ L=>?_⟩;have M:=i.To (t:=B.toks) I (λb x N e=>L.extBut b x N e);have⟨O,p⟩:=M.SW;obtain⟨vs,n,rfl,P⟩:=E;exact⟨jF,_,_,a,g.trans p,O,.lst (jn.lf _ _ _) rfl rfl (P.mono p),k⟩
def A_(ok:ml S)(p:l7 S d fE)(q:rn S d fT)(r:xF S d fJ)(u:firstAsync iO=false)
  (h:BC true fE fT fJ c iV iO b_ Y J (λl a=>ky (zn l) λels=>K (.ref a.length) (a++[.set (ku [] els)])) X):pD S d (eval (.SetComp iV iO b_ pos)) c Y J K X:=by
 intro V F f fs R s A fa w y H;have z:eval (.SetComp iV iO b_ pos) f.env=comprehension (.SetComp iV iO b_ pos) b_ f.env (firstIterPos iO pos) (newSet (.type "set")) (firstAsync iO) (firstIter iO f.env):=rfl;rw[z,u];refine sk (b:=true) (use:=none) p q r h fa w y H λjF F' a l o C cf D B g i E k G I=>?_;obtain⟨m,j,_⟩:=i.top.ns;rw[G]at j;refine⟨m,j,λZ L=>?_⟩;have n:=i.To (t:=B.toks) I (λb x M e=>L.extBut b x M e);obtain⟨els,l',vs,rfl,hk,hi,N,O⟩:=E;have P:∀els:kr,zn (els.map p7)=some els:=λels=>by
  induction els with
  |nil=>rfl
  |cons e els Q=>show(match qW (p7 e),zn (els.map p7)with|some e,some es=>some (e::es)|_,_=>none)=_;rw[By,Q]
 rw[P]at k;have k:=JV rfl k;have T:=n.res (D,o) (.head _);have⟨U,W⟩:=n.vz (c:=.set (ku [] els)) (by rw[ok];exact⟨o,vs,l',T,hi,N,O.mono (j8.snoc jF F' D)⟩) (by intro h;cases h);refine⟨_,F',_,_,g.trans W,U,.ref ?_,k⟩;rw[<-i.len,aR (ao _),cM];rfl
end
inductive AFl where
 |next|brk|cont
 |ret (a:AV)
abbrev KS:=AFl->j9->jW->Prop
abbrev wM:=XK->j9->jW->Prop
abbrev WR:=nW->Stmt->j9->jW->KS->wM->Prop
abbrev PZ:=nW->p6->j9->jW->KS->wM->Prop
def dummy(b_:dF):Env:={scope:=b_,locals:=0,globals:=0,cells:=[]}
structure tD extends Par where
 iter:D5
 MO:rT->GB->WR->PZ->WR
variable {P:tD}
def sm (c:nW):jK->jy->j9->az j9
 |[],[],Y=>some Y
 |x::xs,a::l,Y=>if m9 c x=true then sm c xs l ((x,a)::Y)else none
 |_,_,_=>none
def Kj (body:j9->jW->KS->Prop)(bind:AV->j9->az j9)(cond:jW->Prop)(iZ:j9->jW->KS->Prop):jy->j9->jW->KS->Prop
 |[],Y,J,K=>cond J/\iZ Y J K
 |a::l,Y,J,K=>cond J/\ky (bind a Y) λkI=>body kI J λfl oZ jf=>match fl with
  |.next|.cont=>Kj body bind cond iZ l oZ jf K
  |.brk=>K .next oZ jf
  |.ret a=>K (.ret a) oZ jf
def Hh:Expr->az (Expr×List dP×dF)
 |.ListComp iV iO b_ _=>some (iV,iO,b_)
 |_=>none
mutual
def aS (P:tD):Nat->WR
 |0,_,_,_,_,_,_=>False
 |n+1,c,st,Y,J,K,X=>match st with
  |.Pass _=>K .next Y J
  |.Return (some e) _=>aE P.toPar 100 c e Y J (λa iT=>K (.ret a) Y iT) λx iT=>X x Y iT
  |.Return none _=>K (.ret .none) Y J
  |.If t a b _=>aT P.toPar 100 c t Y J (λv iT=>if v=true then rS P n c a Y iT K X else rS P n c b Y iT K X) λx iT=>X x Y iT
  |.Expr e pos=>pureOf (swapsWith e none pos.line (dummy c.scope))=some false/\aE P.toPar 100 c e Y J (λa iT=>(match a with|.none=>True|_=>False)/\K .next Y iT) λx iT=>X x Y iT
  |.Assign [.Name x xp] value pos=>(match pureOf (swapsWith value (some (.Name x xp)) pos.line (dummy c.scope))with
   |some false=>aE P.toPar 100 c value Y J (λa iT=>m9 c x=true/\K .next ((x,a)::Y) iT) λy iT=>X y Y iT
   |some true=>ky (Hh value) λq=>m9 c x=true/\firstAsync q.2.1=false/\uf (aE P.toPar 100) (aT P.toPar 100) (uT (aE P.toPar 100) P.iter) c q.1 q.2.1 q.2.2 Y J (λl iT=>K .next ((x,.lst l)::Y) iT) λy iT=>X y Y iT
   |none=>False)
  |.Assign [.Tuple es k tp] value pos=>pureOf (swapsWithSole [.Tuple es k tp] value pos.line (dummy c.scope))=some false/\(match pureOf (swappedStores [.Tuple es k tp] value (dummy c.scope))with
   |some none=>aE P.toPar 100 c value Y J (λa iT=>ky (yZ c (.Tuple es k tp) a Y) λkI=>K .next kI iT) λy iT=>X y Y iT
   |some (some c_)=>aE P.toPar 100 c value Y J (λa iT=>match a with
     |.tup l=>c.calm=true/\c_.length=l.length/\ky (sm c c_.reverse l.reverse Y) λkI=>K .next kI iT
     |_=>False) λy iT=>X y Y iT
   |none=>False)
  |.For target iter body iZ _=>c.calm=true/\pW iter=false/\uT (aE P.toPar 100) P.iter c target iter Y J (λl cond jf=>Kj (λY J K=>rS P n c body Y J K λ_ _ _=>False) (λa Y=>yZ c target a Y) cond (λY J K=>rS P n c iZ Y J K λ_ _ _=>False) l Y jf K) λx iT=>X x Y iT
  |st=>P.MO (aE P.toPar 100) (aT P.toPar 100) (aS P n) (rS P n) c st Y J K X
def rS (P:tD):Nat->PZ
 |0,_,_,_,_,_,_=>False
 |n+1,c,l,Y,J,K,X=>match l with
  |[]=>K .next Y J
  |st::r=>aS P n c st Y J (λfl kI iT=>match fl with
    |.next=>rS P n c r kI iT K X
    |fl=>K fl kI iT) X
end
section
variable (S:Sys) (d:Nat)
def WS (V:jj)(F:jn):Flow->AFl->Prop
 |.next,.next=>True
 |.brk,.brk=>True
 |.cont,.cont=>True
 |.ret v,.ret a=>kQ V F v a
 |_,_=>False
def qu (V:jj)(F:jn)(env:Env)(own:jj)(fs:jS)(R:mO)(K:KS)(fl:Flow)(s:aj):Prop:=∃jF F' g_ kM a,j8 V jF F F'/\j4 S jF F' g_ (⟨env,kM,own⟩::fs) R s/\WS jF F' fl a/\K a kM g_
def oF (V:jj)(F:jn)(env:Env)(own:jj)(fs:jS)(R:mO)(X:wM)(x:ae)(s:aj):Prop:=∃jF F' g_ kM k,j8 V jF F F'/\Cq S.jR S.B jF F' g_ (⟨env,kM,own⟩::fs) R x k s/\X k kM g_
def CN (t:Env->Sem Flow)(c:nW)(Y:j9)(J:jW)(K:KS)(X:wM):Prop:=∀(V:jj) (F:jn) (env:Env) (own:jj) (fs:jS) (R:mO) (s:aj) (A:bO),kj d c.calm (⟨env,Y,own⟩::fs) A->nC c ⟨env,Y,own⟩->
 j4 S V F J (⟨env,Y,own⟩::fs) R s->kY S A (t env) (qu S V F env own fs R K) (oF S V F env own fs R X) s
end
section
variable {K:KS}{X:wM}
def qu.grow{fl:Flow}(g:j8 V jF F F')(h:qu S jF F' env own fs R K fl s):qu S V F env own fs R K fl s:=let ⟨a,b,c,d,e,f,r⟩:=h;⟨a,b,c,d,e,g.trans f,r⟩
def oF.grow{x:ae}(g:j8 V jF F F')(h:oF S jF F' env own fs R X x s):oF S V F env own fs R X x s:=let ⟨a,b,c,d,e,f,r⟩:=h;⟨a,b,c,d,e,g.trans f,r⟩
def zH{t:Sem Flow}(g:j8 V jF F F')(h:wpAny M A t (qu S jF F' env own fs R K) (oF S jF F' env own fs R X) s):wpAny M A t (qu S V F env own fs R K) (oF S V F env own fs R X) s:=ai h (λ_ _ p=>p.grow g) λ_ _ p=>p.grow g
def og.toS{x:ae}{WU:KX}(h:oW S V F (⟨env,Y,own⟩::fs) R (λk J=>X k Y J) x s):oF S V F env own fs R X x s:=let ⟨a,b,k,J,g,f,q⟩:=h;⟨a,b,J,Y,k,g,f,q⟩
def oH{t:Sem α}{Q:α->aj->Prop}(h:wpAny M A t Q (oW S V F (⟨env,Y,own⟩::fs) R λk J=>X k Y J) s):wpAny M A t Q (oF S V F env own fs R X) s:=ai h (λ_ _ q=>q) λ_ _ p=>og.toS (WU:=wW) p
def nZ{t:az Expr}(h:env.scope=c.scope):swapsWith value t line env=swapsWith value t line (dummy c.scope):=by have⟨sc,l,g,a,q,b,d,e,f⟩:=env;simp only at h;subst h;rfl
def Hi(h:env.scope=c.scope):swapsWithSole ts value line env=swapsWithSole ts value line (dummy c.scope):=by unfold swapsWithSole;split<;>first|exact nZ h|rfl
def vP(h:env.scope=c.scope):swappedStores ts value env=swappedStores ts value (dummy c.scope):=by have⟨sc,l,g,a,q,b,d,e,f⟩:=env;simp only at h;subst h;rfl
structure CO (S:Sys) (P:tD) (d n:Nat):Prop where
 s:∀c st Y J K X,aS P n c st Y J K X->CN S d (exec st) c Y J K X
 b:∀c l Y J K X,rS P n c l Y J K X->CN S d (execs l) c Y J K X
def Hj(t:CO S P d n){l:p6}(h:rS P (n+1) c l Y J K X):CN S d (execs l) c Y J K X:=by
 intro V F env own fs R s A fa u H;cases l with
 |nil=>exact wpAny_execs_nil ⟨V,F,J,Y,.next,.refl _ _,H,trivial,h⟩
 |cons st r=>
  refine wpAny_execs_cons (ai (t.s c st Y J _ X h V F env own fs R s A fa u H) (λfl w p=>?_) λ_ _ e=>e);have⟨g,i,j,f,a,k,m,o,q⟩:=p;cases fl<;>cases a<;>first|exact o.elim|skip
  .exact zH k (t.b c r f j K X q g i env own fs R w A (fa.vars f) (u.re (env':=env) f) m)
  .exact⟨g,i,j,f,_,k,m,o,q⟩
  .exact⟨g,i,j,f,_,k,m,o,q⟩
  .exact⟨g,i,j,f,_,k,m,o,q⟩
end
section
variable {f:ma}{K:KS}{X:wM}
def Holds.ZI{a:iJ}(X:j4 S V F J (f::fs) R s)(g:a∈f.own)(h:s.heap.get? a=some o):j4 S V F J fs ((a,o)::R) s:=by
 have p:=m8 V J f fs R;have q:=nG V J fs R a o;have⟨_,i,j⟩:=aK.mp (p.nodup_iff.mp X.nd);have c:=X.pop;exact{c with
  nd:=q.nodup_iff.mpr (aL.mpr ⟨λm=>j a g a m rfl,i⟩),
  new:=λb m=>X.new b ((af.mp (q.mem_iff.mp m)).elim (λe=>e▸p.mem_iff.mpr (aH _ g)) λm=>p.mem_iff.mpr (ag _ m)),
  there:=λb m=>(af.mp (q.mem_iff.mp m)).elim (λe=>e▸⟨o,h⟩) λm=>c.there b m,
  res:=λr d=>(af.mp d).elim (λe=>e▸h) λd=>c.res r d}
def zI(H:j4 S V F J (f::fs) R s):interactive f.env=false:=by unfold interactive;rw[H.top.kind];rfl
def yn{Q:Unit->aj->Prop}{E:nz}:∀{xs:jK}{l:jy}{vs:jr}{Y:j9}{s:aj}{b:j9},nC c ⟨env,Y,own⟩->j4 S V F J (⟨env,Y,own⟩::fs) R s->jV V F vs l->
  sm c xs l Y=some b->(∀d,j4 S V F J (⟨env,b,own⟩::fs) R d->Q () d)->wpAny M A (assignInOrder (xs.map λn=>bindName env n) vs) Q E s:=by
 intro xs;induction xs with
 |nil=>
  intro l vs Y s b f H r e q;cases l with
  |nil=>cases r;cases e;exact ac (q _ H)
  |cons a l=>cases e
 |cons x xs g=>
  intro l vs Y s b f H r e q;cases l with
  |nil=>cases e
  |cons a l=>
   unfold sm at e;split at e
   .rename_i h;cases r with
    |cons i j=>exact G (aF (wpAny_bindName (m_ f h H i λd k=>g (Y:=(x,a)::Y) f k j e q)))
   .cases e
def wZ{f a:Pos}{x:Str}(z:xA S P.toPar d)(T:qO S d P.iter)(i:swapsWith (.ListComp iV iO b_ f) (some (.Name x a)) pos.line env=pure true)(U:m9 c x=true)(W:firstAsync iO=false)
  (h:uf (aE P.toPar 100) (aT P.toPar 100) (uT (aE P.toPar 100) P.iter) c iV iO b_ Y J (λl j=>K .next ((x,.lst l)::Y) j) λy j=>X y Y j) (fa:kj d c.calm (⟨env,Y,own⟩::fs) A) (B:nC c ⟨env,Y,own⟩) (H:j4 S V F J (⟨env,Y,own⟩::fs) R s):
  kY S A (exec (.Assign [.Name x a] (.ListComp iV iO b_ f) pos) env) (qu S V F env own fs R K) (oF S V F env own fs R X) s:=by
 have E:l7 S d (aE P.toPar 100):=λc e Y J K X h=>(vD z 100).e c e Y J K X h;have Z:rn S d (aT P.toPar 100):=λc e Y J K X h=>(vD z 100).t c e Y J K X h;rw[exec_Assign_Name_used _ _ _ _ i];refine G (bR (G ?_));show wpAny _ A (do let _ <-comprehension (.ListComp iV iO b_ f) b_ env _ (newList []) (firstAsync iO) (firstIter iO env) (some (assign (.Name x a) env))) _ _ s;rw[W];refine oH (G (ai (sk (Q:=λ_ q=>qu S V F env own fs R K .next q) (b:=false) (use:=some (assign (.Name x a) env)) E Z (pG E T) h fa B rfl H λjF F' g_ l o C cf D q g I ha k hC hm=>?_) (λ_ q p=>ac (ac p)) λ_ _ e=>e));have⟨m,L,_⟩:=I.top.ns;rw[hC]at L;have⟨r,es,ep,WV,u⟩:=id L;have jN:=I.ZI hm WV;have kK:=jN.nw (iS:=(D,o)::(C,r)::R) (List.Perm.swap _ _ _);have⟨mt,M⟩:=kK.SW;have⟨vs,n,N,rs⟩:=ha;have w:kQ jF (F'.put D o) (.ref D) (.lst l):=.lst (jn.lf _ _ _) (by rw[N]) (by rw[N]) (rs.mono M);refine eK (m_ B U mt w λCK O=>?_);have WW:=O.res (C,r) (.head _);refine⟨m,⟨r,es,ep,WW,u⟩,λHg hs=>?_⟩;exact⟨jF,_,g_,_,.next,g.trans M,O.GO (t:=CK.toks) λb y hb e=>hs.extBut b y hb e,trivial,k⟩
end
section
variable {f:ma}{K:KS}{X:wM}
def Ez{t:Sem α}{Q:α->aj->Prop}{E:nz}(h:wpAny M A t Q (oF S V F env own fs R λ_ _ _=>False) s):wpAny M A t Q E s:=ai h (λ_ _ q=>q) λ_ _ ⟨_,_,_,_,_,_,_,k⟩=>k.elim
def Kk(m:CO S P d n){g:Expr}{i j:p6}(N:c.calm=true)(fa:∀Y,kj d c.calm (⟨env,Y,own⟩::fs) A)(x:∀Y,nC c ⟨env,Y,own⟩){cond:jW->Prop}:
  ∀(l:jy) (Y:j9) (V:jj) (F:jn) (J:jW) (o:mO) (s:aj),Kj (λY J K=>rS P n c i Y J K λ_ _ _=>False) (λa Y=>yZ c g a Y) cond (λY J K=>rS P n c j Y J K λ_ _ _=>False) l Y J K->
   ot S d g cond it l V F o->j4 S V F J (⟨env,Y,own⟩::fs) (o++R) s->
   codeAny (p_ S) A (.forLoop g it i j env) (λr q=>match r with|.ok fl=>qu S V F env own fs R K fl q|.error _=>False) s:=by
 intro l;induction l with
 |nil=>intro Y V F J o s h y H;apply bX;apply ir;unfold forTurn;refine G (bR (G (eE (ai (y V F J _ _ s A (.refl _ _) (N▸fa Y) h.1 H) (λr O z=>?_) λ_ _ h=>h.elim))));obtain⟨rfl,Q,T,B,d_⟩:=z;refine ac (And.intro rfl (codeAny_block ?_));exact ai (Ez (E:=λ_ _=>False) (m.b c j Y J K _ h.2 Q T env own fs R O A (fa Y) (x Y) d_)) (λfl e_ p=>p.grow B) λ_ _ e=>e.elim
 |cons a l Zx=>
  intro Y V F J o s h y H;have⟨rq,h⟩:=h;have⟨C,hb,h⟩:=jo h;apply bX;apply ir;unfold forTurn;refine G (bR (G (eE (ai (y V F J _ _ s A (.refl _ _) (N▸fa Y) rq H) (λr O z=>?_) λ_ _ h=>h.elim))));obtain⟨v,rfl,lt⟩:=z;refine G (ai lt (λ_ e_ nS=>?_) λ_ _ e=>e.elim);have⟨Q,T,iL,B,kG,jN,za⟩:=nS;refine G (uS (f:=⟨env,Y,own⟩) (fa Y) (x Y) jN kG hb λmq nA mr U kK=>?_);refine G (ai (Ez (E:=λ_ _=>False) (m.b c i C J _ _ h mq nA env own fs (iL++R) mr A (fa C) (x C) kK)) (λfl rB p=>?_) λ_ _ e=>e.elim);have⟨D,I,t,u,L,W,mt,X,w⟩:=p;have M:=(B.trans U).trans W;have Z:Kj (λY J K=>rS P n c i Y J K λ_ _ _=>False) (λa Y=>yZ c g a Y) cond (λY J K=>rS P n c j Y J K λ_ _ _=>False) l u t K->
    codeAny (p_ S) A (.forLoop g it i j env) (λr q=>match r with|.ok fl=>qu S V F env own fs R K fl q|.error _=>False) rB:=λk=>
   b7 (Zx u D I t iL rB k (ot.mono (U.trans W) za) mt) λr q p=>by
    cases r with
    |ok fl=>exact qu.grow M p
    |error e=>exact p
  have IR:∀{iL:mO}{J:jW}{s:aj}{V:jj}{F:jn}{fs:jS},j4 S V F J fs (iL++R) s->j4 S V F J fs R s:=by
   intro iL;induction iL with
   |nil=>intro J s V F fs H;exact H
   |cons p iL m=>intro J s V F fs H;exact m (Holds.vw H)
  cases fl<;>cases L<;>first|exact X.elim|skip
  .exact ac (And.intro rfl (Z w))
  .exact ac ⟨D,I,t,u,.next,M,IR mt,trivial,w⟩
  .exact ac (And.intro rfl (Z w))
  .exact ac ⟨D,I,t,u,_,M,IR mt,X,w⟩
end
section
variable {f:ma}{K:KS}{X:wM}
def IS (S:Sys)(d:Nat)(fS:WR):Prop:=∀c st Y J K X,fS c st Y J K X->CN S d (exec st) c Y J K X
def RC (S:Sys)(d:Nat)(fB:PZ):Prop:=∀c l Y J K X,fB c l Y J K X->CN S d (execs l) c Y J K X
def Tr (S:Sys)(P:tD)(d:Nat):Prop:=∀fE fT fS fB,l7 S d fE->rn S d fT->IS S d fS->RC S d fB->IS S d (P.MO fE fT fS fB)
structure u0 (S:Sys) (P:tD) (d:Nat):Prop where
 par:xA S P.toPar d
 iter:qO S d P.iter
 MO:Tr S P d
def Hk(a:xA S P.toPar d)(n:Nat):l7 S d (aE P.toPar n):=λc e Y J K X h=>(vD a n).e c e Y J K X h
def Ts(a:xA S P.toPar d)(n:Nat):rn S d (aT P.toPar n):=λc e Y J K X h=>(vD a n).t c e Y J K X h
def Km(C:u0 S P d)(D:CO S P d n){st:Stmt}(h:aS P (n+1) c st Y J K X):CN S d (exec st) c Y J K X:=by
 have y:=Hk C.par 100;have T:=Ts C.par 100;unfold aS at h;split at h
 .intro V F env own fs R s A fa g H;exact wpAny_Pass ⟨V,F,J,Y,.next,.refl _ _,H,trivial,h⟩
 .intro V F env own fs R s A fa g H;exact wpAny_Return_some (oH (wp_mono (y c _ Y J _ _ h V F ⟨env,Y,own⟩ fs R s A fa g rfl H) λq t v a j w m o u i=>⟨q,t,j,Y,.ret a,m,o,u,i⟩))
 .intro V F env own fs R s A fa g H;exact wpAny_Return_none ⟨V,F,J,Y,.ret .none,.refl _ _,H,.none,h⟩
 .intro V F env own fs R s A fa g H;refine wpAny_If (oH (rp (T c _ Y J _ _ h V F ⟨env,Y,own⟩ fs R s A fa g rfl H) λq t b j w m o i=>?_));cases b
  .rw[aA (by decide)]at i⊢;exact zH m (D.b c _ Y j K X i q t env own fs R w A fa g o)
  .rw[aB rfl]at i⊢;exact zH m (D.b c _ Y j K X i q t env own fs R w A fa g o)
 .intro V F env own fs R s A fa g H;rename_i e pos;have⟨z,h⟩:=h;refine wpAny_Expr (oH (wp_mono (y c _ Y J _ _ h V F ⟨env,Y,own⟩ fs R s A fa g rfl H) λq t v a j w m o u i=>?_)) (zI H) ((nZ g.1).trans (fH z));cases a<;>first|exact i.1.elim|skip
  cases u;exact⟨q,t,j,Y,.next,m,o,trivial,i.2⟩
 .intro V F env own fs R s A fa g H;rename_i x xp value pos;split at h
  .rename_i z;refine wpAny_Assign_Name (oH (wp_mono (y c _ Y J _ _ h V F ⟨env,Y,own⟩ fs R s A fa g rfl H) λq t v a j w m o u i=>?_)) ((nZ g.1).trans (fH z));exact m_ g i.1 o u λe_ B=>⟨q,t,j,_,.next,m,B,trivial,i.2⟩
  .rename_i z;have⟨⟨iV,iO,b_⟩,U,hx,hf,h1⟩:=jo h;have hv:∃lp,value=.ListComp iV iO b_ lp:=by cases value<;>first|(cases U;exact⟨_,rfl⟩)|cases U
   obtain⟨lp,rfl⟩:=hv;exact wZ C.par C.iter ((nZ g.1).trans (fH z)) hx hf h1 fa g H
  .exact h.elim
 .intro V F env own fs R s A fa g H;rename_i es k tp value pos;have⟨z,h⟩:=h;have W:=(Hi (env:=env) (ts:=[.Tuple es k tp]) (value:=value) (line:=pos.line) g.1).trans (fH z);split at h
  .rename_i N;refine Assign_Tuple (oH (wp_mono (y c _ Y J _ _ h V F ⟨env,Y,own⟩ fs R s A fa g rfl H) λq t v a j w m o u i=>?_)) W ((vP g.1).trans (fH N));have⟨O,Q,i⟩:=jo i;exact uS (f:=⟨env,Y,own⟩) fa g o u Q λE G e_ L B=>⟨E,G,j,O,.next,m.trans L,B,trivial,i⟩
  .rename_i c_ N;refine Assign_Tuple_swapped (oH (wp_mono (y c _ Y J _ _ h V F ⟨env,Y,own⟩ fs R s A fa g rfl H) λq t v a j w m o u i=>?_)) W ((vP g.1).trans (fH N));cases a<;>first|exact i.elim|skip
   rename_i l;have⟨M,hn,i⟩:=i;have⟨O,Q,i⟩:=jo i;refine vG (M▸fa.less (cg _)) o u (.inl rfl) hn λvs E G e_ L my B=>?_;exact yn g B my.reverse Q λmr kK=>⟨E,G,j,O,.next,m.trans L,kK,trivial,i⟩
  .exact h.elim
 .intro V F env own fs R s A fa g H;have⟨M,Ex,h⟩:=h;refine wpAny_For (oH (ai (pG y C.iter c _ _ Y J _ _ h V F ⟨env,Y,own⟩ fs R s A (M▸fa) M g rfl H) (λv w lX=>oH (ai lX (λit e_ p=>?_) λ_ _ e=>e)) λ_ _ e=>e)) λx=>tC Ex;have⟨E,G,iS,jf,l,cond,L,B,rq,I,i⟩:=p;exact b7 (Kk D M (λZ=>fa.vars Z) (λZ=>g) l Y E G jf iS e_ i I.next B) λr mr p=>by
   cases r with
   |ok fl=>exact qu.grow L p
   |error e=>exact p.elim
 .exact C.MO _ _ _ _ y T (λc st Y J K X h=>D.s c st Y J K X h) (λc l Y J K X h=>D.b c l Y J K X h) c _ Y J K X h
def zJ(a:u0 S P d):∀n,CO S P d n
 |0=>⟨λ_ _ _ _ _ _ h=>h.elim,λ_ _ _ _ _ _ h=>h.elim⟩
 |n+1=>
  have b:=zJ a n
  ⟨λ_ _ _ _ _ _ h=>Km a b h,λ_ _ _ _ _ _ h=>Hj b h⟩
end
structure Fn where
 fd:f7
 body:p6
 names:jK
 dflt:jy
def rC (I:Fn)(l:jy):az j9:=if l.length<=I.names.length/\I.names.length<=l.length+I.dflt.length then some (I.names.zip (l++I.dflt.drop (l.length+I.dflt.length-I.names.length)))else none
def oV (I:Fn):nW:={scope:=I.fd.scope,code:=I.fd.code,JT:=qa I.fd.scope,calm:=true,fn:=true}
def rD (V:jj)(F:jn):List (Str×ae)->j9->Prop
 |[],[]=>True
 |(x,v)::r,(y,a)::l=>x=y/\kQ V F v a/\rD V F r l
 |_,_=>False
structure P0 (S:Sys) (f:iJ) (I:Fn):Prop where
 obj:∃o,S.B.H.get? f=some o/\o.data=.func I.fd/\o.cls≠.none
 code:∃c' o vs t,I.fd.code=.ref c'/\S.B.H.get? c'=some o/\o.cls≠.none/\o.data=.fields vs/\vs[1]?=some (.str I.fd.qualname t)
 body:I.fd.body=.stmts I.body
 globals:I.fd.globals=mainGlobals
 builtins:I.fd.builtins=builtinsNs
 closure:I.fd.closure=[]
 kind:I.fd.scope.kind=.function
 gen:I.fd.scope.isGenerator=false
 co:I.fd.scope.isCoroutine=false
 names:lM I.fd.scope.names=true
 free:∀p∈I.fd.scope.names,p.2≠.free
 params:∀x∈I.names,I.fd.scope.names.lookup x=some .local∨I.fd.scope.names.lookup x=some .cell
 bind:∀(V:jj) (F:jn) (J:jW) (fs:jS) (R:mO) (s:aj) (vs:jr) (l:jy) (Y:j9),j4 S V F J fs R s->jV V F vs l->rC I l=some Y->
  ∃binds,BindsTo s I.fd ⟨vs,[]⟩ binds/\rD V F binds Y
section
variable {f:ma}{K:KS}{X:wM}
def xN:∀{b:List (Str×ae)}{Y:j9},rD V F b Y->b.map (·.1)=Y.map (·.1)
 |[],[],_=>rfl
 |(x,v)::r,(y,a)::l,h=>by rw[bg,bg,xN h.2.2,h.1]
 |[],_::_,h=>h.elim
 |_::_,[],h=>h.elim
def zK:∀{b:List (Str×ae)}{Y:j9}{c:List (Str×ae)}{d:j9},rD V F b Y->rD V F c d->rD V F (b++c) (Y++d)
 |[],[],_,_,_,h=>h
 |(x,v)::r,(y,a)::l,_,_,h,h'=>⟨h.1,h.2.1,zK h.2.2 h'⟩
 |[],_::_,_,_,h,_=>h.elim
 |_::_,[],_,_,h,_=>h.elim
def qY:∀{b:List (Str×ae)}{Y:j9},rD V F b Y->rD V F b.reverse Y.reverse
 |[],[],_=>trivial
 |(x,v)::r,(y,a)::l,h=>by rw[dg,dg];exact zK (qY h.2.2) ⟨h.1,h.2.1,trivial⟩
 |[],_::_,h=>h.elim
 |_::_,[],h=>h.elim
def pX:∀{b:List (Str×ae)}{Y:j9},rD V F b Y->∀x,n9 V F (b.lookup x) (Y.lookup x)
 |[],[],_,_=>trivial
 |(x,v)::r,(y,a)::l,h,z=>by
  rw[kh,kh,h.1];by_cases c:z=y
  .rw[aB c,aB c];exact h.2.1
  .rw[aA c,aA c];exact pX h.2.2 z
 |[],_::_,h,_=>h.elim
 |_::_,[],h,_=>h.elim
def xO(l:List (Str×α))(x y:Str)(v:α):(l++[(x,v)]).lookup y=(l.lookup y).or (if y=x then some v else none):=by rw[List.lookup_append,kh];rfl
def zL(k:Str->az cF):∀(b:List (Str×ae)) (m:Str->az ae) (x:Str),k x=some .local->bindL k b m x=(b.reverse.lookup x).or (m x)
 |[],m,x,_=>by simp[bindL]
 |(n,v)::r,m,x,a=>by
  unfold bindL;rw[zL k r _ x a,dg,xO,Option.or_assoc];congr 1;by_cases c:x=n
  .subst c;rw[aB a];simp
  .split<;>simp[c]
def EA(k:Str->az cF):∀(b:List (Str×ae)) (m:Str->az ae) (x:Str),k x≠some .local->bindC k b m x=(b.reverse.lookup x).or (m x)
 |[],m,x,_=>by simp[bindC]
 |(n,v)::r,m,x,a=>by
  unfold bindC;rw[EA k r _ x a,dg,xO,Option.or_assoc];congr 1;by_cases c:x=n
  .subst c;rw[aA a];simp
  .split<;>simp[c]
end
def RD (K:KV):KS:=λfl _ J=>match fl with
 |.ret a=>K a J
 |.next=>K .none J
 |_=>False
def yI (P:tD)(I:Fn)(l:jy)(J:jW)(K:KV)(X:KX):Prop:=ky (rC I l) λY=>rS P 200 (oV I) I.body Y.reverse J (RD K) λx _ g_=>X ⟨x.name,true⟩ g_
def vQ{I:Fn}(h:rC I l=some Y):∀p∈Y,p.1∈I.names:=by
 unfold rC at h;split at h
 .cases h;intro p a;exact(List.of_mem_zip a).1
 .cases h
def BF{b:List (Str×ae)}(h:rD V F b Y):∀p∈b,∃q∈Y,q.1=p.1:=λp a=>by
 have:p.1∈Y.map (·.1):=by rw[<-xN h];exact bz a
 have⟨q,c,e⟩:=aM.mp this;exact⟨q,c,e⟩
def vR (S:Sys)(V:jj)(F:jn)(fs:jS)(R:mO)(K:KV)(X:KX)(r:Result)(s:aj):Prop:=match r with
 |.ok (.ret v)=>nP S V F fs R K v s
 |.ok _=>False
 |.error e=>oW S V F fs R X e s
def EB{f:iJ}{I:Fn}(ok:P0 S f I)(PO:u0 S P d)(h:yI P I l J K X)(fa:kj (d+1) true fs A)(H:j4 S V F J fs R s)(rs:jV V F vs l):
  codeAny (p_ S) A (.call (.ref f) ⟨vs,[]⟩) (vR S V F fs R K X) s:=by
 have⟨Y,ha,h⟩:=jo h;have⟨o,D,hd,o8⟩:=ok.obj;have⟨c',oc,WX,ct,GE,LN,WY,WZ,W0⟩:=ok.code;have⟨g,j,rv⟩:=ok.bind V F J fs R s vs l Y H rs ha;have pV:=H.lw _ _ (H.base _ _ D o8);have BG:s.heap.CodeRec I.fd.code I.fd.qualname:=⟨c',oc,WX,ct,GE,H.lw _ _ (H.base _ _ LN WY),WZ,W0⟩
 have mem:∀x,x∈I.fd.scope.names.map (·.1)->True:=λ_ _=>trivial;have W5:∀x∈g,I.fd.scope.names.lookup x.1=some .local∨(I.fd.scope.names.lookup x.1=some .cell/\((cellsFrom (s.heap.objs.size+1) I.fd.scope.names []).lookup x.1).isSome=true):=λx hx=>by
  have⟨q,w,e⟩:=BF rv x hx;rcases ok.params q.1 (vQ ha q w)with h1|h1
  .rw[e]at h1;exact .inl h1
  .rw[e]at h1;have⟨b,j⟩:=lh (n:=s.heap.objs.size+1) (f_:=[]) (.inl (mem_of_lookup h1));have⟨B,u⟩:=mE j;exact .inr ⟨h1,by rw[u];rfl⟩
 refine codeAny_call_function fa.room pV hd ok.co ok.gen ok.body BG (j _ _ _ _ ?_);rw[ok.closure];refine gj ok.kind W5 λenv m jw x=>?_;refine⟨H.lim.keeps x.toInCall.keep,codeAny_func ?_⟩;have kk:∀y,env.kindOf y=I.fd.scope.names.lookup y:=λy=>by rw[m];rfl
 have hL:env.locals=s.heap.objs.size:=by rw[m];rfl
 have W:env.cells=cellsFrom (s.heap.objs.size+1) I.fd.scope.names []:=by rw[m];rfl
 have GJ:env.frame=some env.locals:=by rw[m];rfl
 have E:=qY rv;obtain⟨lX,tk,rfl⟩:=x.toInCall.same;have fresh:∀a,s.heap.objs.size<=a->s.heap.get? a=none:=λa ha=>aq ha;have ZJ:∀n a,(n,a)∈env.cells->∃a',env.cells.lookup n=some a':=λn a Z=>mE Z;have cellAt:∀p∈env.cells,lX.IsCell p.2 (bindC env.kindOf g (λ_=>none) p.1):=λp i=>by
  have⟨a',IT⟩:=ZJ p.1 p.2 i;have:a'=p.2:=by
   have G:=mem_of_lookup IT;have hn:∀{c_:List (Str×cF)}{n:Nat}{f_:lB}{y:Str}{a b:iJ},lM c_=true->(∀q∈c_,∀r∈f_,q.1≠r.1)->(∀a b,(y,a)∈f_->(y,b)∈f_->a=b)->(y,a)∈cellsFrom n c_ f_->(y,b)∈cellsFrom n c_ f_->a=b:=by
    intro c_;induction c_ with
    |nil=>intro n f_ y a b _ _ h h1 c;exact h a b h1 c
    |cons p c_ ih=>
     intro n f_ y a b PL UY h h1 c;have⟨z,k⟩:=p;simp only[lM,aJ,bJ,dh,aG]at PL;unfold cellsFrom at h1 c;split at h1
     .rename_i hk;rw[aB hk]at c;refine ih PL.2 (λq w r hr=>?_) (λa b h1 c=>?_) h1 c
      .grind
      .rcases af.mp h1 with G|m1<;>rcases af.mp c with e2|m2
       .cases G;cases e2;rfl
       .cases G;exact(UY (y,k) (.head _) (y,b) m2 rfl).elim
       .cases e2;exact(UY (y,k) (.head _) (y,a) m1 rfl).elim
       .exact h a b m1 m2
     .grind
   rw[W]at G i;exact hn ok.names (λq w r hr=>by cases hr) (λa b h1=>by cases h1) G i
  subst this;exact x.cell p.1 _ IT
 have HP:j4 S V F J (⟨env,Y.reverse,env.locals::env.cells.map (·.2)⟩::fs) R {s with heap:=lX,toks:=tk}:=by
  refine H.push (t:=tk) x.toInCall.keep (λa ha=>?_) (λa ha=>?_) ?_ ⟨⟨_,x.toInCall.ns,λy C=>?_⟩,λy C=>?_,.head _,λy a C=>?_,?_,⟨env.locals,.head _,GJ⟩,λy z a h1 c=>name_of_addr x.apart (mem_of_lookup h1) (mem_of_lookup c)⟩
  .rcases af.mp ha with rfl|ha
   .exact fresh _ (eU hL.symm)
   .obtain⟨p,i,rfl⟩:=aM.mp ha;exact fresh _ (by have:=x.above p.1 p.2 i;rw[hL]at this;exact Nat.le_of_lt this)
  .rcases af.mp ha with rfl|ha
   .have⟨o,_,_,D,_⟩:=x.toInCall.ns;exact⟨o,D⟩
   .obtain⟨p,i,rfl⟩:=aM.mp ha;have⟨o,D,_⟩:=cellAt p i;exact⟨o,D⟩
  .refine aL.mpr ⟨λZ=>?_,gA.mpr x.apart⟩;have⟨p,i,e⟩:=aM.mp Z;have c:=x.above p.1 p.2 i;have e':=e;rw[e']at c;exact eB _ c
  .rw[zL _ _ _ _ C,iu];exact pX E y
  .have L:I.fd.scope.names.lookup y=some .cell:=by
    have M:=nV C;rw[kk]at M;cases w:I.fd.scope.names.lookup y with
    |none=>rw[w]at M;cases M
    |some k=>rw[w]at M;cases k<;>first|rfl|exact absurd rfl (ok.free (y,.free) (mem_of_lookup w))|cases M
   have⟨b,j⟩:=lh (n:=s.heap.objs.size+1) (f_:=[]) (.inl (mem_of_lookup L));rw[<-W]at j;have⟨B,u⟩:=mE j;have MP:=cellAt (y,B) (mem_of_lookup u);refine⟨B,_,u,aH _ (.tail _ (aM.mpr ⟨(y,B),mem_of_lookup u,rfl⟩)),MP,?_⟩;rw[EA _ _ _ _ (by rw[kk,L];decide),iu];exact pX E y
  .exact fg (x.above y a (mem_of_lookup C))
  .rw[m];exact ok.kind
 have l9:ma.isFn ⟨env,Y.reverse,env.locals::env.cells.map (·.2)⟩=true:=by unfold ma.isFn;rw[GJ];exact bW _
 have yk:=fa.deeper (f:=⟨env,Y.reverse,env.locals::env.cells.map (·.2)⟩) l9;have ff:nC (oV I) ⟨env,Y.reverse,env.locals::env.cells.map (·.2)⟩:=by
  refine⟨by rw[m];rfl,by rw[m];exact ok.globals,by rw[m];exact ok.builtins,by rw[m];rfl,λy C=>?_,λ_=>l9⟩;obtain⟨p,i,rfl⟩:=aM.mp C;have⟨YE,Rl⟩:=aD.mp i;have PE:p.2=.cell:=by simpa using Rl
  have te:(p.1,NameKind.cell)∈I.fd.scope.names:=PE▸YE;have⟨b,j⟩:=lh (n:=s.heap.objs.size+1) (f_:=[]) (.inl te);rw[<-W]at j;have⟨B,u⟩:=mE j;exact⟨B,u,.tail _ (aM.mpr ⟨(p.1,B),mem_of_lookup u,rfl⟩)⟩
 refine ai ((zJ PO 200).b (oV I) I.body Y.reverse J _ _ h V F env _ fs R _ _ yk ff HP) (λfl e_ p=>?_) λe e_ p=>?_
 .have⟨O,Q,T,oZ,a,U,jN,my,N⟩:=p;cases fl<;>cases a<;>first|exact my.elim|exact N.elim|skip
  .exact⟨O,Q,_,T,U,jN.pop,.none,N⟩
  .exact⟨O,Q,_,T,U,jN.pop,my,N⟩
 .have⟨O,Q,T,oZ,k,U,vS,N⟩:=p;have hA:=(yk.vars oZ).frames;refine zc (f:=⟨env,oZ,env.locals::env.cells.map (·.2)⟩) hA l9 vS λmr EC=>?_;exact⟨O,Q,⟨k.name,true⟩,T,U,EC,N⟩
def rE{v:ae}{kw:List (Str×ae)}(h:codeAny (p_ S) A (.call v ⟨vs,kw⟩) (vR S V F fs R K X) s):kY S A (call v vs kw) (nP S V F fs R K) (oW S V F fs R X) s:=by refine dQ (b7 h λr a p=>?_);rcases r with e|(_|_|_|_)<;>exact p
def xP:AV->az (az Int)
 |.none=>some none
 |.int i=>some (some i)
 |_=>none
def uC (l:jy)(lo hi st:az Int):jy:=(sliceRange (sliceBounds lo hi st l.length).1 (sliceBounds lo hi st l.length).2.1 (sliceBounds lo hi st l.length).2.2).filterMap (l[·]?)
def MQ (i0:AV->AV->jW->KV->KX->Prop)(o i:AV)(J:jW)(K:KV)(X:KX):Prop:=match o,i with
 |.lst l,.int k=>l.length<=100000/\ky ((oh l.length k).bind λj=>l[j]?) λa=>K a J
 |.tup l,.int k=>l.length<=100000/\ky ((oh l.length k).bind λj=>l[j]?) λa=>K a J
 |o,i=>i0 o i J K X
@[irreducible] def oJ (o a b t:AV) (J:jW) (K:KV):Prop:=
 ky (xP a) λlo=>ky (xP b) λhi=>ky (xP t) λst=>st≠some 0/\(match o with
  |.lst l=>l.length<=100000/\(match lo,hi,st with
    |none,none,none=>K (.ref J.length) (J++[.list l])
    |lo,hi,st=>K (.lst (uC l lo hi st)) J)
  |.ref k=>(match J[k]?,lo,hi,st with
    |some (.list l),none,none,none=>l.length<=100000/\K (.ref J.length) (J++[.list l])
    |_,_,_,_=>False)
  |.tup l=>l.length<=100000/\lo=none/\hi=none/\st=some (-1)/\K (.tup l.reverse) J
  |_=>False)
section
variable {f:ma}{E:nz}
def jV.places{vs:jr}{l:jy}(h:jV V F vs l):∀c:List Nat,jV V F (c.filterMap (vs[·]?)) (c.filterMap (l[·]?))
 |[]=>.nil
 |j::c=>by
  have e:=jV.places h c;cases b:l[j]? with
  |some a=>have⟨v,d,r⟩:=h.get b;simp only[bQ,b,d];exact .cons r e
  |none=>
   have d:vs[j]?=none:=by rw[dI]at b⊢;rw[h.length];exact b
   simp only[bQ,b,d];exact e
def jV.pick(h:jV V F items.toList l)(lo hi st:az Int):jV V F (slicePick items lo hi st).toList (uC l lo hi st):=by
 have a:items.size=l.length:=by have:=h.length;simpa using this
 have e:(slicePick items lo hi st).toList=(sliceRange (sliceBounds lo hi st l.length).1 (sliceBounds lo hi st l.length).2.1 (sliceBounds lo hi st l.length).2.2).filterMap (items.toList[·]?):=by simp[slicePick,a]
 rw[e];exact h.places _
def CP{v:ae}{k:az Int}(r:kQ V F v a)(e:xP a=some k):IsPart v k:=by
 unfold xP at e;split at e<;>cases e<;>cases r
 .exact .none
 .exact .int _ _
def Holds.P1(H:j4 S V F J fs R s){vs:bM ae}(r:jV V F vs.toList l)(t:Nat)(k:K (.ref J.length) (J++[.list l])):
  nP S V F fs R K (.ref s.heap.objs.size) {s with heap:=s.heap.push {cls:=.type "list",data:=.seq vs},toks:=t}:=by
 have a:=am s.heap (o:={cls:=.type "list",data:=.seq vs}) rfl;have d:=H.oU (t:=t) (λb o e=>ad _ e) (aq (ao _)) a;have⟨f,g⟩:=d.vz (c:=.list l) ⟨vs,_,a,r.mono (j8.snoc V F _)⟩ (by intro e;cases e);refine⟨_,F,_,_,g,f,.ref ?_,k⟩;rw[<-H.len,aR (ao _),cM];rfl
def ED{k:Int}(h:oh n k=some j)(a:n<=100000):(0<=k/\k<n/\j=k.toNat)∨(k<0/\-(n:Int)<=k/\j=(k+n).toNat):=by
 unfold oh at h
 grind
def EE{a:iJ}{k:Int}{t:Tok}{x:ae}{Q:nz}(c:s.heap.IsList a items)(f:items.size<=100000)(g:oh items.size k=some j)(d:items[j]?=some x)(q:Q x s):
  kY S A (getItem (.ref a) (.int k t)) Q E s:=by
 rcases ED g f with⟨b,e,rfl⟩|⟨b,e,rfl⟩
 .exact wpAny_getItem_list c b (by omega) d q
 .exact wpAny_getItem_list_neg c b e (by omega) d q
def Hl{f:ae}{o i:AV}(t:∀o i,subscripted slice false o i=operate [o,i] (getItem o i))(H:j4 S V F J fs R s)(u:kQ V F vo o)(w:kQ V F f i)(h:MQ i0 o i J K X)
  (C:i0 o i J K X->kY S A (subscriptTail value slice vo f) (nP S V F fs R K) E s):
  kY S A (subscriptTail value slice vo f) (nP S V F fs R K) E s:=by
 unfold MQ at h;split at h
 .have⟨g,h⟩:=h;have⟨a,e,k⟩:=jo h;have⟨j,l,m⟩:=gS.mp e;cases w;cases u with
  |lst n p d1 c=>
   have⟨x,d,q⟩:=c.get m;rw[ax]at d;have b:=c.length;simp only[aQ]at b;have y:s.heap.IsList _ _:=⟨_,H.lw _ _ n,p,_,d1⟩
   exact ic (x:=x) y.typeIs slot_list_getitem.lookup (EE y (by rw[b];exact g) (by rw[b];exact l) d ⟨rfl,.here H q k⟩) (t _ _)
 .obtain⟨g,h⟩:=h;obtain⟨a,e,k⟩:=jo h;obtain⟨j,l,m⟩:=gS.mp e;cases w;cases u with
  |tup n p d1 c=>
   rename_i D _ G I vv L;obtain⟨x,d,q⟩:=c.get m;rw[ax]at d;have b:=c.length;simp only[aQ]at b;have z:IsTup s.heap G vv:=⟨_,H.lw _ _ n,p,_,d1⟩
   have B:=ED l g;have r:seqIndex? D vv.size=some j:=by
    rw[b];unfold seqIndex?
    grind
   exact ic (x:=x) z.typeIs e7.lookup (getItem_tuple z (by rcases B with h|h<;>omega) (by rcases B with h|h<;>omega) r d ⟨rfl,.here H q k⟩) (t _ _)
 .exact C h
end
def CQ (fE:rT)(c:nW)(e:az Expr)(Y:j9)(J:jW)(K:KV)(X:KX):Prop:=match e with
 |none=>K .none J
 |some e=>fE c e Y J K X
def yS:Expr->aY
 |.Slice ..=>true
 |_=>false
def Hm (i0:AV->AV->jW->KV->KX->Prop)(fE:rT)(c:nW)(value slice:Expr)(Y:j9)(J:jW)(K:KV)(X:KX):Prop:=
 match slice with
 |.Slice lo hi st _=>fE c value Y J (λo iT=>CQ fE c lo Y iT (λa jf=>CQ fE c hi Y jf (λb j1=>CQ fE c st Y j1 (λt lY=>oJ o a b t lY K) X) X) X) X
 |i=>yS i=false/\fE c value Y J (λo iT=>fE c i Y iT (λk jf=>MQ (λo i J K X=>c.calm=true/\i0 o i J K X) o k jf K X) X) X
section
variable {f:ma}{E:nz}
def MR (S:Sys)(d:Nat)(i0:AV->AV->jW->KV->KX->Prop):Prop:=∀o i J K X,i0 o i J K X->∀(V:jj) (F:jn) (fs:jS) (R:mO) (s:aj) (A:bO) (vo vi:ae) (value slice:Expr),kj d true fs A->yS slice=false->j4 S V F J fs R s->kQ V F vo o->kQ V F vi i->
 kY S A (subscriptTail value slice vo vi) (nP S V F fs R K) (oW S V F fs R X) s
def u4(a:l7 S d fE){e:az Expr}(h:CQ fE c e Y J K X):pD S d (evalPart e) c Y J K X:=by
 intro V F f fs R s A fa b g H;cases e with
 |none=>rw[evalPart_none];exact ac (.here H .none h)
 |some e=>rw[evalPart_some];exact a c e Y J K X h V F f fs R s A fa b g H
def BH{v:ae}{Q:az Int->aj->Prop}(p:IsPart v none)(h:Q none s):kY S A (Builtin.Slice.slicePartIndex v) Q E s:=by cases p;exact slicePart_none h
def Kn{v:ae}{i:Int}{Q:az Int->aj->Prop}(p:IsPart v (some i))(h:Q (some i) s):kY S A (Builtin.Slice.slicePartIndex v) Q E s:=by cases p;exact slicePart_int h
def MS{α b:Type}{f:α->az b}{g:α->b}:∀{l:List α},(∀k∈l,f k=some (g k))->l.filterMap f=l.map g
 |[],_=>rfl
 |a::l,h=>by rw[bQ,h a (.head _),bg,MS λk c=>h k (.tail _ c)]
def MT(xs:bM ae):((List.range xs.size).filterMap λ(k:Nat)=>xs[(((xs.size:Int)-1)+(k:Int)*(-1)).toNat]?).toArray=xs.toList.reverse.toArray:=by
 congr 1;have h:(List.range xs.size).filterMap (λ(k:Nat)=>xs[(((xs.size:Int)-1)+(k:Int)*(-1)).toNat]?)=(List.range xs.size).map λk=>xs.getD (xs.size-1-k) .none:=by
  apply MS;intro k a;have a:k<xs.size:=by simpa using a
  have e:(((xs.size:Int)-1)+(k:Int)*(-1)).toNat=xs.size-1-k:=by omega
  have b:xs.size-1-k<xs.size:=by omega
  rw[e];simp[b]
 rw[h];apply gT
 .simp
 .intro i c f;have g:i<xs.size:=by simpa using c
  have d:xs.size-1-i<xs.size:=by omega
  simp[d]
def vT{t a:iJ}{Q:nz}(b:IsTup s.heap t items)(n:s.heap.IsSliceOf a va vb vt)(o:IsPart va none)(p:IsPart vb none)(pt:IsPart vt (some (-1)))
  (h:Q (.ref s.heap.objs.size) {s with heap:=s.heap.push {cls:=.type "tuple",data:=.seq items.toList.reverse.toArray}})
  (w:items.size<=sizeLine):kY S A (getItem (.ref t) (.ref a)) Q E s:=by
 have c:sizeOk (.seq items.toList.reverse.toArray):=by
  show items.toList.reverse.toArray.size<=sizeLine
  grind
 have⟨os,d,r,f⟩:=id n;have g:s.TypeIs (.ref a) "slice":=⟨os,d,r⟩
 unfold getItem
 try with_reducible refine aF ?_
 first|refine G (ac ?_)|skip
 refine G (wpAny_sequenceKey b.typeIs (by decide) ?_);refine G (b8 (name:=Str.ofString "__getitem__") b.typeIs e7
  (bn e7 b.typeIs entry_tuple_getitem ?_ (args_tuple_getitem _ _)))
 show wpAny _ _ (Builtin.Tuple.tupleItemsOf (.ref t)>>=_) _ _ s;refine G (tupleItemsOf_ b ?_);refine G (cX g ?_);rw[aB (by decide)];have i:∀{j:Int×Int×Nat->aj->Prop}{k:ae->aj->Prop}{l:bO},j ((items.size:Int)-1,-1,items.size) s->kY S l (Builtin.Slice.sliceApplied (.ref a) (pure (items.size:Int))) j k s:=λ{j k l} q=>by
  unfold Builtin.Slice.sliceApplied Builtin.Slice.sliceFields;refine G (G (ci d f (x:=va) rfl (G (ci d f (x:=vb) rfl (G (ci d f (x:=vt) rfl (ac ?_)))))));refine G (Kn pt ?_);rw[aA (by decide)];refine G (BH o (G (BH p (G (ac ?_)))));have e:Builtin.Slice.sliceAdjust none none (-1) (items.size:Int)=((items.size:Int)-1,-1):=by unfold Builtin.Slice.sliceAdjust;simp
  show wpAny _ _ (match Builtin.Slice.sliceAdjust none none (-1) (items.size:Int)with|(lo,hi)=>pure (lo,(-1:Int),Builtin.Slice.slicePlaces lo hi (-1))) _ _ s;rw[e];have u:Builtin.Slice.slicePlaces ((items.size:Int)-1) (-1) (-1)=items.size:=by unfold Builtin.Slice.slicePlaces;simp;split<;>omega
  show wpAny _ _ (pure ((items.size:Int)-1,(-1:Int),Builtin.Slice.slicePlaces ((items.size:Int)-1) (-1) (-1))) _ _ s;rw[u];exact ac q
 refine G (i ?_);show wpAny _ _ (if((items.size:Int)-1==0&&(-1:Int)==1&&items.size==items.size)=true then _ else _) _ _ s;rw[aA (by simp),MT items]
 first
  |exact G (m:=Builtin.Tuple.tupleExact _) (br (ac ⟨_,rfl,ac h⟩) c)
  |exact G (m:=Builtin.Tuple.tupleExact _) (br (G (ac (ac ⟨_,rfl,ac h⟩))) c)
  |exact G (G (m:=Builtin.Tuple.tupleExact _) (br (ac (ac ⟨_,rfl,ac h⟩)) c))
  |exact G (G (m:=Builtin.Tuple.tupleExact _) (br (ac ⟨_,rfl,ac h⟩) c))
def EF{o b t:AV}(H:j4 S V F J fs R s)(g:kQ V F vo o)(C:kQ V F va a)(D:kQ V F vb b)(G:kQ V F vt t)(h:oJ o a b t J K):
  (∃T id,Shared.TypeIs {s with heap:=s.heap.push {cls:=.type "slice",data:=.fields #[va,vb,vt]}} vo T/\typeLookup (.type T) "__getitem__"=pure (some (.builtin id)))/\
  kY S A (getItem vo (.ref s.heap.objs.size)) (nP S V F fs R K) E {s with heap:=s.heap.push {cls:=.type "slice",data:=.fields #[va,vb,vt]}}:=by
 unfold oJ at h;have⟨lo,q,h⟩:=jo h;have⟨hi,I,h⟩:=jo h;have⟨st,L,M,h⟩:=jo h;have i:=H.keep (t:=s.toks) (h':=s.heap.push {cls:=.type "slice",data:=.fields #[va,vb,vt]}) λb o e=>ad _ e;have u:=CP C q;have w:=CP D I;have pt:=CP G L;have f:∀{x:iJ}{items:bM ae}{l:jy},vo=.ref x->s.heap.IsList x items->jV V F items.toList l->l.length<=100000->
   nP S V F fs R K (.ref (s.heap.objs.size+1)) {s with heap:=(s.heap.push {cls:=.type "slice",data:=.fields #[va,vb,vt]}).push {cls:=.type "list",data:=.seq (slicePick items lo hi st)}}->
   (∃T id,Shared.TypeIs {s with heap:=s.heap.push {cls:=.type "slice",data:=.fields #[va,vb,vt]}} vo T/\typeLookup (.type T) "__getitem__"=pure (some (.builtin id)))/\
   kY S A (getItem vo (.ref s.heap.objs.size)) (nP S V F fs R K) E {s with heap:=s.heap.push {cls:=.type "slice",data:=.fields #[va,vb,vt]}}:=λ{x items l} j y r d N=>by
  subst j;refine⟨⟨_,_,(y.push _).typeIs,list_getitem_lookup⟩,wpAny_getItem_list_slice (y.push _) (Heap.IsSliceOf.new ..) u w pt M ?_ ?_⟩
  .show nP S V F fs R K (.ref (s.heap.push _).objs.size) _;rw[bY];exact N
  .have:=r.length;simp only[aQ]at this;rw[this];exact bq d (by decide)
 have O:∀{items:bM ae}{l:jy},jV V F items.toList l->K (.lst (uC l lo hi st)) J->nP S V F fs R K (.ref (s.heap.objs.size+1)) {s with heap:=(s.heap.push {cls:=.type "slice",data:=.fields #[va,vb,vt]}).push {cls:=.type "list",data:=.seq (slicePick items lo hi st)}}:=λ{items l} r k=>by have:=i.Cu (r.pick lo hi st) s.toks k;rw[Array.toArray_toList]at this;have e:(s.heap.push {cls:=.type "slice",data:=.fields #[va,vb,vt]}).objs.size=s.heap.objs.size+1:=bY ..;show uM _ _ _ _ _ _ _ (.ref (s.heap.objs.size+1)) _;rw[<-e];exact this
 have MM:∀{items:bM ae}{l:jy},lo=none->hi=none->st=none->jV V F items.toList l->K (.ref J.length) (J++[.list l])->nP S V F fs R K (.ref (s.heap.objs.size+1)) {s with heap:=(s.heap.push {cls:=.type "slice",data:=.fields #[va,vb,vt]}).push {cls:=.type "list",data:=.seq (slicePick items lo hi st)}}:=λ{items l} P Q U r k=>by
  subst P Q U;rw[slicePick_all];have:=i.P1 r s.toks k;have e:(s.heap.push {cls:=.type "slice",data:=.fields #[va,vb,vt]}).objs.size=s.heap.objs.size+1:=bY ..
  grind
 cases o with
 |lst l=>
  have⟨d,h⟩:=h;cases g with
  |lst e c m r=>apply f rfl ⟨_,H.lw _ _ e,c,_,m⟩ r d;cases lo<;>cases hi<;>cases st<;>first|exact MM rfl rfl rfl r h|exact O r h
 |ref W=>
  dsimp only at h;cases p:J[W]? with
  |none=>rw[p]at h;exact h.elim
  |some X=>
   rw[p]at h;cases X<;>first|exact h.elim|skip
   rename_i l;cases lo<;>cases hi<;>cases st<;>first|exact h.elim|skip
   have⟨d,h⟩:=h;cases g with
   |ref e=>have⟨items,n,Y,r⟩:=H.cells _ _ _ e p;exact f rfl ⟨_,Y,rfl,n,rfl⟩ r d (MM rfl rfl rfl r h)
 |tup l=>
  obtain⟨d,rfl,rfl,rfl,k⟩:=h;cases g with
  |tup e c m r=>
   rename_i a o vs n;have z:IsTup (s.heap.push {cls:=.type "slice",data:=.fields #[va,vb,vt]}) a vs:=⟨_,ad _ (H.lw _ _ e),c,n,m⟩
   refine⟨⟨_,_,z.typeIs,e7.lookup⟩,vT z (Heap.IsSliceOf.new ..) u w pt ?_ ?_⟩
   .have q:(s.heap.push {cls:=.type "slice",data:=.fields #[va,vb,vt]}).objs.size=s.heap.objs.size+1:=bY ..;have⟨Z,B⟩:=i.yi (t:=s.toks) (a:=(s.heap.push {cls:=.type "slice",data:=.fields #[va,vb,vt]}).objs.size) (o:={cls:=.type "tuple",data:=.seq vs.toList.reverse.toArray}) (λb o e=>ad _ e) (aq (ao _)) (am _ rfl);exact⟨V,_,_,J,B,Z,.tup (jn.lf ..) rfl rfl (by simpa using(r.mono B).reverse),k⟩
   .have:=r.length;simp only[aQ]at this;rw[this];exact bq d (by decide)
 |_=>exact h.elim
def P3{o i:ae}{T id:String}{Q:nz}(d:s.TypeIs o T)
  (f:typeLookup (.type T) "__getitem__"=pure (some (.builtin id))) (h:kY S A (getItem o i) Q E s)
  (c:∃b,subscripted slice false o i=operate b (getItem o i)):
  kY S A (subscriptTail value slice o i) Q E s:=by
 have⟨b,c⟩:=c;unfold subscriptTail;apply G;rw[getitemInPython_of_ne d.not_modules];refine G (cA d f ?_);have a:kY S A (subscripted slice false o i) (λr e=>kY S A (letTemporaryGo value o r>>=λ_=>pure r) Q E e) E s:=by rw[c];exact wpAny_operating (ai h (λr e g=>G (wpAny_letTemporaryGo (ac g))) λ_ _ x=>x)
 first
  |exact ac (G a)
  |exact G (ac (G a))
  |exact G a
def vU(h:yS slice=false)(o i:ae):subscripted slice false o i=operate [o,i] (getItem o i):=by cases slice<;>first|rfl|cases h
def vV{lo hi st:az Expr}(o i:ae):∃a,subscripted (.Slice lo hi st p) false o i=operate a (getItem o i):=by
 cases st with
 |none=>exact⟨_,rfl⟩
 |some e=>exact⟨_,rfl⟩
def Ko(O:MR S d i0)(g:l7 S d fE)(h:Hm i0 fE c value slice Y J K X):pD S d (eval (.Subscript value slice pos)) c Y J K X:=by
 intro V F f fs R s A fa j k H;unfold Hm at h;split at h
 .rename_i lo hi st sp;refine Subscript_ (wp_mono (g c value Y J _ X h V F f fs R s A fa j k H) λy z vo o I B l C m D=>?_);refine pE l (wpAny_Slice (wp_mono (u4 g D y z f fs R B A fa j k C) λn q va a L e_ e r u G=>?_));refine pE e (wp_mono (u4 g G n q f fs R e_ A fa j k r) λP Q vb b j1 U w W Z yj=>?_);refine pE (e.trans w) (wp_mono (u4 g yj P Q f fs R U A fa j k W) λoE sj vt t lY rB x mt Kl sU=>?_);have⟨⟨T,id,h1,YM⟩,h2⟩:=EF (E:=oW S V F (f::fs) R X) (A:=A) mt (m.mono ((e.trans w).trans x)) (u.mono (w.trans x)) (Z.mono x) Kl sU;exact ai (P3 h1 YM h2 (vV _ _)) (λ_ _ p=>p.grow (((l.trans e).trans w).trans x)) λ_ _ p=>p
 .have⟨M,h⟩:=h;refine Subscript_ (wp_mono (g c value Y J _ X h V F f fs R s A fa j k H) λy z vo o I B l C m D=>?_);refine pE l (wp_mono (g c _ Y I _ X D y z f fs R B A fa j k C) λn q vi i L e_ e r u G=>?_);refine pE (l.trans e) (ai (Hl (S:=S) (E:=oW S n q (f::fs) R X) (vU M) r (m.mono e) u G λN=>O o i L K X N.2 n q (f::fs) R e_ A vo vi value _ (N.1▸fa) M r (m.mono e) u) (λ_ _ p=>p.grow (l.trans e)) λ_ _ p=>p)
end
def rF:ae->jy->jW->KV->Prop
 |.builtin id,[.lst l],J,K=>id="len"/\l.length<=100000/\K (.int l.length) J
 |.builtin id,[.ref k],J,K=>id="len"/\(match J[k]? with
   |some (.list l)=>l.length<=100000/\K (.int l.length) J
   |_=>False)
 |.type t,[.lst l],J,K=>t="tuple"/\l.length<=100000/\K (.tup l) J
 |.type t,[.tup l],J,K=>t="tuple"/\K (.tup l) J
 |.type t,[.int n],J,K=>t="range"/\0<=n/\K (.LD n.toNat) J
 |_,_,_,_=>False
section
variable {f:ma}{E:nz}
def md{id:String}:oq M (.builtin id) s:=λA Q E h=>ac (h _)
def nu{t:String}:oq M (.type t) s:=λA Q E h=>ac (h _)
def MU{v:ae}(H:j4 S V F J fs R s)(r:kQ V F v (.lst l)):∃a vs,v=.ref a/\s.heap.IsList a vs/\jV V F vs.toList l/\vs.size=l.length:=by
 cases r with
 |lst e c b r=>rename_i a o vs n;exact⟨a,vs,rfl,⟨o,H.lw _ _ e,c,n,b⟩,r,by have:=r.length;simpa using this⟩
def CR{v:ae}(H:j4 S V F J fs R s)(r:kQ V F v (.tup l)):∃a vs,v=.ref a/\s.heap.IsTuple a vs/\jV V F vs.toList l/\vs.size=l.length:=by
 cases r with
 |tup e c b r=>rename_i a o vs n;exact⟨a,vs,rfl,⟨o,H.lw _ _ e,c,n,b⟩,r,by have:=r.length;simpa using this⟩
def P4{v:ae}(H:j4 S V F J fs R s)(r:kQ V F v (.ref k))(e:J[k]?=some (.list l)):∃a vs,v=.ref a/\s.heap.IsList a vs/\jV V F vs.toList l/\vs.size=l.length:=by
 cases r with
 |ref b=>have⟨vs,n,c,r⟩:=H.cells _ _ _ b e;exact⟨_,vs,rfl,⟨_,c,rfl,n,rfl⟩,r,by have:=r.length;simpa using this⟩
def pA{g:ae}(h:rF g l J K)(H:j4 S V F J fs R s)(c:jV V F vs l):
  oq (p_ S) g s/\kY S A (call g vs) (nP S V F fs R K) E s:=by
 unfold rF at h;split at h
 .obtain⟨rfl,i,k⟩:=h;cases c with
  |cons r c=>cases c;obtain⟨a,vs,rfl,f,r,d⟩:=MU H r;refine⟨md,call_len_list f (by rw[d];omega) ?_⟩;rw[d];exact .here (H.tok _) (.int _ _) k
 .obtain⟨rfl,h⟩:=h;split at h
  .rename_i l j;cases c with
   |cons r c=>cases c;obtain⟨a,vs,rfl,f,r,d⟩:=P4 H r j;refine⟨md,call_len_list f (by rw[d];omega) ?_⟩;rw[d];exact .here (H.tok _) (.int _ _) h.2
  .exact h.elim
 .obtain⟨rfl,i,k⟩:=h;cases c with
  |cons r c=>cases c;obtain⟨a,vs,rfl,f,r,d⟩:=MU H r;refine⟨nu,call_tuple_list f (λh' j=>?_) (by rw[d];exact bq i (by decide))⟩;have m:=H.keep (t:=s.toks) j;have:=m.Cv (K:=K) r s.toks k;rw[Array.toArray_toList]at this;exact this
 .obtain⟨rfl,k⟩:=h;cases c with
  |cons r c=>cases c;obtain⟨a,vs,rfl,f,w,d⟩:=CR H r;exact⟨nu,call_tuple_same f (.here H r k)⟩
 .obtain⟨rfl,i,k⟩:=h;cases c with
  |cons r c=>cases c;cases r;rename_i n t;refine⟨nu,call_range_1 ?_⟩;have p:=am s.heap (o:={cls:=.type "range",data:=.fields #[.int 0 s.toks,.int n t,.int 1 (s.toks+1)]}) rfl;have⟨q,g⟩:=H.yi (t:=s.toks+1+1) (λb o e=>ad _ e) (aq (ao _)) p;refine⟨V,_,_,J,g,q,.LD (t:=s.toks) (u:=t) (v:=s.toks+1) ?_,k⟩;rw[Int.toNat_of_nonneg i];exact jn.lf _ _ _
 .exact h.elim
end
def kJ (B:wG)(K:Frag):Prop:=∀a o,K.lookup a=some o->B.H.get? a=some o/\o.cls≠.none
def mz (K:Frag)(C:iJ)(name:Str):aY:=(match clsIn K C with
  |some cd=>cd.hasDict
  |none=>false)&&(match findIn K (.ref C) name with
  |some none=>true
  |_=>false)&&findIn K (.ref C) "__getattribute__"==some (some (.builtin "object.__getattribute__"))&&!copiedNames.contains name
section
variable {f:ma}{E:nz}
def kJ.here(k:kJ S.B Kf)(H:j4 S V F J fs R s):Kf.In s.heap:=λa o e=>let ⟨b,c⟩:=k a o e;H.lw _ _ (H.base _ _ b c)
def w0{es:bM cU}{a:Nat}(b:o.data=.dict es a)(c:StrKeys es):lookIn name o=some (nsFind es name):=by
 unfold lookIn;rw[b];dsimp only;unfold nsFind findBy;rw[<-Array.find?_toList];cases h:es.toList.find? (·.key.isStr name)with
 |some e=>rfl
 |none=>
  have:es.toList.any (·.refKey)=false:=by rw[dh];intro e d;have⟨n,t,f⟩:=c e (by simpa using d);simp[DictEntry.refKey,f]
  rw[this];rfl
def zN{v:ae}(r:kQ V F v a)(h:∀w,a≠.val w):handedIn v=true:=by cases r<;>first|rfl|exact absurd rfl (h _)
def vW{v:ae}(H:j4 S V F J fs R s)(r:kQ V F v (.ref k))(f:J[k]?=some (.inst C dl))(g:J[dl]?=some (.dict m)):
  ∃x a od es h,v=.ref x/\V[k]?=some x/\V[dl]?=some a/\InstAt s.heap x {cls:=.ref C,dict:=some a,data:=.plain} C (some od)/\s.heap.get? a=some od/\od.cls=.type "dict"/\od.data=.dict es h/\StrKeys es/\∀y,n9 V F (nsFind es y) (m.lookup y):=by
 cases r with
 |ref b=>have⟨a,c,i⟩:=H.cells _ _ _ b f;have⟨es,n,d,e⟩:=H.cells _ _ _ c g;exact⟨_,a,_,es.toArray,n,rfl,b,c,⟨i,rfl,rfl,d⟩,d,rfl,rfl,e.strKeys,e.find⟩
def BI{v:ae}(h:kJ S.B Kf)(H:j4 S V F J fs R s)(r:kQ V F v (.ref k))(i:J[k]?=some (.inst C dl))(j:J[dl]?=some (.dict m))(f:mz Kf C name=true)
  (l:m.lookup name=some a) (n:∀w,a≠.val w) (q:K a J):kY S A (getAttr v name expr) (nP S V F fs R K) E s:=by
 obtain⟨x,D,od,es,G,rfl,L,M,I,N,O,o,p,t⟩:=vW H r i j;have b:=t name;rw[l]at b;cases d:nsFind es name with
 |none=>rw[d]at b;exact b.elim
 |some w=>
  rw[d]at b;have g:=b;simp only[mz,aJ,aG,bJ]at f;have⟨⟨⟨c,P⟩,u⟩,Q⟩:=f;cases e:clsIn Kf C with
  |none=>rw[e]at c;cases c
  |some y=>
   rw[e]at c;have z:findIn Kf (.ref C) name=some none:=by grind
   refine get_value (h.here H) I u (v:=w) ?_ (zN g n) (.here (H.tok _) g q);unfold findObj;rw[e,dX,z,dX];simp only[dX];have:PySem.W.ownOf y (some od) name=some (some w):=by unfold PySem.W.ownOf;rw[aB c];show lookIn name od=_;rw[w0 o p,d]
   rw[this];rfl
end
def mf (K:Frag)(C:iJ)(name:Str):az iJ:=
 if findIn K (.ref C) "__getattribute__"==some (some (.builtin "object.__getattribute__"))&&findIn K (.ref C) "__getattr__"==some none then
  (match findIn K (.ref C) name with
   |some (some (.ref f))=>if typeIn K (.ref f)==some (.type "function")then some f else none
   |_=>none)
 else none
def rG:Expr->aY
 |.Name ..|.Attribute ..|.Subscript ..=>true
 |_=>false
section
variable {f:ma}{E:nz}
def ka (S:Sys)(d:Nat)(fn:iJ->jy->jW->KV->KX->Prop):Prop:=∀f l J K X,fn f l J K X->∀(V:jj) (F:jn) (fs:jS) (R:mO) (s:aj) (A:bO) (vs:jr),kj d true fs A->j4 S V F J fs R s->jV V F vs l->
 codeAny (p_ S) A (.call (.ref f) ⟨vs,[]⟩) (vR S V F fs R K X) s
def CS(b:kJ S.B Kf)(H:j4 S V F J fs R s)(a:fnIn Kf fa=true):oq M (.ref fa) s:=λA Q E h=>by
 unfold fnIn at a;split at a
 .rename_i c od d f e;unfold keeperOf;refine G (dB (b.here H _ _ e) (ac (h _)))
 .cases a
end
def u5 (K:Frag)(C:iJ)(name:Str):az iJ:=
 if findIn K (.ref C) "__getattribute__"==some (some (.builtin "object.__getattribute__"))&&findIn K (.ref C) "__getattr__"==some none&&(clsIn K C).isSome then
  (match findIn K (.ref C) name with
   |some (some (.ref p))=>if specialIn K (.ref p) "__get__"==some (some (.builtin "property.__get__"))&&takesIn K (.ref p)==some true then
     (match recIn K p "property" with
      |some (.ref f::_)=>some f
      |_=>none)
    else none
   |_=>none)
 else none
def yg:AV->aY
 |.val _=>true
 |_=>false
section
variable {f:ma}{E:nz}
def CT(h:yg a=false):∀w,a≠.val w:=λw e=>by subst e;cases h
def kj.in1{a:aY}(h:kj (d+1) a fs A):kj d a fs A.in1:=⟨by have:=h.depth;show A.depth+20*d<=900;omega,by have:=h.units;show A.units+1+60*d<=9000;omega,h.frames,h.guards,h.calm⟩
def Hn{i:iJ->jy->jW->KV->KX->Prop}(j:kJ S.B Kf)(q:ka S d i){v:ae}(c:kj (d+1) true fs A)(H:j4 S V F J fs R s)(r:kQ V F v (.ref k))
  (t:J[k]?=some (.inst C dl)) (u:J[dl]?=some (.dict m)) (b:u5 Kf C name=some fa) (h:i fa [.ref k] J (λa y=>yg a=false/\K a y) wW):
  kY S A (getAttr v name expr) (nP S V F fs R K) E s:=by
 obtain⟨x,W,od,es,X,rfl,Y,Z,I,h4,h5,h6,h7,h8⟩:=vW H r t u;unfold u5 at b;split at b
 .rename_i l;simp only[aJ,aG]at l;obtain⟨⟨z,D⟩,G⟩:=l;obtain⟨cd,BG⟩:=bH.mp G;split at b
  .rename_i p MV;split at b
   .rename_i L;simp only[aJ,aG]at L;split at b
    .rename_i f' iN M;cases b;have N:findObj Kf C (some od) name=some (.bind (.builtin "property.__get__") (.ref p)):=by
      unfold findObj
      grind
     refine get_bind (j.here H) I z N D ?_;have n:=H.tok (s.toks+1);have O:=I;refine dQ (prop_get (j.here n) M ?_);refine b7 (q fa [.ref k] J _ wW h V F fs R _ A.in1 [.ref x] c.in1 n (.cons r .nil)) λr P p=>?_;rcases r with e|(_|_|_|w)
     .obtain⟨_,_,_,_,_,_,f⟩:=p;exact f.elim
     .exact p.elim
     .exact p.elim
     .exact p.elim
     .obtain⟨jF,F',av,Q,g,T,o,U,f⟩:=p;show wpAny _ A (handedOut w) _ _ P;rw[iD (zN o (CT U))];exact ac ⟨jF,F',av,Q,g,T,o,f⟩
    .cases b
   .cases b
  .cases b
 .cases b
end
structure IU (S:Sys) (f:iJ) (I:Fn):Prop where
 obj:∃o,S.B.H.get? f=some o/\o.data=.func I.fd/\o.cls≠.none
 code:∃c' o vs t,I.fd.code=.ref c'/\S.B.H.get? c'=some o/\o.cls≠.none/\o.data=.fields vs/\vs[1]?=some (.str I.fd.qualname t)
 body:I.fd.body=.stmts I.body
 globals:I.fd.globals=mainGlobals
 builtins:I.fd.builtins=builtinsNs
 closure:∃a o,I.fd.closure=[(("__class__":Str),a)]/\S.B.H.get? a=some o
 kind:I.fd.scope.kind=.function
 gen:I.fd.scope.isGenerator=false
 co:I.fd.scope.isCoroutine=false
 free:∀p∈I.fd.scope.names,p.2=.free->p.1=("__class__":Str)
 cell:∀p∈I.fd.scope.names,p.2≠.cell
 params:∀x∈I.names,I.fd.scope.names.lookup x=some .local
 bind:∀(V:jj) (F:jn) (J:jW) (fs:jS) (R:mO) (s:aj) (vs:jr) (l:jy) (Y:j9),j4 S V F J fs R s->jV V F vs l->rC I l=some Y->
  ∃binds,BindsTo s I.fd ⟨vs,[]⟩ binds/\rD V F binds Y
def CU{f:iJ}{I:Fn}(ok:IU S f I)(PO:u0 S P d)(h:yI P I l J K X)(fa:kj (d+1) true fs A)(H:j4 S V F J fs R s)(rs:jV V F vs l):
  codeAny (p_ S) A (.call (.ref f) ⟨vs,[]⟩) (vR S V F fs R K X) s:=by
 have⟨Y,j,h⟩:=jo h;have⟨o,G,hd,o8⟩:=ok.obj;have⟨c',oc,WX,ct,GE,LN,WY,WZ,W0⟩:=ok.code;have⟨c,hb,Q⟩:=ok.bind V F J fs R s vs l Y H rs j;have⟨L,co',JS,ZM⟩:=ok.closure;have pV:=H.lw _ _ (H.base _ _ G o8);have BG:s.heap.CodeRec I.fd.code I.fd.qualname:=⟨c',oc,WX,ct,GE,H.lw _ _ (H.base _ _ LN WY),WZ,W0⟩
 have ZN:∀x∈c,I.fd.scope.names.lookup x.1=some .local:=λx hx=>by have⟨q,m,e⟩:=BF Q x hx;rw[<-e];exact ok.params q.1 (vQ j q m)
 have sV:qa I.fd.scope=[]:=by unfold qa;rw[List.map_eq_nil_iff,ie];intro p hp;simpa using ok.cell p hp
 refine codeAny_call_function fa.room pV hd ok.co ok.gen ok.body BG (hb _ _ _ _ ?_);rw[JS];refine wpAny_newFunctionEnv ok.cell ZN (λT U Rt=>?_) ok.kind;have n:∀b o,s.heap.get? b=some o->T.get? b=some o:=λb o e=>Rt.extBut b o (dM (ck e)) (ad _ e);refine⟨H.lim.keeps n,codeAny_func ?_⟩;generalize g:newEnv I.fd.scope s.heap.objs.size I.fd.globals [("__class__",L)] (I.fd.qualname++".<locals>.") (some f) I.fd.code none I.fd.builtins=env;have kk:∀y,env.kindOf y=I.fd.scope.names.lookup y:=λy=>by rw[<-g];rfl
 have w:env.locals=s.heap.objs.size:=by rw[<-g];rfl
 have U6:env.cells=[(("__class__":Str),L)]:=by rw[<-g];rfl
 have W:env.frame=some env.locals:=by rw[<-g];rfl
 have W7:∀y,m5 y (env.kindOf y)=true->False:=λy i=>by
  rw[kk]at i;unfold m5 at i;have⟨M,r⟩:=(aJ _ _).mp i;cases m:I.fd.scope.names.lookup y with
  |none=>rw[m]at r;cases r
  |some k=>
   rw[m]at r;cases k<;>first|cases r|skip
   .exact ok.cell (y,.cell) (mem_of_lookup m) rfl
   .have:y=("__class__":Str):=ok.free (y,.free) (mem_of_lookup m) rfl;rw[this]at M;simp at M
 have adj:L≠env.locals:=by have⟨o2,ua⟩:=H.old.there _ _ ZM;rw[w];exact dM (ck ua)
 have HP:j4 S V F J (⟨env,Y.reverse,[env.locals]⟩::fs) R {s with heap:=T,toks:=s.toks+c.length}:=by
  refine H.push (t:=s.toks+c.length) n (λa j=>?_) (λa j=>?_) (aL.mpr ⟨λh=>(by cases h),List.nodup_nil⟩) ⟨⟨_,by rw[w];exact U,λy i=>?_⟩,λy i=>(W7 y i).elim,.head _,λy a i=>?_,?_,⟨env.locals,.head _,W⟩,λy z a M r=>?_⟩
  .rw[aN.mp j,w];exact aq (ao _)
  .rw[aN.mp j,w];have⟨o,_,_,G,_⟩:=U;exact⟨o,G⟩
  .exact pX (qY Q) y
  .grind
  .show env.scope.kind=_;rw[<-g];exact ok.kind
  .grind
 have N:ma.isFn ⟨env,Y.reverse,[env.locals]⟩=true:=by unfold ma.isFn;rw[W];exact bW _
 have Z:=fa.deeper (f:=⟨env,Y.reverse,[env.locals]⟩) N;have ff:nC (oV I) ⟨env,Y.reverse,[env.locals]⟩:=by refine⟨by rw[<-g];rfl,by rw[<-g];exact ok.globals,by rw[<-g];exact ok.builtins,by rw[<-g];rfl,λy i=>?_,λ_=>N⟩;have Cp:y∈qa I.fd.scope:=i;rw[sV]at Cp;cases Cp
 refine ai ((zJ PO 200).b (oV I) I.body Y.reverse J _ _ h V F env _ fs R _ _ Z ff HP) (λfl e_ p=>?_) λe e_ p=>?_
 .have⟨B,C,D,O,a,E,jN,my,u⟩:=p;cases fl<;>cases a<;>first|exact my.elim|exact u.elim|skip
  .exact⟨B,C,_,D,E,jN.pop,.none,u⟩
  .exact⟨B,C,_,D,E,jN.pop,my,u⟩
 .have⟨B,C,D,O,k,E,vS,u⟩:=p;have hA:=(Z.vars O).frames;refine zc (f:=⟨env,O,[env.locals]⟩) hA N vS λmr EC=>?_;exact⟨B,C,⟨k.name,true⟩,D,E,EC,u⟩
end
section
open PySem PySem.W PySem.MeetsSeq
open AutoSeq1 (wpAny_loadPart')
variable {x:Str}{u:Tok}
section
variable {a_:c5}{w:cy}{A:bO}{E:nz}{s:aj}{l:iJ}{items:bM ae}{n:Nat}
def zO (x:Str):ae->aY
 |.str y _=>y==x
 |_=>false
def CV (items:bM ae):Prop:=∀v∈items,∃y t,v=.str y t
def MW(h:CV items):∀y,y∈items->EqGives y (.str x u) (zO x y):=λy a=>by
 obtain⟨z,t,rfl⟩:=h y a;intro a_ w A E s Q b;apply wpAny_eqBool_str;have e:decide (z=x)=zO x (.str z t):=by
  show decide (z=x)=(z==x)
  grind
 rw[e];exact b
def MX{M:fL}{d:Type}{c:String}{v:ae}{Q:d->aj->Prop}(f:PlainExc c)(g:A.handled=none)(h:∀h' e,Heap.NewExc s.heap h' e c->E (.ref e) {s with heap:=h'}):
  wpAny M A (newExc (.type c) [v]>>=λx=>(raiseNew x:Sem d)) Q E s:=by
 refine G ?_;unfold newExc newTuple;refine G (br ?_);refine G (m:=firstArgMember _ _) (bC (a:=Value.none) (by simp only[firstArgMember,f.first];rfl) ?_);rw[f.own];refine br ?_;unfold raiseNew;refine G (gI ?_);rw[g]
 first
  |refine gB ?_
  |refine G (ac (gB ?_))
 exact h _ _ ⟨λb o i=>ad _ (ad _ i),aq (by simp),_,.ref s.heap.objs.size,am _ rfl,rfl,by simp⟩
def yo{MY:Int}(o:CV items)(p:∀m (D:m<items.size),zO x items[m]=false)(f:(reprText x).length<=1000/\(reprText x++Str.ofString " is not in list").length<=1000)(k:Nat):
  ∀i:Nat,items.size-i=k->Meets (Builtin.«list.index.loop» ⟨[.ref l,.str x u,rawInt i,rawInt MY],[]⟩)
   (λA R s=>s.heap.get? l=some {cls:=.type "list",dict:=none,data:=.seq items n,slots:=#[]}/\(items.size:Int)<=MY/\raisesNew "ValueError" A R s):=by
 induction k with
 |zero=>
  intro i q a_ w A R s h;obtain⟨r,g,d,tk,os⟩:=s;obtain⟨b,a,h⟩:=h;wp_walk using wpAny_loadPart' b;have hi:(if(i:Int)<MY then items[((i:Nat):Int).toNat]? else none)=none:=by
   split
   .simp;omega
   .rfl
  rw[hi];refine G (b9 (G (wpAny_pyRepr_str ?_ (bq f.1 (by decide)))));unfold Builtin.List.listRaiseStr;have j:(reprText x++Str.ofString " is not in list").length<=sizeLine:=bq f.2 (by decide);generalize reprText x++Str.ofString " is not in list"=y at j⊢;refine G (wpAny_mkStr ?_ j);exact MX plainExc_ValueError h.1 λh' e t=>h.2 _ _ _ t
 |succ k z=>
  intro i q a_ w A R s h;obtain⟨r,g,d,tk,os⟩:=s;obtain⟨b,a,h⟩:=h;have c:i<items.size:=by omega
  have B:(i:Int)<MY:=by omega
  wp_walk using wpAny_loadPart' b;have hi:(if(i:Int)<MY then items[((i:Nat):Int).toNat]? else none)=some items[i]:=by simp[B,c]
  have C:((i:Int)+1)=((i+1:Nat):Int):=by push_cast;rfl
  rw[hi];refine G (MW o _ (Array.getElem_mem c) a_ w _ _ _ _ ?_);rw[p i c];wp_walk;rw[C];exact⟨bS plain_index_loop _,bj entry_index_loop (by rw[aV plain_index_loop _];exact z (i+1) (by omega) a_ w A R _ ⟨b,a,h⟩)⟩
def yq(b:CV items)(c:∀m (k:m<items.size),zO x items[m]=false)(e:(reprText x).length<=1000/\(reprText x++Str.ofString " is not in list").length<=1000)(o:items.size<=1000):
  Meets (Builtin.«list.index» ⟨[.ref l,.str x u],[]⟩)
   (λA R s=>s.heap.get? l=some {cls:=.type "list",dict:=none,data:=.seq items n,slots:=#[]}/\raisesNew "ValueError" A R s):=by
 intro a_ w A R s h;obtain⟨p,g,d,tk,os⟩:=s;obtain⟨a,h⟩:=h;wp_walk using wpAny_loadPart' a;have f:((λi:Int=>if i<0 then max 0 (i+(items.size:Int))else i) ((none:az Int).getD 0))=((0:Nat):Int):=by simp
 have j:((λi:Int=>if i<0 then max 0 (i+(items.size:Int))else i) ((none:az Int).getD (2 ^ 63-1)))=2 ^ 63-1:=by simp
 rw[f,j];exact⟨bS plain_index_loop _,bj entry_index_loop (by rw[aV plain_index_loop _];exact yo b c e _ 0 rfl a_ w A R _ ⟨a,by omega,h⟩)⟩
end
end
section
open PySem PySem.W PySem.Calls PyProof.Rows PySem.SeqAt
variable {E:nz}{l:jy}{vs:bM ae}{name:Str}{V jF:jj}{fs:jS}{args:j5}{a:iJ}{F F':jn}{s:aj}{A:bO}{k d:Nat}{P:tD}{f:ma}{Y:j9}{Kf:Frag}{b:BM}{o:Expr}{S:Sys}{J:jW}{R:mO}{c:nW}{fE:rT}{apos pos:Pos}{K:KV}{X:KX}
def CW (z:Str):Prop:=(reprText z).length<=1000/\(reprText z++Str.ofString " is not in list").length<=1000
def rH (l:jy)(i:Int)(x:AV):jy:=
 let p:=if i<0 then(i+(l.length:Int)).toNat else min i.toNat l.length
 l.take p++x::l.drop p
@[irreducible] def wN (b:BM) (k:Nat) (l:jy) (J:jW) (K:KV) (X:KX):Prop:=match b,J[k]?,l with
 |.setAdd,some (.set els),[x]=>ky (qW x) λe=>(∀f∈els,f.jJ=e.jJ)/\e≠.many []/\els.length<31/\K .none (J.set k (.set (lj els e)))
 |.setDiscard,some (.set els),[x]=>ky (qW x) λe=>(∀f∈els,f.jJ=e.jJ)/\K .none (J.set k (.set (els.erase e)))
 |.t_,some (.set els),[x]=>ky (qW x) λe=>(∀f∈els,f.jJ=e.jJ)/\e∈els/\K .none (J.set k (.set (els.erase e)))
 |.yB,some (.set els),[]=>(∃b,∀f∈els,f.jJ=b)/\(∀f∈els,f≠.many [])/\els.length<=31/\K (.ref J.length) (J++[.set els])
 |.yC,some (.list qm),[x]=>qm.length<=100000/\K .none (J.set k (.list (qm++[x])))
 |.Co,some (.list qm),[.str z]=>qm.length<=1000/\CW z/\ky (nF qm) λss=>(match ss.findIdx? (·==z)with
   |some j=>K (.int j) J
   |none=>X ⟨"ValueError",false⟩ J)
 |.yD,some (.list qm),[.str z]=>qm.length<=1000/\ky (nF qm) λss=>ky (ss.findIdx? (·==z)) λj=>K .none (J.set k (.list (qm.eraseIdx j)))
 |.Px,some (.list qm),[.int i]=>0<=i/\qm.length<=1000/\ky qm[i.toNat]? λa=>K a (J.set k (.list (qm.eraseIdx i.toNat)))
 |.yE,some (.list qm),[.int i,x]=>qm.length<=1000/\-1000<=i/\i<=1000/\K .none (J.set k (.list (rH qm i x)))
 |_,_,_=>False
def jV.eraseIdx:∀{vs:jr}{l:jy}(n:Nat),jV V F vs l->jV V F (vs.eraseIdx n) (l.eraseIdx n)
 |_,_,_,.nil=>.nil
 |_,_,0,.cons _ t=>t
 |_,_,n+1,.cons h t=>.cons h (t.eraseIdx n)
def BJ{ss:jK}(r:jV V F vs.toList l)(e:nF l=some ss):CV vs/\∀j (a:j<vs.size) z,zO z vs[j]=(ss[j]?.map (·==z)).getD false:=by
 obtain rfl:=oB e;have b:∀j,j<vs.size->∃y t,vs[j]?=some (.str y t)/\ss[j]?=some y:=λj a=>by
  have f:=r.length;simp only[aQ,ah]at f;have⟨v,d,g⟩:=r.get (i:=j) (av:=.str (ss[j]'(by omega))) (by simp[bP]);rw[ax]at d;cases g with
  |str y t=>exact⟨_,t,d,by simp⟩
 refine⟨λv d=>?_,λj a z=>?_⟩
 .obtain⟨j,a,rfl⟩:=Array.mem_iff_getElem.mp d;have⟨y,t,c,_⟩:=b j a;rw[cO a]at c;exact⟨y,t,eY c⟩
 .have⟨y,t,c,h⟩:=b j a;rw[cO a]at c;have:=eY c;rw[this,h];rfl
def Holds.MZ{x:iJ}{k:String}{tk:Nat}{h':cj}(H:j4 S V F J fs R s)(n:Heap.NewExc s.heap h' x k)(q:X ⟨k,false⟩ J):oW S V F fs R X (.ref x) {s with heap:=h',toks:=tk}:=⟨V,F,⟨k,false⟩,J,.refl _ _,⟨s.heap,x,rfl,H.tok tk,.inl ⟨rfl,n⟩⟩,q⟩
def Holds.P5{l':jy}{n:Nat}{g:bM ae->bM ae}(H:j4 S V F J fs R s)(d:V[k]?=some a)(f:J[k]?=some (.list l))(i:s.heap.get? a=some {cls:=.type "list",data:=.seq vs n})(r:jV V F (g vs).toList l'):
  j4 S V F (J.set k (.list l')) fs R {s with heap:=s.heap.update a (Obj.mapSeq g)}:=by
 have c:=IsL.update (l:=a) (items:=vs) (n:=n) i g;exact H.setC (t:=s.toks) d f (by intro h;cases h) (by intro h;cases h) (λb o j e=>(bK s.heap a _).extBut b o j e) ⟨_,_,c,r⟩ ⟨_,c⟩
def EG(ok:ml S){vs:jr}(fa:kj d true fs A)(H:j4 S V F J fs R s)(B:V[k]?=some a)(c:jV V F vs l)(h:wN b k l J K X):
  kY S A (call (.builtin b.id) (.ref a::vs)) (nP S V F fs R K) (oW S V F fs R X) s:=by
 have T:A.units+8<cLine:=by have:=fa.units;show A.units+8<9900;omega
 unfold wN at h;split at h
 .rename_i els x f;have⟨e,N,E,U,W,q⟩:=jo h;obtain rfl:=o_ N;cases c with
  |cons r c=>cases c;exact xH (H.setAt ok B f) (nM H.lw r) E U ⟨e,r⟩ W T λh' tk G I=>.here (H.xJ ok B f G I) .none q
 .rename_i els x f;have⟨e,N,E,q⟩:=jo h;obtain rfl:=o_ N;cases c with
  |cons r c=>cases c;exact ym (H.setAt ok B f) (nM H.lw r) E T λh' tk G I=>.here (H.xJ ok B f G I) .none q
 .rename_i els x f;have⟨e,N,E,Y,q⟩:=jo h;obtain rfl:=o_ N;cases c with
  |cons r c=>cases c;exact zx (H.setAt ok B f) (nM H.lw r) E Y T λh' tk G I=>.here (H.xJ ok B f G I) .none q
 .rename_i els f;have⟨⟨b,E⟩,U,W,q⟩:=h;cases c;exact CG (H.setAt ok B f) E U W T λh' d ob G I k3=>H.newSet (t:=s.toks) ok (aq (ao _)) G I k3 q
 .rename_i C x f;have⟨O,q⟩:=h;have⟨vs,n,g,w⟩:=H.cells k a _ B f;cases c with
  |cons r c=>
   cases c;have uA:vs.size<=sizeLine:=by have:=w.length;simp only[aQ]at this;rw[this];exact bq O (by decide)
   refine gR ⟨n,g⟩ (λh' Ru uz=>?_) uA;have⟨n',pV⟩:=Ru;refine .here (H.setC (c':=.list (C++[x])) (t:=s.toks) B f (by intro h;cases h) (by intro h;cases h) (λb o hb e=>uz.extBut b o hb e) ⟨_,n',pV,?_⟩ ⟨_,pV⟩) .none q;rw[dk];exact jV.append (.one r) w
 .rename_i C z f;have⟨O,hz,h⟩:=h;have⟨ss,L,h⟩:=jo h;have⟨vs,n,g,w⟩:=H.cells k a _ B f;have⟨as,D⟩:=BJ w L;have P:vs.size=ss.length:=by have:=w.length;rw[oB L]at this;simpa using this
  have Q:C.length=ss.length:=by rw[oB L];simp
  cases c with
  |cons r c=>
   cases c;cases r with
   |str _ u=>
    cases M:ss.findIdx? (·==z)with
    |some j=>
     rw[M]at h;have⟨Z,ZO,hj2⟩:=dG.mp M;refine ig e9 ⟨_,g,rfl⟩ gJ (gp _ _) (MeetsSeq.list_index a vs n (.str z u) (zO z) (MW as) j (by omega) (by omega) ?_ ?_) ⟨g,.here (H.tok _) (.int _ _) h⟩
     .rw[D j (by omega)];simp[Z];simpa using ZO
     .grind
    |none=>rw[M]at h;have LQ:=gq.mp M;refine ig e9 ⟨_,g,rfl⟩ gJ (gp _ _) (yq as (λm Y=>?_) hz (by omega)) ⟨g,fa.calm rfl,λh' tk e n=>H.MZ n h⟩;rw[D m Y];have:=LQ (ss[m]'(by omega)) (List.getElem_mem _);simp[show m<ss.length by omega];simpa using this
 .rename_i C z f;have⟨O,h⟩:=h;have⟨ss,L,h⟩:=jo h;have⟨j,M,q⟩:=jo h;have⟨vs,n,g,w⟩:=H.cells k a _ B f;have⟨as,D⟩:=BJ w L;have P:vs.size=ss.length:=by have:=w.length;rw[oB L]at this;simpa using this
  have Q:C.length=ss.length:=by rw[oB L];simp
  cases c with
  |cons r c=>
   cases c;cases r with
   |str _ u=>
    have⟨Z,ZO,hj2⟩:=dG.mp M;refine ig gK ⟨_,g,rfl⟩ PySem.F.entry_list_remove (PySem.F.args_list_remove_2 _ _) (MeetsSeq.list_remove a vs n (.str z u) (zO z) (MW as) j (by omega) ?_ ?_ (bq (by omega:vs.size<=1000) (by decide))) ⟨g,.here (H.P5 B f g ?_) .none q⟩
    .rw[D j (by omega)];simp[Z];simpa using ZO
    .grind
    .have:(vs.eraseIdxIfInBounds j).toList=vs.toList.eraseIdx j:=by rw[fZ,iC (by omega),Array.toList_eraseIdx]
     rw[this];exact w.eraseIdx j
 .rename_i C i f;have⟨hi,O,h⟩:=h;have⟨x,hx,q⟩:=jo h;have⟨vs,n,g,w⟩:=H.cells k a _ B f;have P:vs.size=C.length:=by have:=w.length;simpa using this
  have wK:=(aC.mp hx).1;have⟨y,hy,ry⟩:=w.get hx;rw[ax]at hy;cases c with
  |cons r c=>
   cases c;cases r with
   |int _ u=>
    refine ig PySem.F.slot_list_pop ⟨_,g,rfl⟩ PySem.F.entry_list_pop (PySem.F.args_list_pop_2 _ _) (MeetsSeq.list_pop_at a vs n i u i.toNat y ?_ ?_ hy (bq (by omega:vs.size<=1000) (by decide))) ⟨g,.here (H.P5 B f g ?_) ry q⟩
    .unfold Builtin.List.listFitsIndex;simp;omega
    .unfold seqIndex?;simp;omega
    .have:(vs.eraseIdxIfInBounds i.toNat).toList=vs.toList.eraseIdx i.toNat:=by rw[fZ,iC (by omega),Array.toList_eraseIdx]
     rw[this];exact w.eraseIdx _
 .rename_i C i x f;have⟨O,E,U,q⟩:=h;have⟨vs,n,g,w⟩:=H.cells k a _ B f;have P:vs.size=C.length:=by have:=w.length;simpa using this
  cases c with
  |cons r c=>
   cases c with
   |cons rx c=>
    cases c;cases r with
    |int _ u=>
     refine ig gL ⟨_,g,rfl⟩ PySem.F.entry_list_insert (PySem.F.args_list_insert_3 _ _ _) (AutoSeq1.list_insert_list_int_val_1 a vs n i u _ ?_ (bq (by omega:vs.size<=1000) (by decide))) ⟨g,.here (H.P5 B f g ?_) .none q⟩
     .unfold Builtin.List.listFitsIndex;simp;omega
     .dsimp only;rw[P];unfold rH;generalize (if i<0 then(i+(C.length:Int)).toNat else min i.toNat C.length)=p;have ins:∀v:ae,((vs.extract 0 p).push v++vs.extract p C.length).toList=vs.toList.take p++v::vs.toList.drop p:=λv=>by rw[<-P,fW,dk,eN,eN];simp[gn,er]
      rw[ins];exact jV.append (.cons rx (w.drop p)) (w.take p)
 .exact h.elim
def IV (n:Str):az BM:=if n="add" then some .setAdd else if n="discard" then some .setDiscard else if n="remove" then some .t_ else if n="copy" then some .yB else none
def CX (n:Str):az BM:=if n="append" then some .yC else if n="index" then some .Co else if n="remove" then some .yD else if n="pop" then some .Px else if n="insert" then some .yE else none
noncomputable def M0(K:Frag)(C:iJ)(name:Str):az iJ:=
 if findIn K (.ref C) "__getattribute__"==some (some (.builtin "object.__getattribute__"))&&findIn K (.ref C) "__getattr__"==some none&&(clsIn K C).isSome&&!copiedNames.contains name then
  (match findIn K (.ref C) name with
   |some (some (.ref p))=>if specialIn K (.ref p) "__get__"==some (some (.builtin "classmethod.__get__"))&&takesIn K (.ref p)==some false&&typeIn K (.ref p)==some (.type "classmethod")then
     (match recIn K p "classmethod" with
      |some (.ref f::_)=>if fnIn K f=true then some f else none
      |_=>none)
    else none
   |_=>none)
 else none
@[irreducible] def pK (Kf:Frag) (fn:iJ->jy->jW->KV->KX->Prop) (fE:rT) (c:nW) (ov:AV) (name:Str) (args:j5) (Y:j9) (iT:jW) (K:KV) (X:KX):Prop:=match ov with
   |.ref k=>(match iT[k]? with
    |some (.inst C dl)=>(match iT[dl]? with
     |some (.dict m)=>m.lookup name=none/\(match mf Kf C name with
      |some f=>oj (λe J K=>fE c e Y J K X) args iT λl jf=>fn f (.ref k::l) jf K X
      |none=>ky (M0 Kf C name) λf=>oj (λe J K=>fE c e Y J K X) args iT λl jf=>fn f (.val (.ref C)::l) jf K X)
     |_=>False)
    |some (.set _)=>ky (IV name) λb=>oj (λe J K=>fE c e Y J K X) args iT λl jf=>wN b k l jf K X
    |some (.list _)=>ky (CX name) λb=>oj (λe J K=>fE c e Y J K X) args iT λl jf=>wN b k l jf K X
    |_=>False)
   |_=>False
def EH (Kf:Frag)(fn:iJ->jy->jW->KV->KX->Prop)(fE:rT)(c:nW)(o:Expr)(name:Str)(apos:Pos)(args:j5)(pos:Pos)(Y:j9)(J:jW)(K:KV)(X:KX):Prop:=
 rG o=true/\pq args=true/\args.length<30/\(apos.endLine==pos.line)=true/\c.calm=true/\
  fE c o Y J (λov iT=>pK Kf fn fE c ov name args Y iT K X) X
def BK(z:l7 S d fE){B:AV->jW->Prop}(M:rG o=true)(C:pq args=true)(N:args.length<30)(O:(apos.endLine==pos.line)=true)(h:fE c o Y J B X)
  (P:∀(i:jj) (j:jn) (v:ae) (r:AV) (t:jW) (u:aj) (f:ma) (fs:jS) (R:mO) (A:bO) (Q:Sem aY),kj d c.calm (f::fs) A->j4 S i j t (f::fs) R u->kQ i j v r->B r t->
   kY S A (getMethod v name Q) (λp e_=>∃k m x KL,j8 i k j m/\j4 S k m x (f::fs) R e_/\oj (λe J K=>fE c e Y J K X) args x KL/\∀l w,KL l w->
    ∀(a:jj) (b:jn) (n:aj) (vs:jr),j8 k a m b->j4 S a b w (f::fs) R n->jV a b vs l->oq (p_ S) p.1 n/\kY S A (call p.1 (p.2++vs)) (nP S a b (f::fs) R K) (oW S a b (f::fs) R X) n)
    (oW S i j (f::fs) R X) u):pD S d (eval (.Call (.Attribute o name apos) args [] pos)) c Y J K X:=by
 intro V F f fs R s A fa D E H;rw[gM];have T:attributeBase o name f.env (eval o f.env)=eval o f.env:=by cases o<;>first|rfl|cases M
 rw[T];refine Ct (z c o Y J _ X h V F f fs R s A fa D E H) λi j v r t u y U W Z=>?_;refine G (bR ?_);unfold methodCall;have iP:∀(l:j5) (env:Env),(backTo pos (starEach l env)).all (!·.1)=true↔(backTo pos (starEach l env)).any (·.1)=false:=λl env=>by simp[aZ,dh]
 have Tt:methodCallForm (args.length+([]:List Keyword).length) (backTo pos (starEach args f.env)) (backToKw pos (keywordEach [] f.env))=true:=by unfold methodCallForm;rw[(iP args f.env).mpr (mx C)];show(true&&true&&decide (args.length+0+0<30))=true;simpa using N
 rw[Tt];refine G (aF ?_);refine ai (P i j v r t u f fs R A _ fa U W Z) (λp e_ nS=>?_) λ_ _ p=>p.grow y;have⟨k,m,x,KL,I,jN,iU,kl⟩:=nS;have⟨g,first⟩:=p;have Ho:methodCallPos true o f.env apos pos=pure pos:=by unfold methodCallPos;rw[O];rfl
 rw[Ho];refine G (ac ?_);refine mw (ai (nj (X:=X) (λe J K q=>z c e Y J K X q) iU k m f fs R e_ A fa D E jN) (λvs n p=>?_) λ_ _ p=>p.grow (y.trans I)) (mx C);have⟨a,b,l,w,L,kK,rs,kk⟩:=p;have⟨c1,c2⟩:=kl l w kk a b n vs L kK rs;exact⟨c1,rU ((y.trans I).trans L) c2⟩
def zQ{els:kr}(ok:ml S)(H:j4 S V F J fs R s)(c:V[k]?=some a)(d:J[k]?=some (.set els)):s.TypeIs (.ref a) "set"/\∀b,Value.ref a=.ref b->∃o,s.heap.get? b=some o/\o.dict=none:=⟨(H.setAt ok c d).typeIs,(H.setAt ok c d).noDict⟩
def Hq(h:IV name=some b):Slot "set" name b.id/\typeOf (.builtin b.id)=pure (.type "method_descriptor"):=by
 unfold IV at h;split at h
 .rename_i e;cases h;subst e;exact⟨eP,dN⟩
 .split at h
  .rename_i e;cases h;subst e;exact⟨PySem.F.slot_set_discard,PySem.F.type_set_discard⟩
  .split at h
   .rename_i e;cases h;subst e;exact⟨PySem.F.slot_set_remove,PySem.F.type_set_remove⟩
   .split at h
    .rename_i e;cases h;subst e;exact⟨PySem.F.slot_set_copy,PySem.F.type_set_copy⟩
    .cases h
def EI(h:CX name=some b):Slot "list" name b.id/\typeOf (.builtin b.id)=pure (.type "method_descriptor"):=by
 unfold CX at h;split at h
 .rename_i e;cases h;subst e;exact⟨slot_list_append,type_list_append⟩
 .split at h
  .rename_i e;cases h;subst e;exact⟨e9,PySem.F.type_list_index⟩
  .split at h
   .rename_i e;cases h;subst e;exact⟨gK,PySem.F.type_list_remove⟩
   .split at h
    .rename_i e;cases h;subst e;exact⟨PySem.F.slot_list_pop,PySem.F.type_list_pop⟩
    .split at h
     .rename_i e;cases h;subst e;exact⟨gL,PySem.F.type_list_insert⟩
     .cases h
def EJ{od:dq}{es:bM cU}{a:Nat}{m:j9}(d:od.data=.dict es a)(e:StrKeys es)(b:∀y,n9 V F (nsFind es y) (m.lookup y))(c:m.lookup name=none):nsFind es name=none:=by
 have:=b name;rw[c]at this;cases q:nsFind es name with
 |some w=>rw[q]at this;exact this.elim
 |none=>rfl
def EK{fn:iJ->jy->jW->KV->KX->Prop}(ok:ml S)(u:kJ S.B Kf)(l9:ka S (d+1) fn)(hk:∀f,typeIn Kf (.ref f)=some (.type "function")->fnIn Kf f=true)(hE:l7 S (d+1) fE)
  (h:EH Kf fn fE c o name apos args pos Y J K X):pD S (d+1) (eval (.Call (.Attribute o name apos) args [] pos)) c Y J K X:=by
 have⟨hb,hs,hn,hp,hc,h⟩:=h;refine BK hE hb hs hn hp h λO Z v ov w P f fs R A pl fa i T a=>?_;rw[hc]at fa;unfold pK at a;cases ov<;>first|exact a.elim|skip
 rename_i k;dsimp only at a;cases D:w[k]? with
 |none=>rw[D]at a;exact a.elim
 |some c1=>
  rw[D]at a;cases c1<;>first|exact a.elim|skip
  .rename_i C dl;dsimp only at a;cases e2:w[dl]? with
   |none=>rw[e2]at a;exact a.elim
   |some c2=>
    rw[e2]at a;cases c2<;>first|exact a.elim|skip
    rename_i m;have⟨hm,a⟩:=a;obtain⟨x,dx,od,es,ep,rfl,h1,h2,I,h4,h5,h6,h7,h8⟩:=vW i T D e2;have LQ:=EJ h6 h7 h8 hm;split at a
    .rename_i y g;unfold mf at g;split at g
     .rename_i z;simp only[aJ,aG]at z;split at g
      .rename_i ZP U;split at g
       .rename_i ht;cases g;have Pj:typeIn Kf (.ref y)=some (.type "function"):=by simpa using ht
        have U7:shadowIn (some od) name=some false:=by show(lookIn name od).map (·.isSome)=some false;rw[w0 h6 h7,LQ];rfl
        refine method_fn (u.here i) I z.1 z.2 U Pj U7 ⟨O,Z,w,_,.refl _ _,i,a,λl j1 q mq nA mr vs r j s=>?_⟩;exact⟨CS u j (hk y Pj),rE (l9 y _ j1 K X q mq nA (f::fs) R mr A (.ref x::vs) fa j (.cons (T.mono r) s))⟩
       .cases g
      .cases g
     .cases g
    .have⟨y,g,a⟩:=jo a;unfold M0 at g;split at g
     .rename_i z;simp only[aJ,aG,bJ]at z;have⟨⟨⟨g1,g2⟩,g3⟩,g4⟩:=z;have⟨cd,BG⟩:=bH.mp g3;split at g
      .rename_i p U;split at g
       .rename_i uz;simp only[aJ,aG]at uz;have⟨⟨H,L⟩,s3⟩:=uz;split at g
        .rename_i f' iN hr;split at g<;>first|cases g|skip
         rename_i Tu;have ZL:findObj Kf C (some od) name=some (.bind (.builtin "classmethod.__get__") (.ref p)):=by
          unfold findObj;rw[BG,dX,U,dX];simp only[H,L,dX];have:PySem.W.ownOf cd (some od) name=some none:=by
           unfold PySem.W.ownOf;split
           .show lookIn name od=_;rw[w0 h6 h7,LQ]
           .rfl
          grind
         apply method_usual (u.here i) I g1 g2 U (by rw[Option.all_some,s3];decide);apply get_bind (u.here i) I g1 ZL g2;have jN:=i.tok (P.toks+1);refine dQ (cm_get (u.here jN) hr ?_);have V:=am P.heap (o:=methodObj (.ref y) (.ref C)) rfl;have⟨j,r⟩:=jN.yi (t:=P.toks+1) (λb o e=>ad _ e) (aq (ao _)) V;show wpAny _ _ (handedOut (.ref P.heap.objs.size)) _ _ _;rw[iD rfl];refine ac ⟨O,_,w,_,r,j,a,λl lY q oE sj rB vs nD mt s=>?_⟩;have M:=mt.lw _ _ (nD.fr (jn.lf _ _ _));refine⟨λA Q E h=>?_,rE (method_call M (l9 y _ lY K X q oE sj (f::fs) R rB A (.ref C::vs) fa mt (.cons (.val _) s)))⟩;unfold fnIn at Tu;split at Tu
         .rename_i oc ZQ fd sl e;unfold keeperOf;refine G (dB M ?_);exact G (dB (u.here mt _ _ e) (ac (h _)))
         .cases Tu
        .cases g
       .cases g
      .cases g
     .cases g
  .rename_i qm;have⟨b,Kp,a⟩:=jo a;cases T with
   |ref N=>have⟨vs,n,V,rl⟩:=i.cells k _ _ N D;have⟨H,L⟩:=EI Kp;refine fk ⟨_,V,rfl⟩ PySem.F.plainAttrs_list H L (λb e=>by injection e with e;subst e;exact⟨_,V,rfl⟩) ⟨O,Z,w,_,.refl _ _,i,a,λl j1 q mq nA mr vs r j s=>?_⟩;exact⟨md,EG ok (fa.less (ao _)) j (r.th N) s q⟩
  .rename_i els;have⟨b,Kp,a⟩:=jo a;cases T with
   |ref N=>have⟨t1,t2⟩:=zQ ok i N D;have⟨H,L⟩:=Hq Kp;refine fk t1 ii H L t2 ⟨O,Z,w,_,.refl _ _,i,a,λl j1 q mq nA mr vs r j s=>?_⟩;exact⟨md,EG ok (fa.less (ao _)) j (r.th N) s q⟩
end
section
open PySem PySem.W PySem.Calls PyProof.Rows PySem.SeqAt PySem.Builtin.ObjectAttr
variable {E:nz}{V jF:jj}{fs:jS}{F F':jn}{s:aj}{A:bO}{P:tD}{f:ma}{Y:j9}{Kf:Frag}{S:Sys}{d:Nat}{J:jW}{R:mO}{c:nW}{X:KX}
def AW (K:Frag)(C:iJ):az iJ:=
 if makesIn K C then
  (match findIn K (.ref C) "__init__" with
   |some (some (.ref f))=>if typeIn K (.ref f)==some (.type "function")then some f else none
   |_=>none)
 else none
def Gy (K:jW->Prop):KV:=λa J=>match a with|.none=>K J|_=>False
def W8 (Kf:Frag)(fn:iJ->jy->jW->KV->KX->Prop)(C:iJ)(l:jy)(J:jW)(K:KV)(X:KX):Prop:=ky (AW Kf C) λf=>fn f (.ref (J.length+1)::l) (J++[.dict [],.inst C J.length]) (Gy λg_=>K (.ref (J.length+1)) g_) X
section
variable {K:KV}
def Holds.IW(H:j4 S V F J fs R s)(C:iJ):j4 S (V++[s.heap.objs.size,s.heap.objs.size+1]) F (J++[.dict [],.inst C J.length]) fs R {s with heap:=(s.heap.push emptyDict).push (instObj C s.heap.objs.size)}/\
  j8 V (V++[s.heap.objs.size,s.heap.objs.size+1]) F F/\(V++[s.heap.objs.size,s.heap.objs.size+1])[J.length+1]?=some (s.heap.objs.size+1):=by
 have a:=am s.heap (o:=emptyDict) rfl;have i:=H.oU (t:=s.toks) (λb o e=>ad _ e) (aq (ao _)) a;have⟨j,k⟩:=i.vz (c:=.dict []) ⟨[],0,a,.nil⟩ (by intro e;cases e);have d:(s.heap.push emptyDict).objs.size=s.heap.objs.size+1:=bY ..;have f:=am (s.heap.push emptyDict) (o:=instObj C s.heap.objs.size) rfl;have l:=j.oU (t:=s.toks) (λb o e=>ad _ e) (aq (h:=s.heap.push emptyDict) (ao _)) f;have m:(V++[s.heap.objs.size])[J.length]?=some s.heap.objs.size:=by rw[<-H.len,aR (ao _),cM];rfl
 have⟨mt,g⟩:=l.vz (c:=.inst C J.length) ⟨s.heap.objs.size,(j8.snoc _ F _).th m,f⟩ (by intro e;cases e);rw[d,cw,cw]at mt;rw[d,cw]at g;refine⟨mt,k.trans g,?_⟩;rw[<-H.len,aR (by omega),show V.length+1-V.length=1 by omega];rfl
def kj.under{a:aY}{C:iJ}{l:jr}{kw:List (Str×ae)}(h:kj (d+1) a fs A):kj d a fs (A.under (.builtin "type.__call__" ⟨.ref C::l,kw⟩)):=by
 have e:=depth_under_kw A C l kw;have f:(A.under (.builtin "type.__call__" ⟨.ref C::l,kw⟩)).units<=A.units+4:=by
  first
   |exact eU (rfl:_=A.units+4)
   |exact bq (eU (rfl:_=A.units+1)) (by omega)
 have g:=h.depth;have i:=h.units;have b:(A.under (.builtin "type.__call__" ⟨.ref C::l,kw⟩)).frames=pushEnvs [] A.frames:=rfl;have c:(A.under (.builtin "type.__call__" ⟨.ref C::l,kw⟩)).guards=pushGuards [] A.guards:=rfl;refine⟨by omega,by omega,?_,?_,h.calm⟩
 .rw[b,h.frames];rfl
 .rw[c,h.guards];rfl
def Kq{a:iJ->jy->jW->KV->KX->Prop}(b:kJ S.B Kf)(n:ka S d a){C:iJ}{l:jy}{vs:jr}(fa:kj (d+1) true fs A)(H:j4 S V F J fs R s)(o:jV V F vs l)(h:W8 Kf a C l J K X):
  oq (p_ S) (.ref C) s/\kY S A (call (.ref C) vs) (nP S V F fs R K) (oW S V F fs R X) s:=by
 obtain⟨c,hi,h⟩:=jo h;unfold AW at hi;split at hi
 .rename_i u;split at hi
  .rename_i T x;split at hi
   .rename_i y;cases hi;have z:typeIn Kf (.ref c)=some (.type "function"):=by simpa using y
    have f:=makes_of (M:=model S.prog S.w) (b.here H) u;refine⟨λA Q E q=>?_,?_⟩
    .obtain⟨⟨U,od,W,Y,D,_⟩,_,_,_,_,call,_⟩:=f;unfold keeperOf;refine G (dB D ?_);exact G (call.here (ac (q _)))
    .obtain⟨I,g,i⟩:=H.IW C;have j:=b.here H;obtain⟨L,Z,dr,t,os⟩:=s;refine rE (make_core f (c6 j x) (λself=>bind_fn j self z) (.inl rfl) ?_);refine b7 (n c _ _ _ X h _ F fs R _ _ (.ref (L.objs.size+1)::vs) fa.under I (.cons (.ref i) (o.mono g))) λr s' p=>?_;rcases r with e|(_|_|_|v)
     .exact p.grow g
     .exact p.elim
     .exact p.elim
     .exact p.elim
     .obtain⟨jF,F',av,N,m,O,P,k⟩:=p;cases av<;>first|exact k.elim|skip
      cases P;exact⟨rfl,jF,F',_,N,g.trans m,O,.ref (m.th i),k⟩
   .cases hi
  .cases hi
 .cases hi
end
def u6 (x:Str)(a:AV):j9->j9
 |[]=>[(x,a)]
 |(y,b)::m=>if(y==x)=true then(y,a)::m else(y,b)::u6 x a m
def yh (Kf:Frag)(C:iJ)(name:Str):aY:=findIn Kf (.ref C) "__setattr__"==some (some (.builtin "object.__setattr__"))&&plainOver Kf C&&(match takerIn Kf C name with|some none=>true|_=>false)&&(clsIn Kf C).any (·.hasDict)
@[irreducible] def oK (Kf:Frag) (o:AV) (name:Str) (a:AV) (J:jW) (K:jW->Prop):Prop:=match o with
 |.ref k=>(match J[k]? with
  |some (.inst C dl)=>(match J[dl]? with
   |some (.dict m)=>yh Kf C name=true/\m.length<=100/\K (J.set dl (.dict (u6 name a m)))
   |_=>False)
  |_=>False)
 |_=>False
def mv.put{x:Str}{g:Int}{t:Tok}{v:ae}{a:AV}(c:kQ V F v a):∀{es:List cU}{m:j9},mv V F es m->mv V F (putL x g (.str x t) v es) (u6 x a m)
 |_,_,.nil=>.cons rfl c .nil
 |e::es,(y,b)::m,.cons d i f=>by
  unfold putL u6;rw[d];show mv V F (if(y==x)=true then _ else _) _;by_cases h:(y==x)=true
  .rw[aB h,aB h];exact .cons rfl c f
  .rw[aA h,aA h];exact .cons d i (f.put c)
def xQ(x:Str)(a:Int)(k v:ae):∀es:List cU,(putL x a k v es).length<=es.length+1
 |[]=>by simp[putL]
 |e::es=>by
  unfold putL;split
  .simp
  .have:=xQ x a k v es;simp only[aI];omega
def qZ{o a:AV}{p d:ae}{name:Str}{K:jW->Prop}(r:kJ S.B Kf)(H:j4 S V F J fs R s)(O:kQ V F p o)(P:kQ V F d a)(h:oK Kf o name a J K){Q:Unit->aj->Prop}
  (q:∀u y,j4 S V F u fs R y->K u->Q () y):kY S A (setAttr p name d) Q E s:=by
 unfold oK at h;cases o<;>first|exact h.elim|skip
 rename_i k;dsimp only at h;cases i:J[k]? with
 |none=>rw[i]at h;exact h.elim
 |some T=>
  rw[i]at h;cases T<;>first|exact h.elim|skip
  rename_i C dl;dsimp only at h;cases g:J[dl]? with
  |none=>rw[g]at h;exact h.elim
  |some U=>
   rw[g]at h;cases U<;>first|exact h.elim|skip
   rename_i m;have⟨z,W,j⟩:=h;cases O with
   |ref Y=>
    rename_i x;have⟨f,L,M⟩:=H.cells _ _ _ Y i;have⟨es,n,D,c⟩:=H.cells _ _ _ L g;have I:InstAt s.heap x {cls:=.ref C,dict:=some f,data:=.plain} C (some {cls:=.type "dict",data:=.dict es.toArray n}):=⟨M,rfl,rfl,D⟩
    simp only[yh,aJ,aG]at z;have⟨⟨⟨Z,s2⟩,s3⟩,s4⟩:=z;have ht:takerIn Kf C name=some none:=by grind
    have⟨cd,hc,yF⟩:=any_some s4;apply set_plain (r.here H) I Z;have d_:=H.tok (s.toks+1);have X:=r.here d_;refine osa_open (s:={s with toks:=s.toks+1}) X I s2 ht λb=>?_;refine G (ac (G (G (eQ (s:={s with toks:=s.toks+1}) M (G ((looks_clsIn X hc).here ?_))))));rw[yF];refine ac (a:=some f) (G (ac (G ?_)));unfold nsSet;refine G (G (bU (ac (G (iE (G (eQ (s:={s with toks:=s.toks+1+1}) D ?_)))))));dsimp only;have cc:(!es.toArray.any (·.key.isStr name)&&es.toArray.any (·.refKey))=false:=by
     have:es.toArray.any (·.refKey)=false:=by rw[Array.any_eq_false'];intro e he;have⟨n,t,j⟩:=c.strKeys e he;simp[DictEntry.refKey,j]
     rw[this,Bool.and_false]
    rw[aRefKeyMayBeTheName_at,cc];have N:=putName_dict name (PyData.keyHash S.w.params name) (.str name (s.toks+1)) d es n;have l:(s.heap.update f (Obj.putName name (PyData.keyHash S.w.params name) (.str name (s.toks+1)) d)).get? f=some (dictOf (putL name (PyData.keyHash S.w.params name) (.str name (s.toks+1)) d es) (putN name es n)):=by rw[bA (Obj.putName name (PyData.keyHash S.w.params name) (.str name (s.toks+1)) d) D (by rw[N];rfl),N]
    refine wpAny_updatePart D ?_;have iP:=xQ name (PyData.keyHash S.w.params name) (.str name (s.toks+1)) d es;have YN:=c.length;refine G (wpAny_lookBehind l (pastItsLine_dict (by rw[gC,dz];omega)) ?_);have jN:=H.setC (t:=s.toks+1+1) (c':=.dict (u6 name a m)) L g (by intro e;cases e) (by intro e;cases e) (λb o hb e=>(bK s.heap f _).extBut b o hb e) ⟨_,_,l,c.put P⟩ ⟨_,l⟩;exact ac (q _ _ jN j)
end
section
open PySem PySem.W PySem.Calls PyProof.Rows PySem.SeqAt PySem.Builtin
open Sem (wp)
variable {E Q jg E':ae->aj->Prop}{fs:jS}{V jF fp wr tb mG:jj}{A A':bO}{s e_:aj}{F F' mQ:jn}{Kf:Frag}{Y:j9}{f:ma}{C ga I Sa D Sl it z TI TO i1 i2 l1 l2:iJ}{S:Sys}{d k g i kt t sW j:Nat}{J:jW}{c:nW}{R iL:mO}{KL:jy->jW->Prop}{K:KV}{X:KX}{P:tD}{l:jy}{M:fL}{b_:dF}{gl:Str->az AV}{xs vs items ys:bM ae}{T:String}{a_:c5}{V1 V2:Nat->ae}{x y u name nm v':Str}{h h':cj}{iter iV:Expr}{Rr:Result->aj->Prop}{pos px pu pv pt dp ap cp yp pc zR:Pos}{w:cy}{m₂:Str->az ae}{KB:aY->jW->Prop}{jd:Nat->cj->Prop}{od:az dq}{iY:bM GenState}{oG ox oC oI o:dq}{fE:rT}{b va vb:ae}{els:kr}{env h_:Env}{tup expr t1 t2:aY}{n1 n2:az Str}{pl:Sem aY}{ss:jK}{op:CmpOp}{fT:GB}{fJ:Rj}{fB:PZ}{av:AV}
section
variable {x f:iJ}{v:ae}
def lq (K:Frag)(C:iJ)(name:Str):az iJ:=match findIn K (.ref C) name with
 |some (some (.ref f))=>if isFn K (.ref f)&&fnIn K f then some f else none
 |_=>none
def pH(h:lq Kf C n=some f):findIn Kf (.ref C) n=some (some (.ref f))/\isFn Kf (.ref f)=true/\fnIn Kf f=true:=by
 unfold lq at h;split at h
 .grind
 .cases h
def Ba{Q:aY->aj->Prop}(X:Kf.In s.heap)(I:InstAt s.heap x ox C od)(b:lq Kf C "__contains__"=some f)
  (h:wpAny (model a_ w) A (call (.ref f) [.ref x,v]) (λr c=>wpAny (model a_ w) A (truthy r) Q E c) E s):wpAny (model a_ w) A (contains (.ref x) v) Q E s:=by
 have⟨a,d,_⟩:=pH b;unfold contains;refine aF (G (G (I.type.here ((c6 X a).here ?_))));rw[aA (by simp)];exact G (unlessNone_K X I a d h)
def M1(X:Kf.In s.heap)(I:InstAt s.heap x ox C od)(b:lq Kf C "__len__"=some f)
  (h:wpAny (model a_ w) A.in1 (call (.ref f) [.ref x]) (λr a=>∃n t,r=.int n t/\0<=n/\n<2 ^ 63/\∀tk,Q (.int n tk) {a with toks:=a.toks+1}) E s):wpAny (model a_ w) A (call (.builtin "len") [.ref x]) Q E s:=by
 have⟨c,d,_⟩:=pH b;apply gu kind_len plain_len entry_len (args_len1 _);unfold Builtin.«len»;refine G (m:=oneArg "len" _) (ac ?_);refine G (m:=callSpecial? (.ref x) (Str.ofString "__len__")) (iA X I c (aG.mp d) (ai h (λr a e=>?_) λ_ _ y=>y));obtain⟨n,t,rfl,i,n1,g⟩:=e;refine G (aF (ac ?_));refine G (fb ?_);rw[aA (by omega),aA (by omega)];exact G (wpAny_mkInt (ac ⟨_,rfl,g _⟩))
def M2{tb:ae}(g:A.units<cLine)(X:Kf.In s.heap)(I:InstAt s.heap x ox C od)(i:Looks (model a_ w) s.heap (typeOf b) tb)(j:notFirst Kf C tb=true)(k:lq Kf C (cmpInfo op).2.1=some f)
  (h:wpAny (model a_ w) A (call (.ref f) [.ref x,b]) (λv a=>v≠.notImplemented/\Q v a) E s):wpAny (model a_ w) A (richCompare op (.ref x) b) Q E s:=by
 have⟨l,m,_⟩:=pH k;have c:wpAny (model a_ w) A (tryCompare (.ref x) (cmpInfo op).2.1 b) (λr a=>∃v,r=some v/\Q v a) E s:=by unfold tryCompare;refine G (ifBound_K X I l m (ai h (λv a n=>?_) λ_ _ e=>e));have⟨o,d⟩:=n;cases v<;>first|exact absurd rfl o|exact ac ⟨_,rfl,d⟩
 unfold richCompare;simp only[oneThing_ref];refine aF (G (wpAny_cRoomFor g ?_));refine G (I.type.here (G (i.here ?_)));split
 .rename_i q;have e:subIn Kf tb (.ref C)=some false:=by
   rcases eW.mp j with e|e
   .rw[aG.mp e]at q;simp at q
   .exact aG.mp e
  refine G ((looks_subIn X e).here ?_);simp only[au,bD];refine G (ai c (λr a z=>?_) λ_ _ e=>e);obtain⟨v,rfl,d⟩:=z;exact ac d
 .refine G (ac ?_);simp only[au,bD];refine G (ai c (λr a z=>?_) λ_ _ e=>e);obtain⟨v,rfl,d⟩:=z;exact ac d
def M3{value a:Expr}{i:ae}(X:Kf.In s.heap)(I:InstAt s.heap x ox C od)(d:lq Kf C "__getitem__"=some f)
  (h:wpAny (model a_ w) A.in1 (call (.ref f) [.ref x,i]) Q E s) (g:yS a=false):
  wpAny (model a_ w) A (subscriptTail value a (.ref x) i) Q E s:=by
 have⟨c,j,b⟩:=pH d;unfold fnIn at b;split at b
 .rename_i e;unfold subscriptTail getitemInPython;refine G (G (G (I.type.here ((c6 X c).here ?_))));refine G (dB (X _ _ e) (ac ?_));have k:subscripted a true (.ref x) i=runValue (.builtin "lifetime.subscript" ⟨[.ref x,i],[]⟩):=by cases a<;>first|rfl|cases g
  rw[k];refine G (eR (bj entry_sub ?_));unfold Builtin.«lifetime.subscript»;refine G (iA X I c (aG.mp j) (ai h (λv l z=>?_) λ_ _ z=>z));apply ac;exact G (wpAny_letTemporaryGo (ac z))
 .cases b
def CY{i:ae}{Q:Unit->aj->Prop}(X:Kf.In s.heap)(I:InstAt s.heap x ox C od)(a:noSeq Kf C=true)(b:lq Kf C "__setitem__"=some f)
  (h:wpAny (model a_ w) A (call (.ref f) [.ref x,i,v]) (λ_ c=>Q () c) E s):wpAny (model a_ w) A (setItem (.ref x) i v) Q E s:=by
 have⟨d,e,g⟩:=pH b;unfold setItem sequenceKey;refine aF (G (G (I.type.here ?_)));refine G ((anyM_none X a).here ?_);rw[aB (show(!false)=true from rfl)];exact ac (G (iA X I d (aG.mp e) (ai h (λ_ _ z=>ac z) λ_ _ z=>z)))
def M4(X:Kf.In s.heap)(I:InstAt s.heap x ox C od)(l:selfFirst Kf C=true)(m:lq Kf C "__ior__"=some f)
  (h:wpAny (model a_ w) A (call (.ref f) [.ref x,b]) (λv i=>v≠.notImplemented/\Q v i) E s):wpAny (model a_ w) A (inplaceOp .BitOr (.ref x) b) Q E s:=by
 have⟨j,n,y⟩:=pH m;have⟨g,o,c⟩:=any_some l;obtain⟨iN,c⟩:∃iN,g.mro=.ref C::iN:=by
  cases q:g.mro with
  |nil=>rw[q]at c;cases c
  |cons a r=>rw[q]at c;exact⟨r,by rw[List.head?_cons]at c;cases(aG.mp c);rfl⟩
 have d:Looks (model a_ w) s.heap (fillsInplaceSlot (.ref C) "or" (Operator.BitOr==.Add)) true:=by intro A Q E s k q;unfold fillsInplaceSlot;refine G ((looks_clsIn X o).andThen (f:=λg=>pure g.mro) .now A _ E s k ?_);rw[c,List.anyM_cons];refine G (G (c6 X j A _ E s k ?_));dsimp only;rw[aB (show(!ownNameWrapper (.ref f) (dunderI "or"))=true from rfl)];apply ac;rw[aB rfl];exact ac q
 unfold inplaceOp;apply aF;refine G (I.type.here (G (d.here ?_)));rw[aB rfl];apply G;unfold tryMethod;refine G (iA X I j (aG.mp n) (ai h (λv i p=>?_) λ_ _ e=>e));have⟨t,u⟩:=p;cases v<;>first|exact absurd rfl t|exact ac (G (b9 (ac u)))
def w_(X:Kf.In s.heap)(I:InstAt s.heap x ox C od)(g:lq Kf C "__iter__"=some f)
  (h:wpAny (model a_ w) A (call (.ref f) [.ref x]) (λit a=>∃T r,a.TypeIs it T/\typeLookup (.type T) "__next__"=pure (some r)/\Q it a) E s):wpAny (model a_ w) A (pyIter (.ref x)) Q E s:=by
 have⟨c,d,i⟩:=pH g;unfold pyIter;refine G (G (I.type.here ((c6 X c).here ?_)));apply G;unfold callSpecialIfBoundUnlessNone?;simp only[bindSpecialIfBound?];refine aF (G (G (G (I.type.here ((c6 X c).here ?_)))));refine G (bU (wpAny_ite ?_));split
 .refine G ((bind_fn X _ (aG.mp d)).here (ac ?_));dsimp only;rw[aA (by simp)];refine G (ai h (λit a hi=>?_) λ_ _ e=>e);have⟨T,r,t1,t2,b⟩:=hi;apply ac;exact G (cA t1 t2 (ac b))
 .refine gf (G ((bind_fn X _ (aG.mp d)).here (ac ?_)));dsimp only;rw[aA (by simp)];refine G (ai h (λit a hi=>?_) λ_ _ e=>e);have⟨T,r,t1,t2,b⟩:=hi;apply ac;exact G (cA t1 t2 (ac b))
end
abbrev sY:=iJ->jy->jW->KV->KX->Prop
variable {fn:sY}
def lG (J:jW)(k:Nat):az iJ:=match J[k]? with
 |some (.inst C dl)=>(match J[dl]? with
  |some (.dict _)=>some C
  |_=>none)
 |_=>none
def Hr (J:jW):AV->az ae
 |.ref k=>(lG J k).map .ref
 |.tup _=>some (.type "tuple")
 |.lst _=>some (.type "list")
 |_=>none
def q8 (K:aY->jW->Prop):KV:=λr J=>match r with|.bool b=>K b J|_=>False
@[irreducible] def Po (Kf:Frag) (fn:sY) (a:AV) (k:Nat) (J:jW) (K:aY->jW->Prop) (X:KX):Prop:=match J[k]? with
 |some (.set els)=>ky (qW a) λe=>(∀f∈els,f.jJ=e.jJ)/\K (decide (e∈els)) J
 |some (.mP els _)=>ky (qW a) λe=>(∀f∈els,f.jJ=e.jJ)/\K (decide (e∈els)) J
 |some (.inst C _)=>lG J k=some C/\ky (lq Kf C "__contains__") λf=>fn f [.ref k,a] J (q8 K) X
 |_=>False
def Hs:CmpOp->az Str
 |.Eq=>some "__eq__"
 |.NotEq=>some "__ne__"
 |_=>none
@[irreducible] def xR (Kf:Frag) (fn:sY) (op:CmpOp) (k:Nat) (b:AV) (J:jW) (K:KV) (X:KX):Prop:=match J[k]? with
 |some (.set els)=>op=.Eq/\(match b with
  |.ref j=>(match J[j]? with
   |some (.set k8)=>(∀f∈els,f.jJ=false)/\(∀f∈k8,f.jJ=false)/\∀v,(v=true↔els.Perm k8)->K (.bool v) J
   |_=>False)
  |_=>False)
 |some (.inst C _)=>lG J k=some C/\ky (Hs op) λnm=>ky (lq Kf C nm) λf=>ky (Hr J b) λtb=>notFirst Kf C tb=true/\fn f [.ref k,b] J (q8 λv g_=>K (.bool v) g_) X
 |_=>False
def listAt(J:jW)(k:Nat):az (jy):=match J[k]? with
 |some (.list l)=>some l
 |_=>none
def tE (K:Frag)(x:iJ):aY:=match K.lookup x with
 |some o=>o.cls !=.type "tuple"
 |none=>false
noncomputable def IY(Kf:Frag)(fn:sY)(op:CmpOp)(a b:AV)(J:jW)(K:KV)(X:KX):Prop:=match op,a,b with
 |.In,a,.ref k=>on (listAt J k) (λl=>ky (qN a (.lst l)) λb=>K (.bool b) J) (Po Kf fn a k J (λv g_=>K (.bool v) g_) X)
 |.NotIn,a,.ref k=>on (listAt J k) (λl=>ky (qN a (.lst l)) λb=>K (.bool (!b)) J) (Po Kf fn a k J (λv g_=>K (.bool (!v)) g_) X)
 |.Eq,.ref k,b=>xR Kf fn .Eq k b J K X
 |.NotEq,.ref k,b=>xR Kf fn .NotEq k b J K X
 |.Gt,.int i,.int j=>K (.bool (decide (j<i))) J
 |.Lt,.int i,.int j=>K (.bool (decide (i<j))) J
 |.Is,.val (.ref x),.val (.ref y)=>tE Kf x=true/\tE Kf y=true/\K (.bool (decide (x=y))) J
 |.IsNot,.val (.ref x),.val (.ref y)=>tE Kf x=true/\tE Kf y=true/\K (.bool (!decide (x=y))) J
 |_,_,_=>False
def lC{v:ae}(H:j4 S V F J fs R s)(r:kQ V F v (.ref k))(h:lG J k=some C):∃x ox od,v=.ref x/\V[k]?=some x/\InstAt s.heap x ox C od:=by
 unfold lG at h;split at h
 .rename_i d dl a;split at h
  .rename_i m b;cases h;obtain⟨x,e,od,es,f,rfl,c,g,I,_⟩:=vW H r a b;exact⟨x,_,_,rfl,c,I⟩
  .cases h
 .cases h
def Ht{v:ae}{a:AV}(H:j4 S V F J fs R s)(r:kQ V F v a)(h:Hr J a=some b):Looks M s.heap (typeOf v) b:=by
 unfold Hr at h;split at h
 .obtain⟨C,d,rfl⟩:=ay.mp h;obtain⟨x,ox,od,rfl,_,I⟩:=lC H r d;exact I.type
 .cases h;cases r with
  |tup e c f r=>exact(Looks.ld (H.lw _ _ e)).andThen (c▸Looks.now)
 .cases h;cases r with
  |lst e c f r=>exact(Looks.ld (H.lw _ _ e)).andThen (c▸Looks.now)
 .cases h
def ka.wp(a:ka S d fn){f:iJ}{vs:jr}(h:fn f l J K X)(fa:kj d true fs A)(H:j4 S V F J fs R s)(b:jV V F vs l):
  kY S A (call (.ref f) vs) (nP S V F fs R K) (oW S V F fs R X) s:=rE (a f l J K X h V F fs R s A vs fa H b)
def ka.less{a:Nat}(b:ka S d fn)(h:d<=a):ka S a fn:=λf l J K X q V F fs R s A vs fa H c=>b f l J K X q V F fs R s A vs (fa.less h) H c
def tF{a:AV}{v:ae}(r:kQ V F v a)(h:q8 KB a J):∃b,v=.bool b/\KB b J:=by
 cases a<;>first|exact h.elim|skip
 cases r;exact⟨_,rfl,h⟩
def RE(ok:ml S)(o:kJ S.B Kf)(t:ka S d fn){a:AV}(fa:kj (d+1) true fs A)(H:j4 S V F J fs R s)(j:kQ V F va a)(c:kQ V F vb (.ref k))(h:Po Kf fn a k J KB X):
  kY S A (contains vb va) (s9 S.jR S.B V F fs R KB) (oW S V F fs R X) s:=by
 have E:A.units+100<cLine:=by have:=fa.units;show A.units+100<9900;omega
 unfold Po at h;split at h
 .rename_i els i;have⟨e,l,m,q⟩:=jo h;obtain rfl:=o_ l;cases c with
  |ref n=>exact tA (H.setAt ok n i) (nM H.lw j) m (by omega) λtk=>.here (H.tok tk) q
 .rename_i els G i;have⟨e,l,m,q⟩:=jo h;obtain rfl:=o_ l;cases c with
  |ref n=>exact tA (H.Tf ok n i) (nM H.lw j) m (by omega) λtk=>.here (H.tok tk) q
 .rename_i C dl i;have⟨hi,h⟩:=h;have⟨f,u,h⟩:=jo h;obtain⟨x,ox,od,rfl,K,I⟩:=lC H c hi;refine Ba (o.here H) I u (ai ((t.less (eo d)).wp h fa H (.cons c (.cons j .nil))) (λv L p=>?_) λ_ _ e=>e);have⟨jF,F',av,w,g,y,r,z⟩:=p;obtain⟨b,rfl,D⟩:=tF r z;exact dL ⟨jF,F',w,g,y,D⟩
 .exact h.elim
def zS{a:AV}{b:aY}(H:j4 S V F J fs R s)(m:kQ V F va a)(o:kQ V F vb (.ref k))(d:listAt J k=some l)(e:qN a (.lst l)=some b):
  ∃x ys as h,Reads s.heap va x as/\Reads s.heap vb (.list ys) h/\x.depth<=20/\x.canLay0=true/\PyData.canLayAll0 ys=true/\b=ys.any λy=>PyData.eqv y x:=by
 unfold listAt at d;split at d
 .rename_i l' p;cases d;cases o with
  |ref q=>
   have⟨vs,n,r,t⟩:=H.cells k _ _ q p;unfold qN at e;split at e
   .rename_i x ys i c;split at e
    .rename_i f;cases e;simp only[AV.pd]at c;have⟨u,j,g⟩:=ay.mp c;cases g;have⟨as,w⟩:=m.reads H.lw i;have⟨h,z⟩:=jV.reads H.lw t j;exact⟨_,_,_,_,w,Reads.list r rfl rfl z,f.1,f.2.1,f.2.2,rfl⟩
    .cases e
   .rename_i x ys i c;simp only[AV.pd]at c;have⟨u,j,g⟩:=ay.mp c;cases g
   .cases e
 .cases d
def ug{x:iJ}(a:kJ S.B Kf)(H:j4 S V F J fs R s)(h:tE Kf x=true):∃o,s.heap.get? x=some o/\o.cls≠.type "tuple":=by
 unfold tE at h;split at h
 .rename_i o e;exact⟨o,a.here H _ _ e,by simpa using h⟩
 .cases h
def IZ(ok:ml S)(q:kJ S.B Kf)(t:ka S d fn){b:AV}(c:∀{M:fL}{A:bO}{E:nz}{s:aj}{a b:ae}{Q:nz},wpAny M A (richCompare op a b) Q E s->wpAny M A (compareOp op a b) Q E s)
  (u:∀nm,Hs op=some nm->nm=(cmpInfo op).2.1) (fa:kj (d+1) true fs A) (H:j4 S V F J fs R s) (i:kQ V F va (.ref k)) (l:kQ V F vb b) (h:xR Kf fn op k b J K X):
  kY S A (compareOp op va vb) (nP S V F fs R K) (oW S V F fs R X) s:=by
 have hu:A.units+100<cLine:=by have:=fa.units;show A.units+100<9900;omega
 unfold xR at h;split at h
 .rename_i els o;obtain⟨rfl,h⟩:=h;split at h
  .rename_i j;split at h
   .rename_i k8 w;have⟨y,z,m⟩:=h;cases i with
    |ref D=>
     cases l with
     |ref G=>exact MB (H.setAt ok D o) y (H.setAt ok G w) z (by omega) λd v L=>.here H.drawn (.bool _) (m v L)
   .exact h.elim
  .exact h.elim
 .rename_i C dl o;have⟨hi,h'⟩:=h;have⟨nm,N,O⟩:=jo h';have⟨f,P,m⟩:=jo O;have⟨tb,T,n,U⟩:=jo m;obtain⟨x,ox,od,rfl,hx,I⟩:=lC H i hi;obtain rfl:=u nm N;refine c (M2 (by omega) (q.here H) I (Ht H l T) n P (ai ((t.less (eo d)).wp U fa H (.cons i (.cons l .nil))) (λv s' p=>?_) λ_ _ e=>e));have⟨jF,F',av,W,g,Y,r,Z⟩:=p;obtain⟨b,rfl,kb⟩:=tF r Z;exact⟨λe=>(nomatch e),jF,F',_,W,g,Y,.bool _,kb⟩
 .exact h.elim
def P7(ok:ml S)(i:kJ S.B Kf)(n:ka S d fn):∀op a b J K X,IY Kf fn op a b J K X->∀(V:jj) (F:jn) (fs:jS) (R:mO) (s:aj) (A:bO) (va vb:ae),kj (d+1) true fs A->j4 S V F J fs R s->kQ V F va a->kQ V F vb b->
  kY S A (compareOp op va vb) (nP S V F fs R K) (oW S V F fs R X) s:=by
 intro op a b J K X h V F fs R s A va vb fa H c f;have O:A.units+100<cLine:=by have:=fa.units;show A.units+100<9900;omega
 unfold IY at h;split at h
 .rcases o0 h with⟨l,o,h⟩|h
  .have⟨v,e,q⟩:=jo h;obtain⟨x,ys,as,I,r,t,L,m,u,rfl⟩:=zS H c f o e;exact in_list_reads t r u m (by have m:=dT (PyData.depthAll ys) x.depth;omega) (.here H (.bool _) q)
  .show wpAny _ _ (do return Value.bool (<-contains vb va)) _ _ _;refine G (ai (RE ok i n fa H c f h) (λv M p=>ac ?_) λ_ _ e=>e);have⟨jF,F',w,g,z,k⟩:=p;exact⟨jF,F',_,w,g,z,.bool _,k⟩
 .rcases o0 h with⟨l,o,h⟩|h
  .have⟨v,e,q⟩:=jo h;obtain⟨x,ys,as,I,r,t,L,m,u,rfl⟩:=zS H c f o e;exact notIn_list_reads t r u m (by have m:=dT (PyData.depthAll ys) x.depth;omega) (.here H (.bool _) q)
  .show wpAny _ _ (do return Value.bool (!(<-contains vb va))) _ _ _;refine G (ai (RE ok i n fa H c f h) (λv M p=>ac ?_) λ_ _ e=>e);have⟨jF,F',w,g,z,k⟩:=p;exact⟨jF,F',_,w,g,z,.bool _,k⟩
 .exact IZ ok i n cmp_ofEq (λnm e=>by cases e;rfl) fa H c f h
 .exact IZ ok i n cmp_ofNotEq (λnm e=>by cases e;rfl) fa H c f h
 .cases c;cases f;exact gt_int (.here H (.bool _) h)
 .cases c;cases f;exact lt_int (.here H (.bool _) h)
 .cases c;cases f;have⟨n1,n2,q⟩:=h;rename_i x y;by_cases j:x=y
  .subst j;rw[cH rfl]at q;exact wpAny_is_ref_self (.here H (.bool _) q)
  .rw[dJ j]at q;have⟨ox,C,D⟩:=ug i H n1;have⟨N,E,_⟩:=ug i H n2;exact wpAny_is_ref_other j C E D (.here H (.bool _) q)
 .cases c;cases f;have⟨n1,n2,q⟩:=h;rename_i x y;by_cases j:x=y
  .subst j;rw[cH rfl]at q;exact wpAny_isNot_ref_self (.here H (.bool _) q)
  .rw[dJ j]at q;have⟨ox,C,D⟩:=ug i H n1;have⟨N,E,_⟩:=ug i H n2;exact wpAny_isNot_ref_other j C E D (.here H (.bool _) q)
 .exact h.elim
def uK (z:Str):jy:=z.cps.toList.map λc=>.str ⟨#[c]⟩
def Holds.I0{a:iJ}{c:j3}(X:j4 S V F J fs R s)(k:V[i]?=some a)(h:J[i]?=some c)(l:c≠.dead)(t:s.heap.get? a=some o):
  j4 S V F (J.set i .dead) fs ((a,o)::R) s:=by
 have u:=X.live k h l;have⟨w,x⟩:=X.new a u;have q:=nG V (J.set i .dead) fs R a o;have sub:(kz V (J.set i .dead) fs R).Sublist (kz V J fs R):=(yU i).append (.refl _);have nd:=X.nd;unfold kz at nd;have⟨y,B,z⟩:=aK.mp nd;have na:a∉kz V (J.set i .dead) fs R:=λm=>by
  rcases ba.mp m with m|m
  .have⟨j,d,n,f,A⟩:=vu m;by_cases g:i=j
   .grind
   .rw[ce g]at f;exact g (s7 y k n h f l A)
  .exact z a (lx k h l) a m rfl
 exact{
  base:=X.base,lw:=X.lw,old:=X.old,lim:=X.lim,bare:=X.bare,os:=X.os,len:=by simp[X.len],nd:=q.nodup_iff.mpr (aL.mpr ⟨na,X.nd.sublist sub⟩)
  new:=λb m=>(af.mp (q.mem_iff.mp m)).elim (λe=>e▸⟨w,x⟩) λm=>X.new b (sub.subset m)
  there:=λb m=>(af.mp (q.mem_iff.mp m)).elim (λe=>e▸⟨o,t⟩) λm=>X.there b (sub.subset m)
  cells:=λj b d n f=>by
   by_cases g:i=j
   .subst g;rw[cK (aC.mp h).1]at f;cases f;trivial
   .rw[ce g]at f;exact X.cells j b d n f
  frames:=X.frames,res:=λp r=>(af.mp r).elim (λe=>e▸t) λr=>X.res p r,tabs:=X.tabs,mS:=X.mS}
def xS{I:iJ}{x:Str}{t:Tok}{cond:jW->Prop}:∀(l:jy) (i:Nat) (o:dq) (c:jj) (d:jn),(uK x).drop i=l->o.cls=.type "str_ascii_iterator"->o.data=.fields #[.str x t,.int i 0]->mj S 0 cond (.ref I) l c d [(I,o)]
 |[],i,o,c,d,r,f,h=>by
  intro jF F' J fs R s A g fa y H;have j:=H.res (I,o) (.head _);have z:x.cps[i]?=none:=by have B:=cq List.length r;simp only[uK,eV,ah,aQ,bL]at B;exact fv (by omega)
  exact wpAny_pyNext_ascii_end (fa.calm rfl) ⟨o,j,f,h⟩ z λh' e=>⟨rfl,jF,F',.refl _ _,H.GO (t:=s.toks) λb x k C=>e b x k C⟩
 |av::l,i,o,c,d,r,f,h=>by
  intro jF F' J fs R s A g fa y H;have j:=H.res (I,o) (.head _);have m:(uK x)[i]?=some av:=by
   have:((uK x).drop i)[0]?=some av:=by rw[r];rfl
   rw[c8,fc]at this;exact this
  have D:(uK x).drop (i+1)=l:=by rw[<-dS,r];rfl
  unfold uK at m;rw[bP,ax]at m;obtain⟨L,n,rfl⟩:=ay.mp m;refine wpAny_pyNext_ascii_item ⟨o,j,f,h⟩ n λh' p E=>?_;obtain⟨o',F,u,G⟩:=p;have K:=H.uL (t:=s.toks+1) (o':=o') (λb x k e=>E.extBut b x k e) F;refine⟨_,jF,F',[(I,o')],rfl,.refl _ _,.str _ _,K,λM N O P iS e_ Q T U a V w q=>?_,?_⟩
  .exact nX rfl (w.res (I,o') (.head _)) "str_ascii_iterator" u (by tm_at"d") (q _ w)
  .exact xS l (i+1) o' jF F' D u G
def q9 (Kf:Frag)(fn:sY):D5:=λit J K=>match it with
 |.str z=>z.cps.all (·<128)=true/\K (uK z) (λ_=>True) J
 |.ref k=>(match J[k]? with
  |some (.inst C _)=>lG J k=some C/\ky (lq Kf C "__iter__") λf=>fn f [.ref k] J (λr g_=>match r with
   |.ref j=>(match g_[j]? with
    |some (.iter i 0)=>(match g_[i]? with
     |some (.list l)=>K l (λl8=>l8[i]?=some (.list l)) (g_.set j .dead)
     |_=>False)
    |_=>False)
   |_=>False) wW
  |_=>False)
 |_=>False
def EL(X:kJ S.B Kf)(Y:ka S d fn):qO S (d+1) (q9 Kf fn):=by
 intro it J K h V F fs R s A v E fa H r;unfold q9 at h;split at h
 .rename_i z;have⟨Z,q⟩:=h;cases r with
  |str _ t=>apply wpAny_pyIter_ascii Z;have ho:=am s.heap (o:={cls:=.type "str_ascii_iterator",data:=.fields #[.str z t,.int 0 0]}) rfl;have c:=H.oU (t:=s.toks) (λb o e=>ad _ e) (aq (ao _)) ho;refine⟨V,F,[(s.heap.objs.size,_)],J,_,_,.refl _ _,c,trivial,⟨λG L M N iL O GQ Q E g w m q=>wpAny_pyIter_striter_ascii (x:=z) (t:=t) (i:=0) ⟨_,m.res _ (.head _),rfl,rfl⟩ q,mj.up (xS _ 0 _ V F rfl rfl rfl)⟩,q⟩
 .rename_i k;split at h
  .rename_i C dl e2;have⟨hi,h⟩:=h;have⟨f,hf,h⟩:=jo h;obtain⟨x,ox,od,rfl,hx,I⟩:=lC H r hi;refine w_ (X.here H) I hf (qt (ai ((Y.less (eo d)).wp h fa H (.cons r .nil)) (λv s' p=>?_) λ_ _ e=>e));obtain⟨jF,F',av,g_,g,c,y,a⟩:=p;split at a
   .rename_i j;split at a
    .rename_i i D;split at a
     .rename_i l u;cases y with
      |ref P=>
       rename_i T;have⟨b,U,W⟩:=c.cells j T _ P D;refine⟨"list_iterator",_,⟨_,W,rfl⟩,slot_listiter_next.lookup,?_⟩;have jN:=c.I0 P D (by intro h;cases h) W;have W_:j≠i:=λe=>by subst e;rw[D]at u;cases u
       have ZS:(g_.set j .dead)[i]?=some (.list l):=by rw[ce W_];exact u
       refine⟨jF,F',[(T,_)],_,l,_,g,jN,ZS,⟨λG L M N iL O GQ Q E g w m q=>fA (l:=b) (i:=0) ⟨_,m.res _ (.head _),rfl,rfl⟩ q,?_⟩,a⟩;refine mj.up (rV (V:=jF) (F:=F') (jm:=l) (λq=>?_) (λG L M N iL O g w m=>?_) l 0 _ jF F' (.refl _ _) (by simp) rfl rfl)
       .subst q;have⟨vs,n,hl,_⟩:=c.cells i b _ U u
        grind
       .have⟨qo,n',pV,y⟩:=m.cells i b _ (g.th U) w;exact⟨qo,⟨_,pV,rfl,n',rfl⟩,y⟩
     .exact a.elim
    .exact a.elim
   .exact a.elim
  .exact h.elim
 .exact h.elim
@[irreducible] def qh (Kf:Frag) (fn:sY) (o i v:AV) (J:jW) (K:jW->Prop) (X:KX):Prop:=match o with
 |.ref k=>(match J[k]? with
  |some (.list l)=>(match i with
   |.int j=>0<=j/\j<l.length/\l.length<=1000/\K (J.set k (.list (l.set j.toNat v)))
   |_=>False)
  |some (.inst C _)=>lG J k=some C/\noSeq Kf C=true/\ky (lq Kf C "__setitem__") λf=>fn f [.ref k,i,v] J (λ_ g_=>K g_) X
  |_=>False)
 |_=>False
@[irreducible] def EM (Kf:Frag) (fn:sY) (a b:AV) (J:jW) (K:KV) (X:KX):Prop:=match a with
 |.ref k=>(match J[k]? with
  |some (.set els)=>(match b with
   |.ref j=>k≠j/\(match J[j]? with
    |some (.set k8)=>(∀f∈els,f.jJ=false)/\(∀f∈k8,f.jJ=false)/\(∀f∈k8,f≠.many [])/\els.length+k8.length<=31/\K (.ref k) (J.set k (.set (ku els k8)))
    |_=>False)
   |_=>False)
  |some (.inst C _)=>lG J k=some C/\selfFirst Kf C=true/\ky (lq Kf C "__ior__") λf=>fn f [.ref k,b] J (λr g_=>match r with|.ref j=>K (.ref j) g_|_=>False) X
  |_=>False)
 |_=>False
def zT (Kf:Frag)(fn:sY)(o i:AV)(J:jW)(K:KV)(X:KX):Prop:=match o with
 |.ref k=>ky (lG J k) λC=>ky (lq Kf C "__getitem__") λf=>fn f [.ref k,i] J K X
 |_=>False
def Bb{l:iJ}{n:Nat}{k:Int}{t:Tok}{v:ae}{Q:Unit->aj->Prop}(a:s.heap.get? l=some {cls:=.type "list",data:=.seq items n})
  (c:0<=k) (d:k<2 ^ 63) (h:k<items.size) (e:Q () {s with heap:=s.heap.update l (Obj.mapSeq (·.setIfInBounds k.toNat v))}):kY S A (setItem (.ref l) (.int k t) v) Q E s:=by
 have b:s.heap.IsList l items:=⟨_,a,rfl,n,rfl⟩
 unfold setItem
 try with_reducible refine aF ?_
 first|refine G (ac ?_)|skip
 refine G (wpAny_sequenceKey b.typeIs (by decide) ?_);refine G (b8 (name:=Str.ofString "__setitem__") b.typeIs slot_list_setitem
  (bn slot_list_setitem b.typeIs entry_list_setitem ?_ (args_list_setitem _ _ _)))
 show wpAny _ _ (Builtin.List.listSubscript? (.int k t)>>=_) _ _ s;refine G (wpAny_listSubscript_int (fitsIndex_of c d) ?_);clear d;obtain⟨j,rfl⟩:=Int.eq_ofNat_of_zero_le c;have f:j<items.size:=by omega
 have g:=cO f;refine G (G (wpAny_seqItemAt a rfl (ac ?_)));rw[g];refine G (wpAny_setSeqItemAt a rfl ?_)
 first
  |exact G (ac (ac ⟨.none,rfl,ac e⟩))
  |exact ac ⟨.none,rfl,ac e⟩
def jV.set{v:ae}{a:AV}(h:kQ V F v a):∀{vs:jr}{l:jy}(n:Nat),jV V F vs l->jV V F (vs.set n v) (l.set n a)
 |_,_,_,.nil=>.nil
 |_,_,0,.cons _ t=>.cons h t
 |_,_,n+1,.cons g t=>.cons g (t.set h n)
def Hu(ok:ml S)(L:kJ S.B Kf)(M:ka S d fn){o i v:AV}{m u w:ae}{KS:jW->Prop}(fa:kj (d+1) true fs A)(H:j4 S V F J fs R s)(b:kQ V F m o)(y:kQ V F u i)(z:kQ V F w v)(h:qh Kf fn o i v J KS X):
  kY S A (setItem m u w) (λ_ D=>∃jF F' a,j8 V jF F F'/\j4 S jF F' a fs R D/\KS a) (oW S V F fs R X) s:=by
 unfold qh at h;split at h
 .rename_i k;split at h
  .rename_i l c;split at h
   .rename_i j;have⟨N,W,Y,q⟩:=h;cases b with
    |ref E=>
     cases y with
     |int _ t=>
      have⟨vs,n,G,K⟩:=H.cells k _ _ E c;have Z:vs.size=l.length:=by have:=K.length;simpa using this
      refine Bb G N (by omega) (by omega) ⟨V,F,_,.refl _ _,H.P5 E c G ?_,q⟩;rw[Array.toList_setIfInBounds];exact K.set z _
   .exact h.elim
  .rename_i C dl c;have⟨hi,O,h'⟩:=h;have⟨f,P,Q⟩:=jo h';obtain⟨x,ox,od,rfl,hx,I⟩:=lC H b hi;refine CY (L.here H) I O P (ai ((M.less (eo d)).wp Q fa H (.cons b (.cons y (.cons z .nil)))) (λ_ D p=>?_) λ_ _ e=>e);have⟨jF,F',av,a,g,T,r,U⟩:=p;exact⟨jF,F',a,g,T,U⟩
  .exact h.elim
 .exact h.elim
def M5(ok:ml S)(m:kJ S.B Kf)(D:ka S d fn){a b:AV}(fa:kj (d+1) true fs A)(H:j4 S V F J fs R s)(n:kQ V F va a)(u:kQ V F vb b)(h:EM Kf fn a b J K X):
  kY S A (inplaceOp .BitOr va vb) (nP S V F fs R K) (oW S V F fs R X) s:=by
 have E:A.units+8<cLine:=by have:=fa.units;show A.units+8<9900;omega
 unfold EM at h;split at h
 .rename_i k;split at h
  .rename_i els c;split at h
   .rename_i j;have⟨o,h⟩:=h;split at h
    .rename_i Z w;have⟨G,L,M,N,q⟩:=h;cases n with
     |ref i=>
      cases u with
      |ref l=>
       rename_i x y;have O:x≠y:=λe=>by subst e;exact o (s7 (aK.mp (show(jT V J++(pC fs++R.map (·.1))).Nodup from H.nd)).1 i l c w (by intro h;cases h) (by intro h;cases h))
       exact Te (H.setAt ok i c) (H.setAt ok l w) O G L M N E λh' dd m P=>.here (H.xJ (t:=s.toks) ok i c m P) (.ref i) q
    .exact h.elim
   .exact h.elim
  .rename_i C dl c;have⟨hi,Q,h'⟩:=h;have⟨f,T,U⟩:=jo h';obtain⟨x,ox,od,rfl,hx,I⟩:=lC H n hi;refine M4 (m.here H) I Q T (ai ((D.less (eo d)).wp U fa H (.cons n (.cons u .nil))) (λv s' p=>?_) λ_ _ e=>e);have⟨jF,F',av,W,g,Y,r,z⟩:=p;cases av<;>first|exact z.elim|skip
   cases r with
   |ref l=>exact⟨λe=>(nomatch e),jF,F',_,W,g,Y,.ref l,z⟩
  .exact h.elim
 .exact h.elim
def CZ(c:kJ S.B Kf)(e:ka S d fn):MR S (d+1) (zT Kf fn):=by
 intro o i J K X h V F fs R s A n p value a fa g H b j;unfold zT at h;split at h
 .rename_i k;have⟨C,hi,h'⟩:=jo h;have⟨f,l,m⟩:=jo h';obtain⟨x,ox,od,rfl,q,I⟩:=lC H b hi;exact M3 (c.here H) I l (e.wp m fa.in1 H (.cons b (.cons j .nil))) g
 .exact h.elim
def Tw (fE:rT)(fT:GB)(fJ:Rj)(c:nW)(e:Expr)(Y:j9)(J:jW)(K:KV)(X:KX):Prop:=match e with
 |.ListComp iV iO b_ _=>firstAsync iO=false/\BC false fE fT fJ c iV iO b_ Y J (λl g_=>K (.ref g_.length) (g_++[.list l])) X
 |e=>fE c e Y J K X
@[irreducible] def zU (Kf:Frag) (ov:AV) (attr:Str) (J:jW) (K:KV):Prop:=match ov with
 |.ref k=>(match J[k]? with
  |some (.inst C dl)=>(match J[dl]? with
   |some (.dict m)=>mz Kf C attr=true/\ky (m.lookup attr) λa=>yg a=false/\K a J
   |_=>False)
  |_=>False)
 |_=>False
def Pf (g:AV)(K:String->Prop):Prop:=match g with
 |.val (.type t)=>(t="KeyError"∨t="ValueError")/\K t
 |_=>False
def yJ (gl:Str->az AV)(c:nW)(x:Str):az String:=
 if(x==("__debug__":Str))=true∨(x==("__classdict__":Str))=true then Option.none
 else if c.scope.names.lookup x=some .globalImplicit then(match gl x with
  |some (.val (.type t))=>if t="KeyError"∨t="ValueError" then some t else Option.none
  |_=>Option.none)
 else Option.none
def qx (gl:Str->az AV)(fB:PZ)(c:nW):List ExceptHandler->XK->j9->jW->KS->Prop
 |.ExceptHandler (some (.Name x np)) Option.none (M6::EN) hp::iN,e,Y,J,K=>ky (yJ gl c x) λt=>if t=e.name then fB {c with calm:=false} (M6::EN) Y J K (λ_ _ _=>False)else qx gl fB c iN e Y J K
 |_,_,_,_,_=>False
noncomputable def M7(Kf:Frag)(gl:Str->az AV)(fn:sY)(fI:D5)(fE:rT)(fT:GB)(fB:PZ)(c:nW)(st:Stmt)(Y:j9)(J:jW)(K:KS)(X:wM):Prop:=
 c.calm=true/\(match st with
 |.Assign [.Attribute o attr ap] value pos=>pureOf (swapsWith value (some (.Attribute o attr ap)) pos.line (dummy c.scope))=some false/\
   Tw fE fT (uT fE fI) c value Y J (λv iT=>fE c o Y iT (λov jf=>oK Kf ov attr v jf λj1=>K .next Y j1) λx g_=>X x Y g_) λx g_=>X x Y g_
 |.Assign [.Subscript o i ip] value pos=>pureOf (swapsWith value (some (.Subscript o i ip)) pos.line (dummy c.scope))=some false/\
   fE c value Y J (λv iT=>fE c o Y iT (λov jf=>fE c i Y jf (λiv j1=>qh Kf fn ov iv v j1 (λlY=>K .next Y lY) λx g_=>X x Y g_) λx g_=>X x Y g_) λx g_=>X x Y g_) λx g_=>X x Y g_
 |.Assign [.Attribute o attr ap,.Name x xp] value pos=>fE c value Y J (λv iT=>fE c o Y iT (λov jf=>oK Kf ov attr v jf λj1=>m9 c x=true/\K .next ((x,v)::Y) j1) λy g_=>X y Y g_) λy g_=>X y Y g_
 |.AugAssign (.Name x xp) .BitOr value pos=>(x==("__classdict__":Str)||x==("__class__":Str))=false/\uN (c.scope.names.lookup x)=true/\ky (Y.lookup x) λold=>fE c value Y J (λv iT=>EM Kf fn old v iT (λr jf=>m9 c x=true/\K .next ((x,r)::Y) jf) λy g_=>X y Y g_) λy g_=>X y Y g_
 |.AugAssign (.Attribute o attr ap) .BitOr value pos=>fE c o Y J (λov iT=>zU Kf ov attr iT λold jf=>fE c value Y jf (λv j1=>EM Kf fn old v j1 (λr lY=>oK Kf ov attr r lY λoY=>K .next Y oY) λy g_=>X y Y g_) λy g_=>X y Y g_) λy g_=>X y Y g_
 |.Raise (some (.Call (.Name x np) args [] adp)) Option.none pos=>pq args=true/\fE c (.Name x np) Y J (λg iT=>Pf g λt=>oj (λe J K=>fE c e Y J K λy g_=>X y Y g_) args iT λl jf=>l.length<=100/\X ⟨t,false⟩ Y jf) λy g_=>X y Y g_
 |.Try body (h₀::hs) [] [] pos=>c.fn=true/\fB c body Y J K λe kM g_=>e.LE=true/\(e.name="KeyError"∨e.name="ValueError")/\qx gl fB c (h₀::hs) e kM g_ K
 |_=>False)
def zV(q:l7 S d fE)(r:rn S d fT)(u:xF S d fJ){iO:List dP}(w:firstAsync iO=false)
  (h:BC false fE fT fJ c iV iO b_ Y J (λl a=>K (.ref a.length) (a++[.list l])) X):pD S d (eval (.ListComp iV iO b_ pos)) c Y J K X:=by
 intro V F f fs R s A fa y z H;rw[eval_ListComp,w];refine sk (b:=false) (use:=none) q r u h fa y z H λjF F' a l o C cf D B g i E k G I=>?_;obtain⟨m,j,_⟩:=i.top.ns;rw[G]at j;refine⟨m,j,λT L=>?_⟩;have p:=i.To (t:=B.toks) I (λb x M e=>L.extBut b x M e);obtain⟨vs,n,rfl,N⟩:=E;have O:=p.res (D,_) (.head _);have⟨P,Q⟩:=p.vz (c:=.list l) ⟨vs,n,O,N.mono (j8.snoc jF F' D)⟩ (by intro h;cases h);refine⟨_,F',_,_,g.trans Q,P,.ref ?_,k⟩;rw[<-i.len,aR (ao _),cM];rfl
def Kr(a:l7 S d fE)(b:rn S d fT)(f:xF S d fJ){e:Expr}(h:Tw fE fT fJ c e Y J K X):pD S d (eval e) c Y J K X:=by
 unfold Tw at h;split at h
 .exact zV a b f h.1 h.2
 .exact a c _ Y J K X h
def P9{v:ae}{c:AV}{b:Str}(d:kJ S.B Kf)(H:j4 S V F J fs R s)(r:kQ V F v c)(h:zU Kf c b J K):kY S A (getAttr v b expr) (nP S V F fs R K) E s:=by
 unfold zU at h;split at h
 .rename_i k;split at h
  .rename_i C dl e;split at h
   .rename_i m f;have⟨g,h⟩:=h;have⟨a,i,j,q⟩:=jo h;exact BI d H r e f g i (CT j) q
   .exact h.elim
  .exact h.elim
 .exact h.elim
def Hv{g:AV}{a:String->Prop}{v:ae}(r:kQ V F v g)(h:Pf g a):∃t,(t="KeyError"∨t="ValueError")/\a t/\g=.val (.type t)/\v=.type t:=by
 unfold Pf at h;split at h
 .rename_i t;cases r;exact⟨t,h.1,h.2,rfl,rfl⟩
 .exact h.elim
def kj.mark{a:aY}(h:kj d a fs A)(v:az ae):kj d false fs (A.mark v):=⟨h.depth,h.units,h.frames,h.guards,λe=>nomatch e⟩
def Holds.RF{h₀ c:cj}{d:jj}(H:j4 S V F J fs R {s with heap:=h₀})(f:∀b o,h₀.get? b=some o->b∉d->c.get? b=some o)(st:c.StaysIn h')(u:h₀.UpToSlots h')
  (g:(∀L∈d,F L=none/\S.B.H.get? L=none/\L∉jT V J/\L∉R.map (·.1))/\∀L∈d,∃o,h₀.get? L=some o/\∀vs,o.data≠.fields vs):j4 S V F J fs R {s with heap:=h'}:=
 H.slots f st u g.1 λa i=>by
  by_cases h:a∈d
  .have⟨o,e,j⟩:=g.2 a h;have⟨l,k⟩:=u a o e j;exact⟨_,k⟩
  .have⟨o,e⟩:=H.there a (ag _ (aH _ i));exact⟨o,st _ _ (f a o e h)⟩
def Ty{X:String}(a:X="KeyError"∨X="ValueError")(b:T="KeyError"∨T="ValueError"):isSubtype (.type X) (.type T)=pure (decide (T=X)):=by rcases a with rfl|rfl<;>rcases b with rfl|rfl<;>(rw[b5];kernel_rfl)
def Tz(a:T="KeyError"∨T="ValueError"):isSubtype (.type T) (.type "BaseException")=pure true:=by rcases a with rfl|rfl<;>(rw[b5];kernel_rfl)
def TA(a:T="KeyError"∨T="ValueError"):isSubtype (.type ((Manifest.find? T).elim "type" λx=>x.metatype)) (.type "tuple")=pure false:=by
 rcases a with rfl|rfl
 .exact kr_notTuple_KeyError
 .rw[show((Manifest.find? "ValueError").elim "type" λx=>x.metatype)="type" by kernel_rfl,b5];kernel_rfl
def Hw{t:String}(h:yJ gl c x=some t):(t="KeyError"∨t="ValueError")/\(x==("__debug__":Str))=false/\c.scope.names.lookup x=some .globalImplicit/\gl x=some (.val (.type t)):=by
 unfold yJ at h;split at h
 .cases h
 .grind
def Hx{a:ExceptHandler}{iN:List ExceptHandler}{e:XK}{KK:KS}(h:qx gl fB c (a::iN) e Y J KK):∃x f b d g t,a=.ExceptHandler (some (.Name x f)) none (b::d) g/\yJ gl c x=some t/\
  if t=e.name then fB {c with calm:=false} (b::d) Y J KK (λ_ _ _=>False)else qx gl fB c iN e Y J KK:=by
 unfold qx at h;split at h
 .rename_i i;have⟨t,j,h⟩:=jo h
  grind
 .exact h.elim
def M8 (S:Sys)(gl:Str->az AV):Prop:=∀x a,gl x=some a->∀(V:jj) (F:jn) (J:jW) (fs:jS) (R:mO) (s:aj) (M:fL) (A:bO) (Q:nz) (E:nz) (env:Env),
 j4 S V F J fs R s->env.globals=mainGlobals->env.builtins=builtinsNs->(∀v,kQ V F v a->Q v s)->wpAny M A (loadGlobal env x) Q E s
def vX{gl:Str->az AV}{fB:PZ}(D:M8 S gl)(G:∀c l Y J K X,fB c l Y J K X->CN S d (execs l) c Y J K X){env:Env}{own:jj}{K:KS}{E:nz}(fa:kj d c.calm (⟨env,Y,own⟩::fs) A)(e:nC c ⟨env,Y,own⟩)
  {I:iJ}{k:XK}{a0:ae}{a h₀:cj}{g:jj}{l:List Env}(M:k.name="KeyError"∨k.name="ValueError") (i:∀b o,h₀.get? b=some o->b∉g->a.get? b=some o)
  (j:(∀L∈g,F L=none/\S.B.H.get? L=none/\L∉jT V J/\L∉R.map (·.1))/\∀L∈g,∃o,h₀.get? L=some o/\∀vs,o.data≠.fields vs):
  ∀(N:List ExceptHandler) (s:aj),qx gl fB c N k Y J K->j4 S V F J (⟨env,Y,own⟩::fs) R {s with heap:=h₀}->Heap.FlyingW a l I (.type k.name) a0 s.heap->h₀.UpToSlots s.heap->
   kY S A (handleBy (.ref I) env N) (qu S V F env own fs R K) E s
 |[],s,h,_,_,_=>by unfold qx at h;exact h.elim
 |hd::iN,s,h,m,f,u=>by
  obtain⟨x,np,M6,EN,hp,t,rfl,O,h⟩:=Hx h;have⟨n,P,Q,w⟩:=Hw O;have H:=Holds.RF m i f.1 u j;apply wpAny_handleBy_builtin (X:=k.name) (T:=t) (b:=decide (t=k.name)) (Tz n) (TA n) (Ty M n);refine wpAny_Name ?_ P;have y:loadName env x=loadGlobal env x:=by
   unfold loadName;have U:env.scope.kind=.function:=H.top.kind;have W:env.kindOf x=some .globalImplicit:=by show env.scope.names.lookup x=_;rw[e.1];exact Q
   simp only[Env.blockKind,U,ScopeKind.isAnnotationScope,io,au,bD,W]
  rw[y];refine D x _ w V F J _ R s _ _ _ _ env H e.2.1 e.2.2.1 λv r=>?_;cases r;refine⟨rfl,f.there,?_⟩;by_cases q:t=k.name
  .rw[aB q]at h;rw[cH q,aB rfl];refine lands_againW f λh' C Z=>?_;have H':=Holds.RF (s:=s) m i C.1 (u.trans Z) j;exact ai (G _ _ Y J K _ h V F env own fs R _ _ (fa.mark _) e H') (λ_ _ p=>p) λ_ _ p=>let ⟨_,_,_,_,_,_,_,z⟩:=p;z.elim
  .rw[aA q]at h;rw[dJ q,aA (by simp)];exact vX D G fa e M i j iN s h m f u
def Ks(C:M8 S gl)(o:∀c l Y J K X,fB c l Y J K X->CN S d (execs l) c Y J K X){a:p6}{h₀:ExceptHandler}{f:List ExceptHandler}{K:KS}{X:wM}(D:c.fn=true)
  (h:fB c a Y J K λe b q=>e.LE=true/\(e.name="KeyError"∨e.name="ValueError")/\qx gl fB c (h₀::f) e b q K):CN S d (exec (.Try a (h₀::f) [] [] pos)) c Y J K X:=by
 intro V F env own fs R s A fa i H;refine wpAny_Try_except (ai (o _ _ _ _ _ _ h V F env own fs R s A fa i H) (λfl E p=>?_) λx E p=>?_)
 .cases fl with
  |next=>exact ac p
  |_=>exact p
 .have⟨jF,F',q,b,k,g,fl,G,I,L⟩:=p;obtain⟨W,Z,rfl,M,fl⟩:=fl;rcases fl with⟨j,_⟩|⟨_,r,a0,Ls,b1,N,t,u,O⟩
  .rw[G]at j;cases j
  have w:=i.2.2.2.2.2 D;have y:∀m:j9,ls (⟨env,m,own⟩::fs)=env::ls fs:=λm=>by unfold ls;rw[cL,aB (show ma.isFn ⟨env,m,own⟩=true from w)];rfl
  have z:=y Y;have B:=y b;have P:=aG.mp w;rw[B]at t;refine wpAny_looks_onW (fa.frames.trans (cq some z)) P t λj Q T=>wpAny_landsW Q λh2 n U=>?_;refine ai (vX (c:=c) (own:=own) C o (A:=A) (Y:=b) ⟨fa.depth,fa.units,fa.frames.trans (cq some (z.trans B.symm)),fa.guards,fa.calm⟩ i I N O (h₀::f) _ L M n (u.trans (T.trans U))) (λ_ _ p=>p.grow g) λ_ _ e=>e
section
variable {K:KS}{X:wM}{own:jj}
def M9{t:Env->Sem ae}{e:KV}(h:pD S d t c Y J e (λx l=>X x Y l))(fa:kj d c.calm (⟨env,Y,own⟩::fs) A)(m:nC c ⟨env,Y,own⟩)
  (H:j4 S V F J (⟨env,Y,own⟩::fs) R s) (g:j8 mG V mQ F) (q:∀a b v av f i,j8 mG a mQ b->j8 V a F b->j4 S a b f (⟨env,Y,own⟩::fs) R i->kQ a b v av->e av f->Q v i):
  kY S A (t env) Q (oF S mG mQ env own fs R X) s:=
 ai (h V F ⟨env,Y,own⟩ fs R s A fa m rfl H) (λv i p=>let ⟨a,b,av,f,j,n,r,k⟩:=p;q a b v av f i (g.trans j) j n r k) λ_ _ p=>(og.toS (WU:=wW) p).grow g
def TC{a:Type}{t:Sem a}{Q b:a->aj->Prop}(g:j8 mG V mQ F)(h:wpAny M A t b (oW S V F (⟨env,Y,own⟩::fs) R λx d=>X x Y d) s)(q:∀v c,b v c->Q v c):wpAny M A t Q (oF S mG mQ env own fs R X) s:=ai h q λ_ _ p=>(og.toS (WU:=wW) p).grow g
def EO{a:jj}{b:jn}{c:jW}{d:j9}{jw:aj}(g:j8 V a F b)(H:j4 S a b c (⟨env,d,own⟩::fs) R jw)(k:K .next d c):qu S V F env own fs R K .next jw:=⟨a,b,c,d,.next,g,H,trivial,k⟩
def Hy(ok:ml S)(C:kJ S.B Kf)(l9:ka S d fn)(qj:M8 S gl){fI:D5}(hI:qO S (d+1) fI):∀fE fT fB,l7 S (d+1) fE->rn S (d+1) fT->RC S (d+1) fB->IS S (d+1) (M7 Kf gl fn fI fE fT fB):=by
 intro fE fT fB b hT hB c st Y J K X h V F env own fs R s A fa a H;obtain⟨hc,h⟩:=h;have ft:∀Y,kj (d+1) true (⟨env,Y,own⟩::fs) A:=λkM=>by have:=fa.vars kM;rw[hc]at this;exact this
 split at h
 .obtain⟨O,h⟩:=h;refine plainObj_wpAny_Assign_Attribute (M9 (Kr b hT (pG b hI) h) fa a H (.refl _ _) λI L v av P M g _ r i j=>?_) ((nZ a.1).trans (fH O));refine M9 (b _ _ _ _ _ _ j) fa a r g λQ T ov Xb U e_ m N u x o=>?_;exact qZ C u x (i.mono N) o λj1 mr D z=>EO m D z
 .obtain⟨O,h⟩:=h;refine wpAny_Assign_Subscript (M9 (b _ _ _ _ _ _ h) fa a H (.refl _ _) λI L v av P M g _ r i j=>?_) ((nZ a.1).trans (fH O));refine M9 (b _ _ _ _ _ _ j) fa a r g λQ T ov Xb U e_ m N u x o=>?_;refine M9 (b _ _ _ _ _ _ o) fa a u m λmq nA iv iav j1 mr W Z D GN z=>?_;refine TC W (Hu ok C l9 (ft Y) D (x.mono Z) GN ((i.mono N).mono Z) z) λ_ rB p=>?_;obtain⟨oE,sj,lY,nD,mt,sU⟩:=p;exact EO (W.trans nD) mt sU
 .refine wpAny_Assign_two (M9 (b _ _ _ _ _ _ h) fa a H (.refl _ _) λI L v av P M g _ r i j=>?_);rw[assign_Attribute];refine G (aF (M9 (b _ _ _ _ _ _ j) fa a r g λQ T ov Xb U e_ m N u x o=>?_));refine G (bR (G (aF (qZ C u x (i.mono N) o λj1 mr D z=>wpAny_release ?_))));exact eK (m_ a z.1 D (i.mono N) λrB mt=>EO m mt z.2)
 .obtain⟨Xc,P_,h⟩:=h;obtain⟨old,ho,h⟩:=jo h;have hk:∀y,env.kindOf y=c.scope.names.lookup y:=λy=>by show env.scope.names.lookup y=_;rw[a.1]
  obtain⟨Xc,hx0⟩:=eM.mp Xc;refine wpAny_AugAssign_Name (wp_load (f:=⟨env,Y,own⟩) H ?_ Xc ho λvo ro=>?_)
  .rw[hk];unfold m5;rw[bne,hx0];revert P_;cases c.scope.names.lookup _ with
   |none=>intro h;cases h
   |some kk=>cases kk<;>intro h<;>first|exact .inl rfl|exact .inr rfl|cases h
  refine M9 (b _ _ _ _ _ _ h) fa a H (.refl _ _) λI L v av P M g Xd r i j=>?_;refine TC g (M5 ok C l9 (ft Y) r (ro.mono Xd) i j) λw e_ p=>?_;obtain⟨Q,T,rv,U,m,u,x,o⟩:=p;exact m_ a o.1 u x λrB mt=>EO (g.trans m) mt o.2
 .refine wpAny_AugAssign_AttributeAny (M9 (b _ _ _ _ _ _ h) fa a H (.refl _ _) λI L ov Xb P M g _ r i j=>?_);refine ai (P9 (E:=oF S V F env own fs R X) C r i j) (λvo e_ p=>?_) λ_ _ e=>e;obtain⟨Q,T,old,U,m,u,x,o⟩:=p;refine M9 (b _ _ _ _ _ _ o) fa a u (g.trans m) λmq nA v av j1 mr W Z D GN z=>?_;refine TC W (M5 ok C l9 (ft Y) D (x.mono Z) GN z) λw rB p=>?_;obtain⟨oE,sj,rv,lY,nD,mt,Kl,sU⟩:=p;exact qZ C mt (((i.mono m).mono Z).mono nD) Kl sU λoY CK wY G_=>EO (W.trans nD) wY G_
 .obtain⟨O,h⟩:=h;refine Raise_new (fa.calm hc) (eI (M9 (b _ _ _ _ _ _ h) fa a H (.refl _ _) λI L v av P M g _ r i j=>?_));obtain⟨t,ht,j,_,rfl⟩:=Hv i j;refine mw (first:=[]) (ai (nj (X:=λy g_=>X y Y g_) (λe J K q=>b c e Y J K _ q) j I L ⟨env,Y,own⟩ fs R M A fa a rfl r) (λvs e_ p=>?_) λ_ _ p=>(og.toS (WU:=wW) p).grow g) (mx O);obtain⟨Q,T,l,U,m,u,rs,hl,o⟩:=p;refine⟨nu,?_⟩;have iP:vs.length<=sizeLine:=by rw[rs.length];exact bq hl (by decide)
  have fly:∀(h':cj) (e:iJ),Heap.NewExc e_.heap h' e t->oF S V F env own fs R X (.ref e) {e_ with heap:=h'}:=λh' e n=>((og.toS (WU:=wW) (Holds.MZ (X:=λy g_=>X y Y g_) (k:=t) (tk:=e_.toks) u n o)).grow m).grow g;rcases ht with rfl|rfl
  .exact call_exc_raise excClass_KeyError fly iP
  .exact call_exc_raise excClass_ValueError fly iP
 .exact Ks qj hB h.1 h.2 V F env own fs R s A fa a H
 .exact h.elim
end
def Hz (KN:Int->jW->Prop):KV:=λa J=>match a with|.int n=>0<=n/\n<=100000/\KN n J|_=>False
def ur:jy->az (List aY)
 |[]=>some []
 |.bool b::l=>(ur l).map (b::·)
 |_=>none
def Kt:builtinKind "iter"=none:=by tm_at"d"
def HA:plainId "iter"=true:=by tm_at"d"
def HB:entryFor table "iter"=some Builtin.«iter»:=gU (by kernel_rfl)
def HC(a:ae):argsOk "iter" ⟨[a],[]⟩:=by unfold argsOk;kernel_rfl
def Ku{v:ae}(h:kY S A.in1 (pyIter v) Q E s):kY S A (call (.builtin "iter") [v]) Q E s:=by apply fX Kt HA HB (HC _);unfold Builtin.«iter»;refine G (m:=someArgs "iter" 1 2 _) (bC (a:=[v]) rfl ?_);exact G (ai h (λit b q=>ac ⟨_,rfl,q⟩) λ_ _ e=>e)
def Kv{v:ae}(H:j4 S V F J fs R s)(r:kQ V F v (.ref k))(e:J[k]?=some (.list l))(q:K (.ref J.length) (J++[.iter k 0])):
  kY S A (pyIter v) (nP S V F fs R K) E s:=by
 cases r with
 |ref d=>rename_i a;have⟨vs,n,i,u⟩:=H.cells k a _ d e;apply eJ ⟨_,i,rfl,n,rfl⟩;have f:=am s.heap (o:={cls:=.type "list_iterator",data:=.fields #[.ref a,.int 0 0]}) rfl;have j:=aq (h:=s.heap) (ao _);have m:=H.oU (t:=s.toks) (λb o e=>ad _ e) j f;have⟨p,g⟩:=m.vz (c:=.iter k 0) ⟨a,(j8.snoc V F _).th d,f⟩ (by intro h;cases h);refine⟨_,F,_,_,g,p,.ref ?_,q⟩;rw[<-H.len,aR (ao _),cM];rfl
def EQ{it:ae}{cond:jW->Prop}{Rr:Result->aj->Prop}(fa:kj d true fs A.in1):∀(l:jy) (f:List aY) (V:jj) (F:jn) (h:mO) (s:aj),ur l=some f->mj S d cond it l V F h->cond J->j4 S V F J fs (h++R) s->
  (∀jF F' iL c,j8 V jF F F'->j4 S jF F' J fs (iL++R) c->Rr (.ok (.ret (.bool (f.any id)))) c)->codeAny (p_ S) A (.builtin "any.loop" ⟨[it],[]⟩) Rr s
 |[],f,V,F,h,s,i,k,j,H,q=>by cases i;apply bj ij;rw[aV eu _];refine G (ai (k V F J fs R s _ (.refl _ _) fa j H) (λr c p=>?_) λ_ _ e=>e.elim);obtain⟨rfl,jF,F',g,w⟩:=p;exact G (b9 (ac (q jF F' [] c g w)))
 |a::l,f,V,F,h,s,i,k,j,H,q=>by
  apply bj ij;rw[aV eu _];refine G (ai (k V F J fs R s _ (.refl _ _) fa j H) (λr c p=>?_) λ_ _ e=>e.elim);obtain⟨v,n,o,iL,rfl,t,x,u,_,y⟩:=p;cases a<;>first|(cases i;done)|skip
  rename_i b;obtain⟨m,z,rfl⟩:=ay.mp i;cases x;refine G (aF (dL ?_));refine G (fb ?_);cases b with
  |true=>exact G (b9 (ac (q n o iL c t u)))
  |false=>exact ac ⟨bS eu _,EQ fa l m n o iL c z y j u λB C iS e_ D E=>q B C iS e_ (t.trans D) E⟩
def Holds.C0:∀{a:mO}(X:j4 S V F J fs (a++R) s),j4 S V F J fs R s
 |[],X=>X
 |_::_,X=>Holds.C0 (Holds.vw X)
def M_{v:ae}{a:List aY}(fa:kj (d+1) true fs A)(H:j4 S V F J fs R s)(r:kQ V F v (.lst l))(b:ur l=some a)(q:K (.bool (a.any id)) J):
  kY S A (call (.builtin "any") [v]) (nP S V F fs R K) E s:=by
 apply call_function_tree PySem.F.kind_any PySem.F.plain_any PySem.F.entry_any (PySem.F.args_any1 _);unfold Builtin.«any»;refine G (m:=oneArg "any" _) (ac ?_);refine G (ai (qp (d:=d) (l:=l) (cond:=λ_=>True) H r rfl) (λit c p=>?_) λ_ _ e=>e);have⟨jF,F',f,g,h,i,I⟩:=p;exact ac ⟨bS eu _,EQ fa.in1 l a jF F' f c b I.next i h λj k iS e_ n o=>⟨j,k,_,J,g.trans n,o.C0,.bool _,q⟩⟩
def len_tuple{v:ae}(H:j4 S V F J fs R s)(r:kQ V F v (.tup l))(d:l.length<=100000)(q:K (.int l.length) J):
  kY S A (call (.builtin "len") [v]) (nP S V F fs R K) E s:=by
 obtain⟨a,vs,rfl,c,_,b⟩:=CR H r;apply fX kind_len plain_len entry_len (args_len1 _);apply len_entry_tuple c (by rw[b];omega);rw[b];exact .here (H.tok _) (.int _ _) q
def ER(f:kJ S.B Kf)(i:ka S d fn){v:ae}{b:iJ}(fa:kj (d+1) true fs A)(H:j4 S V F J fs R s)(r:kQ V F v (.ref k))(hi:lG J k=some C)(j:lq Kf C "__len__"=some b)
  (h:fn b [.ref k] J (Hz λn a=>K (.int n) a) X):kY S A (call (.builtin "len") [v]) (nP S V F fs R K) (oW S V F fs R X) s:=by
 obtain⟨x,ox,od,rfl,t,I⟩:=lC H r hi;refine M1 (f.here H) I j (ai (i.wp h fa.in1 H (.cons r .nil)) (λv u p=>?_) λ_ _ e=>e);have⟨jF,F',av,a,g,l,m,c⟩:=p;cases av<;>first|exact c.elim|skip
 cases m;have⟨o,w,q⟩:=c;exact⟨_,_,rfl,o,by omega,λtk=>⟨jF,F',_,a,g,l.tok _,.int _ _,q⟩⟩
abbrev lI(w:cy):dq:={cls:=.type "set",dict:=none,data:=.set #[] 0 (.fresh 0 0 (zr w))}
def zW(h:jg (.ref s.heap.objs.size) {s with heap:=s.heap.push (lI w)}):
  codeAny (model a_ w) A (.call (.builtin "set.__new__") ⟨[.type "set"],[]⟩) (wants jg E) s:=by
 apply bX;refine G (bC PySem.F.newCall_set_0 (ac ⟨bS eH _,bj PySem.F.entry_set_new ?_⟩));rw[aV eH _];unfold Builtin.«set.__new__» Frozenset.newClass;have a:=eT;have⟨b,g,d,tk,os⟩:=s;wp_walk;refine bU (ac ?_);simp only[newObj];refine G (iq (ac ?_));exact ac h
def xa(a:ae)(h:jg (.ref s.heap.objs.size) {s with heap:=s.heap.push (lI w)}):
  codeAny (model a_ w) A (.call (.builtin "set.__new__") ⟨[.type "set",a],[]⟩) (wants jg E) s:=by
 apply bX;refine G (bC (PySem.F.newCall_set_1 a) (ac ⟨bS eH _,bj PySem.F.entry_set_new ?_⟩));rw[aV eH _];unfold Builtin.«set.__new__» Frozenset.newClass;have b:=eT;have⟨c,g,d,tk,os⟩:=s;wp_walk;refine bU (ac ?_);simp only[newObj];refine G (iq (ac ?_));exact ac h
def ET(h:Q (.ref s.heap.objs.size) {s with heap:=s.heap.push (lI w)}):
  wpAny (model a_ w) A (call (.type "set") []) Q E s:=by
 have⟨c,o,p⟩:=bI.mro;have q:=bI.made;have t:=bI.sub;refine dQ (bX ?_);refine ac ⟨Code.quiet_builtin _ (by tm_at"d"),bj gV ?_⟩;rw[Around.under_plain (weight_type_call_type "set" [] []) rfl];have u:=bI.notType;have x:=bI.canCreate;have g:=PySem.F.typeCall_set_0
 repeat (any_goals (first|assumption|wp_step))
 refine b7 (zW (E:=E) (jg:=λa f=>a=.ref s.heap.objs.size/\f={s with heap:=s.heap.push (lI w)}) ⟨rfl,rfl⟩) λr f b=>?_;cases r with
 |error e=>exact b
 |ok fl=>
  cases fl with
  |ret a=>
   obtain⟨rfl,rfl⟩:=b;have i:(s.heap.push (lI w)).get? s.heap.objs.size=some (lI w):=am _ rfl;have j:Shared.TypeIs {s with heap:=s.heap.push (lI w)} (.ref s.heap.objs.size) "set":=⟨_,i,rfl⟩
   have k:=bI.init.lookup;have l:=bI.init.bind (.ref s.heap.objs.size)
   repeat (any_goals (first|assumption|wp_step))
   refine b7 (fN (R:=wants (λr e_=>r=.none/\Q (.ref s.heap.objs.size) e_) E) bI.init.plain ik (check_set_init j ?_)) λm e_ d=>?_
   .unfold Builtin.«set.__init__» noKeywords;wp_walk;exact⟨rfl,h⟩
   .cases m with
    |error e=>exact d
    |ok n=>
     cases n with
     |ret r=>
      obtain⟨rfl,y⟩:=d
      repeat (any_goals (first|assumption|wp_step))
     |_=>exact d.elim
  |_=>exact b.elim
def EU{a:ae}(h:wpAny (model a_ w) A.in1.in1 (Frozenset.updateFrom "set.__init__" s.heap.objs.size a) (λ_ g=>Q (.ref s.heap.objs.size) g) E {s with heap:=s.heap.push (lI w)}):
  wpAny (model a_ w) A (call (.type "set") [a]) Q E s:=by
 have⟨c,t,u⟩:=bI.mro;have x:=bI.made;have y:=bI.sub;refine dQ (bX ?_);refine ac ⟨Code.quiet_builtin _ (by tm_at"d"),bj gV ?_⟩;rw[Around.under_plain (weight_type_call_type "set" [a] []) rfl];have z:=bI.notType;have B:=bI.canCreate;have j:=PySem.F.typeCall_set_1 a
 repeat (any_goals (first|assumption|wp_step))
 refine b7 (xa a (E:=E) (jg:=λb i=>b=.ref s.heap.objs.size/\i={s with heap:=s.heap.push (lI w)}) ⟨rfl,rfl⟩) λr i d=>?_;cases r with
 |error e=>exact d
 |ok fl=>
  cases fl with
  |ret b=>
   obtain⟨rfl,rfl⟩:=d;have k:(s.heap.push (lI w)).get? s.heap.objs.size=some (lI w):=am _ rfl;have l:Shared.TypeIs {s with heap:=s.heap.push (lI w)} (.ref s.heap.objs.size) "set":=⟨_,k,rfl⟩
   have m:=bI.init.lookup;have n:=bI.init.bind (.ref s.heap.objs.size)
   repeat (any_goals (first|assumption|wp_step))
   refine b7 (fN (R:=wants (λr e_=>r=.none/\Q (.ref s.heap.objs.size) e_) E) bI.init.plain ik (check_set_init_1 l ?_)) λo e_ f=>?_
   .unfold Builtin.«set.__init__» noKeywords;generalize C:Frozenset.updateFrom=U at h⊢;wp_walk;refine ai h (λ_ g q=>?_) λ_ _ e=>e;wp_walk;exact⟨rfl,q⟩
   .cases o with
    |error e=>exact f
    |ok p=>
     cases p with
     |ret r=>
      obtain⟨rfl,D⟩:=f
      repeat (any_goals (first|assumption|wp_step))
     |_=>exact f.elim
  |_=>exact d.elim
def xb:jy->az (kr)
 |[]=>some []
 |.str z::l=>(xb l).map (.one z::·)
 |_=>none
def kj.in3{a:aY}(h:kj (d+1) a fs A):kj d a fs A.in1.in1.in1:=⟨by have:=h.depth;show A.depth+20*d<=900;omega,by have:=h.units;show A.units+1+1+1+60*d<=9000;omega,h.frames,h.guards,h.calm⟩
def Holds.Na(ok:ml S)(H:j4 S V F J fs R s):j4 S (V++[s.heap.objs.size]) F (J++[.set []]) fs R {s with heap:=s.heap.push (lI S.w)}/\j8 V (V++[s.heap.objs.size]) F F/\(V++[s.heap.objs.size])[J.length]?=some s.heap.objs.size:=by
 have a:=am s.heap (o:=lI S.w) rfl;have d:∀b o,s.heap.get? b=some o->(s.heap.push (lI S.w)).get? b=some o:=λb o e=>ad _ e;have f:=H.oU (t:=s.toks) d (aq (ao _)) a;have i:∀b o,F b=some o->(s.heap.push (lI S.w)).get? b=some o:=λb o e=>d b o (H.lw b o e);have j:jZ S.prog S.w (s.heap.push (lI S.w)) s.heap.objs.size [] (qg (V++[s.heap.objs.size]) F):=⟨_,#[],0,_,[],a,⟨rfl,rfl,rfl⟩,rfl,.refl _,Bx,λp k=>by simp at k⟩
 have⟨l,g⟩:=f.vz (c:=.set []) (by rw[ok];exact zz (V:=V++[s.heap.objs.size]) i j) (by intro h;cases h);exact⟨l,g,by rw[<-H.len,aR (ao _),cM];rfl⟩
def TD(ok:ml S)(H:j4 S V F J fs R s)(q:K (.ref J.length) (J++[.set []])):kY S A (call (.type "set") []) (nP S V F fs R K) E s:=by have⟨a,g,b⟩:=H.Na ok;exact ET ⟨_,F,_,_,g,a,.ref b,q⟩
def EV(ok:ml S){it:ae}{cond:jW->Prop}{k:Nat}{a:iJ}{Rr:Result->aj->Prop}(fa:kj d true fs A.in1)(D:∀J c,cond J->cond (J.set k c)):
  ∀(l:jy) (es els:kr) (V:jj) (F:jn) (J:jW) (j:mO) (s:aj),xb l=some es->(∀f∈els,f.jJ=true)->els.length+es.length<=31->mj S d cond it l V F j->cond J->j4 S V F J fs (j++R) s->V[k]?=some a->J[k]?=some (.set els)->
  (∀jF F' iL b,j8 V jF F F'->j4 S jF F' (J.set k (.set (ku els es))) fs (iL++R) b->Rr (.ok (.ret .none)) b)->codeAny (p_ S) A (.builtin "set.update.loop" ⟨[.ref a,it],[]⟩) Rr s
 |[],es,els,V,F,J,j,s,m,w,E,y,n,H,o,i,q=>by
  cases m;apply bj dw;rw[aV cQ _];refine G (ai (y V F J fs R s _ (.refl _ _) fa n H) (λr b p=>?_) λ_ _ e=>e.elim);obtain⟨rfl,jF,F',g,M⟩:=p;refine ac (q jF F' [] b g ?_);have e:J.set k (.set (ku els []))=J:=by have⟨N,O⟩:=aC.mp i;show J.set k (.set els)=J;rw[<-O];exact List.set_getElem_self N
  rw[e];exact M
 |x::l,es,els,V,F,J,j,s,m,w,E,y,n,H,o,i,q=>by
  apply bj dw;rw[aV cQ _];refine G (ai (y V F J fs R s _ (.refl _ _) fa n H) (λr b p=>?_) λ_ _ e=>e.elim);obtain⟨v,P,Q,iL,rfl,u,I,B,_,T⟩:=p;cases x<;>first|(cases m;done)|skip
  rename_i z;obtain⟨K,U,rfl⟩:=ay.mp m;have iP:els.length+K.length+1<=31:=by simpa [Nat.add_assoc]using E
  have W:A.in1.units<cLine:=by have:=fa.units;show _<9900;omega
  refine G (aF (uc (B.setAt ok (u.th o) i) (e:=.one z) (nM B.lw I) (λf C=>by rw[w f C];rfl) (by intro h;cases h) ⟨.one z,I⟩ (by omega) W λh' tk bb X Y=>?_));have Z:=B.xJ (t:=tk) (d:=b.drawn) ok (u.th o) i X Y;refine ac ⟨bS cQ _,EV ok fa D l K (lj els (.one z)) P Q _ iL _ U (λf C=>?_) ?_ T (D _ _ n) Z (u.th o) (cK (aC.mp i).1) λjP ke iS e_ jY L=>q jP ke iS e_ (u.trans jY) ?_⟩
  .rcases(nt _ _ _).mp C with h|rfl
   .exact w f h
   .rfl
  .have:=wV els (.one z);omega
  .rw[iF]at L;exact L
def sub_tuple_set:isSubtype (.type "tuple") (.type "set")=pure false:=by rw[b5];kernel_rfl
def sub_tuple_frozenset:isSubtype (.type "tuple") (.type "frozenset")=pure false:=by rw[b5];kernel_rfl
def zY{id:String}{a:iJ}{v:ae}{Q:Unit->aj->Prop}(c:s.TypeIs v T)(f:T="list"∨T="tuple")
  (h:kY S A (pyIter v) (λit g=>codeAny (p_ S) A (.builtin "set.update.loop" ⟨[.ref a,it],[]⟩) (wants (λ_ e_=>Q () e_) E) g) E s):kY S A (Frozenset.updateFrom id a v) Q E s:=by
 unfold Frozenset.updateFrom;have d:∀{i:aY->aj->Prop},i false s->kY S A (Frozenset.isAnySet v) i E s:=λq=>by
  unfold Frozenset.isAnySet;rcases f with rfl|rfl
  .refine G (bN (b:=false) c PySem.F.sub_list_set ?_);exact bN (b:=false) c PySem.F.sub_list_frozenset q
  .refine G (bN (b:=false) c sub_tuple_set ?_);exact bN (b:=false) c sub_tuple_frozenset q
 refine G (d ?_);simp only[au,bD];refine G (cX c ?_);rw[aA (by rcases f with rfl|rfl<;>decide)];refine G (ai h (λit g q=>?_) λ_ _ e=>e);refine G (eR (b7 q λr e_ p=>?_));rcases r with e|(_|_|_|v')
 .exact p
 .exact p.elim
 .exact p.elim
 .exact p.elim
 .exact ac p
def Holds.toF{a:iJ}(H:j4 S V F J fs R s)(b:V[k]?=some a)(c:J[k]?=some (.set els)):∃o,j4 S V F (J.set k (.mP els o)) fs R s:=by have⟨o,vs,l',d,r⟩:=H.cells k a _ b c;exact⟨o,H.setC (h':=s.heap) (t:=s.toks) b c (by intro h;cases h) (by intro h;cases h) (λ_ _ _ e=>e) ⟨vs,l',d,r⟩ ⟨o,d⟩⟩
def Pg(ok:ml S){v:ae}{es:kr}(fa:kj (d+1) true fs A)(H:j4 S V F J fs R s)(r:kQ V F v av)(x:av=.lst l∨av=.tup l)(z:xb l=some es)(B:es.length<=31)
  (q:∀o,K (.ref J.length) (J++[.mP (ku [] es) o])):kY S A (call (.type "set") [v]) (nP S V F fs R K) E s:=by
 have⟨b,g,i⟩:=H.Na ok;apply EU;have j:=r.mono g;have C:∃T,(T="list"∨T="tuple")/\Shared.TypeIs {s with heap:=s.heap.push (lI S.w)} v T:=by
  rcases x with rfl|rfl
  .cases j with
   |lst e c D G=>exact⟨"list",.inl rfl,_,b.lw _ _ e,c⟩
  .cases j with
   |tup e c D G=>exact⟨"tuple",.inr rfl,_,b.lw _ _ e,c⟩
 have⟨T,m,n⟩:=C;apply zY n m;have t:rX av (J++[.set []])=some (l,λ_=>True):=by rcases x with rfl|rfl<;>rfl
 refine ai (qp (d:=d) b j t) (λit L p=>?_) λ_ _ e=>e;have⟨jF,F',M,a,N,W,I⟩:=p;have y:(J++[j3.set []])[J.length]?=some (.set []):=by rw[aR (ao _),cM];rfl
 refine EV ok (d:=d) (k:=J.length) fa.in3 (λ_ _ _=>trivial) l es [] jF F' _ M L z (by intro f h;cases h) (by simpa using B) I.next trivial N (a.th i) y λO P iS e_ u Q=>?_
 obtain⟨o,U⟩:=Q.toF ((a.trans u).th i) (cK (aC.mp y).1);refine⟨O,P,_,_,(g.trans a).trans u,U.C0,.ref ((a.trans u).th i),?_⟩;have e:((J++[j3.set []]).set J.length (.set (ku [] es))).set J.length (.mP (ku [] es) o)=J++[.mP (ku [] es) o]:=by grind
 rw[e];exact q o
def C1:builtinKind "set.add"=some .method:=by tm_at"d"
def EW:∃c,Manifest.signature? "set.add"=some c/\∀a b,Bind.checkArgs "set.add" {c with full:="set.add"} ⟨[a,b],[]⟩=pure ():=by
 refine⟨⟨.oneArg,"set.add","add",.self,[⟨"object",.posOnly,true⟩]⟩,?_,λa b=>?_⟩
 .rw[signature?_of (id:="set.add") (n:=['d','d','a']) (o:=['t','e','s']) (by kernel_rfl) PySem.F.owner_set];kernel_rfl
 .kernel_rfl
def C3:Bind.lastOf "set.add"="add":=by unfold Bind.lastOf;simp+decide [String.splitOn,String.splitOnAux]
def Nb:Bind.lastOf "set"="set":=by unfold Bind.lastOf;simp+decide [String.splitOn,String.splitOnAux]
def EX:Manifest.varargsMethods.contains "set.add"=false:=by tm_at"d"
def zZ:isSubtype (.type "set") (.type "module")=pure false:=by rw[b5];kernel_rfl
def yr{a:iJ}{v:ae}{Q:Unit->aj->Prop}(c:s.TypeIs (.ref a) "set")(e:∃o,s.heap.get? a=some o/\o.cls=.type "set"/\∃es d t,o.data=.set es d t)(q:Q () s):wpAny M A (checkBoundCall "set.add" ⟨[.ref a,v],[]⟩) Q E s:=by have⟨f,g,h⟩:=EW;unfold checkBoundCall;rw[g,C1];dsimp only;rw[aA (by decide),C3];refine G (bN (b:=false) c zZ ?_);rw[EX];simp only[gG,au,bD];have⟨o,i,_,es,d,t,j⟩:=e;apply G (m:=isType (.ref a));unfold isType loadHead;refine G (eQ i ?_);rw[j];apply ac;simp only[au,bD];refine G (cX c ?_);dsimp only;rw[Nb];exact bC (h _ _) q
def z0{m a:iJ}{v:ae}(c:s.heap.get? m=some {cls:=.type "builtin_function_or_method",dict:=none,data:=.fields #[.builtin "set.add",.ref a],slots:=#[]})(d:s.TypeIs (.ref a) "set")(f:∃o,s.heap.get? a=some o/\o.cls=.type "set"/\∃es g t,o.data=.set es g t)
  (h:kY S A.in1 (setAdd a v) (λ_ b=>Q .none b) E s):kY S A (call (.ref m) [v]) Q E s:=by
 refine dQ (bX ?_);show wpAny _ _ (callAny (.ref m) ⟨[v],[]⟩) _ _ s;unfold callAny;refine G (dB c ?_);dsimp only;rw[aB (by tm_at"d")];show wpAny _ _ (if(Value.type "builtin_function_or_method" !=Value.type "method")=true then _ else _) _ _ s;rw[aB (by tm_at"d")];refine G (yr d f ?_);refine ac ⟨bS eP.plain _,bj PySem.F.entry_set_add ?_⟩;rw[aV eP.plain _];unfold Builtin.«set.add» Frozenset.oneOther;simp only[cC,bind_assoc];unfold Frozenset.addrOf;refine G (ac ?_)
 try dsimp only
 refine G (ac ?_)
 try dsimp only
 refine G (ai h (λ_ b q=>?_) λ_ _ e=>e);exact ac q
def Nc(ok:ml S){v:ae}{vs:jr}(fa:kj d true fs A)(H:j4 S V F J fs R s)(r:kQ V F v (.bm .setAdd k))(g:jV V F vs l)(h:wN .setAdd k l J K X):
  oq (p_ S) v s/\kY S A (call v vs) (nP S V F fs R K) E s:=by
 have O:A.units+8<cLine:=by have:=fa.units;show A.units+8<9900;omega
 cases r with
 |bm e j=>
  rename_i m a;have n:=H.lw _ _ e;refine⟨λA Q E q=>?_,?_⟩
  .unfold keeperOf;refine G (dB n ?_);dsimp only;rw[aB (by tm_at"d")];exact ac (q _)
  .have h':∃els x,J[k]?=some (.set els)/\l=[x]/\ky (qW x) λe=>(∀f∈els,f.jJ=e.jJ)/\e≠.many []/\els.length<31/\K .none (J.set k (.set (lj els e))):=by
    unfold wN at h;cases b:J[k]? with
    |none=>rw[b]at h;exact h.elim
    |some c=>
     rw[b]at h;cases c with
     |set els=>
      cases l with
      |nil=>exact h.elim
      |cons x l=>
       cases l with
       |nil=>exact⟨els,x,rfl,rfl,h⟩
       |cons y l=>exact h.elim
     |_=>exact h.elim
   obtain⟨els,x,b,rfl,h'⟩:=h';have⟨u,w,z,B,C,q⟩:=jo h';obtain rfl:=o_ w;cases g with
   |cons p g=>cases g;have i:=H.setAt ok j b;have⟨o,es,D,t,l',I,hex,L,_⟩:=id i;apply z0 n i.typeIs ⟨o,I,hex.1,es,D,t,L⟩;exact uc i (nM H.lw p) z B ⟨u,p⟩ C (by show A.units+1<cLine;omega) λh' tk P M N=>.here (H.xJ ok j b M N) .none q
abbrev jX(f_:bM ae)(n:Nat):dq:={cls:=.type "list",dict:=none,data:=.seq f_ n,slots:=#[]}
def EY{it f:ae}{cond:jW->Prop}{Sa:iJ}{Rr:Result->aj->Prop}(fa:kj d true fs A.in1)(k:cond J):
  ∀(l f_:jy) (V:jj) (F:jn) (h:mO) (s:aj) (vs:bM ae) (n:Nat),f_.length+l.length<=100000->mj S d cond it l V F h->j4 S V F J fs (h++(Sa,jX vs n)::R) s->jV V F vs.toList f_->
  (∀jF F' iL i m c,j8 V jF F F'->j4 S jF F' J fs (iL++(Sa,jX i m)::R) c->jV jF F' i.toList (f_++l)->Rr (.ok (.ret f)) c)->codeAny (p_ S) A (.builtin "list.extend.loop" ⟨[.ref Sa,it,f],[]⟩) Rr s
 |[],f_,V,F,h,s,vs,n,u,o,H,j,q=>by apply bj cP;rw[aV bG _];refine G (ai (o V F J fs _ s _ (.refl _ _) fa k H) (λr c p=>?_) λ_ _ e=>e.elim);obtain⟨rfl,jF,F',g,D⟩:=p;exact ac (q jF F' [] vs n c g D (by rw[bh];exact j.mono g))
 |a::l,f_,V,F,h,s,vs,n,u,o,H,j,q=>by
  apply bj cP;rw[aV bG _];refine G (ai (o V F J fs _ s _ (.refl _ _) fa k H) (λr c p=>?_) λ_ _ e=>e.elim);obtain⟨v,E,I,iL,rfl,w,K,L,_,M⟩:=p;have y:=L.nw (iS:=(Sa,jX vs n)::(iL++R)) bx;have z:=y.res (Sa,jX vs n) (.head _);have B:vs.size=f_.length:=by have:=j.length;simpa using this
  simp only[aI]at u;have W:100001<=sizeLine:=by decide
  have N:=bA (Obj.mapSeq (·.push v)) z rfl;have O:=(y.uL (t:=c.toks) (o':=Obj.mapSeq (·.push v) (jX vs n)) (h':=c.heap.update Sa (Obj.mapSeq (·.push v))) (λb x P e=>(bT _ _ (bF P)).trans e) N).nw (iS:=iL++(Sa,Obj.mapSeq (·.push v) (jX vs n))::R) bx.symm;refine G (cY z rfl (ac ⟨bS bG _,?_⟩) (by rw[B];omega) (by rw[fV,B];omega));refine EY fa k l (f_++[a]) E I iL _ (vs.push v) _ (by simp only[bk,aI,bL];omega) M O ?_ λQ T iS i m e_ U mt C=>q Q T iS i m e_ (w.trans U) mt (by rw[cw]at C;exact C);rw[dk];exact jV.append (.one K) (j.mono w)
def Kw(f:kJ S.B Kf)(o:ka S d fn){fl:iJ}{x:iJ}{c:jW->Prop}(fa:kj (d+1) true fs A)(H:j4 S V F J fs R s)(r:kQ V F (.ref x) (.ref k))(hi:lG J k=some C)(i:lq Kf C "__len__"=some fl)
  (h:fn fl [.ref k] J (Hz λn b=>0<=n/\n<=100000/\c b) wW):
  kY S A (List.listLengthHint (.ref x)) (λ_ j=>∃jF F' b,j8 V jF F F'/\j4 S jF F' b fs R j/\c b) E s:=by
 have⟨z,ox,od,e,D,I⟩:=lC H r hi;cases e;have X:=f.here H;have⟨q,L,_⟩:=pH i;unfold List.listLengthHint;refine G (m:=specialOf (.ref x) (Str.ofString "__len__")) (G (I.type.here ((c6 X q).here ?_)));simp only[Option.isSome_some];refine G (b9 ?_);refine G (eF (qt (S:=S) (V:=V) (F:=F) (fs:=fs) (R:=R) ?_));refine ai (ER (K:=λa b=>match a with|.int n=>0<=n/\n<=100000/\c b|_=>False) f o fa H r hi i h) (λv j p=>?_) λ_ _ e=>e
 .have⟨jF,F',av,b,g,u,w,l⟩:=p;cases av<;>first|exact l.elim|skip
  cases w;rename_i n t;have⟨M,N,y⟩:=l;refine G (m:=asInt? (.int n t)) (bC (a:=some n) rfl ?_);dsimp only;have O:100001<=sizeLine:=by decide
  rw[aA (by unfold List.listTooLong;simp only[eL];omega)];exact ac ⟨jF,F',b,g,u,y⟩
def I1 (Kf:Frag)(fn:sY)(k:Nat)(J:jW)(K:jy->jW->Prop):Prop:=
 ky (lG J k) λC=>ky (lq Kf C "__len__") λfl=>q9 Kf fn (.ref k) J λl cond iT=>l.length<=100000/\lG iT k=some C/\fn fl [.ref k] iT (Hz λn g_=>0<=n/\n<=100000/\(cond g_/\K l g_)) wW
def EZ(o:kJ S.B Kf)(u:ka S d fn){v:ae}{a:ae}{n:Nat}(fa:kj (d+1) true fs A)(H:j4 S V F J fs ((Sa,jX #[] n)::R) s)(r:kQ V F v (.ref k))(h:I1 Kf fn k J KL)
  {Rr:Fin->aj->Prop}
  (q:∀it w,(∀A',kj (d+1) true fs A'.in1->codeAny (p_ S) A' (.builtin "list.extend.loop" ⟨[.ref Sa,it,a],[]⟩) (λr e_=>r=.ok (.ret a)/\∃jF F' y vs c l iL,j8 V jF F F'/\j4 S jF F' y fs ((Sa,jX vs c)::(iL++R)) e_/\jV jF F' vs.toList l/\KL l y) w)->
   Rr (.again (.builtin "list.extend.loop" ⟨[.ref Sa,it,a],[]⟩)) w):
  kY S A (List.listExtendWith (.ref Sa) v a) Rr E s:=by
 have⟨C,hi,h⟩:=jo h;have⟨fl,U,h⟩:=jo h;obtain⟨x,ox,od,rfl,hx,I⟩:=lC H r hi;have W:x≠Sa:=λe=>by subst e;have g:=H.res (x,jX #[] n) (.head _);have z:=I.at_;rw[show s.heap.get? x=some (jX #[] n)from g]at z;cases z;have:=I.cls;cases this
 unfold List.listExtendWith;refine G (I.type.here ?_);rw[aA (by unfold List.listSameRef;simp[bF W])];refine G (ai (EL o u (.ref k) J _ h V F fs ((Sa,jX #[] n)::R) s A (.ref x) E fa H r) (λit jw p=>?_) λ_ _ e=>e);have⟨jq,jL,iL,iT,l,cond,D,X,hc,Y,Z,Xf,hh⟩:=p;refine G (aF (ai (Kw o u fa X (r.mono D) Xf U hh) (λK e_ p=>?_) λ_ _ e=>e));have⟨L,M,N,O,P,Xg,kk⟩:=p;have f:∀{mr:aj}{c:Nat},j4 S L M N fs (iL++(Sa,jX #[] c)::R) mr->Rr (.again (.builtin "list.extend.loop" ⟨[.ref Sa,it,a],[]⟩)) mr:=λ{mr c} i=>q it mr λA' yk=>EY (f_:=[]) yk Xg l L M iL mr #[] c (by simpa using Z) (Y.next.mono O) i .nil λoE sj ZX qo j rB nD mt rs=>⟨rfl,oE,sj,N,qo,j,l,ZX,(D.trans O).trans nD,mt.nw bx,by simpa using rs,kk⟩
 have m:∀t:ae,t=.ref C->(["set","frozenset","dict","dict_keys","dict_values","dict_items"].any (t==.type ·))=false:=λt e=>by subst e;rfl
 show wpAny _ _ (if(K||(["set","frozenset","dict","dict_keys","dict_values","dict_items"].any (Value.ref C==.type ·)))=true then _ else _) _ _ _;rw[m _ rfl,gG];cases K with
 |false=>rw[aA (by decide)];exact ac (f P)
 |true=>
  rw[aB rfl];refine G (b9 (G ?_));have i:=P.nw (iS:=(Sa,jX #[] n)::(iL++R)) bx;have g:=i.res (Sa,jX #[] n) (.head _);have Q:=bA (Obj.mapSeq (·.push Value.none)) g rfl;have IX:=bA (Obj.mapSeq (·.pop)) Q rfl;unfold List.listTouch List.listUpdate;refine G (cY g rfl (cY Q rfl ?_));have mt:=i.uL (t:=e_.toks) (o':=Obj.mapSeq (·.pop) (Obj.mapSeq (·.push Value.none) (jX #[] n))) (h':=(e_.heap.update Sa (Obj.mapSeq (·.push Value.none))).update Sa (Obj.mapSeq (·.pop)))
   (λb x T e=>(bT _ _ (bF T)).trans ((bT _ _ (bF T)).trans e)) IX
  exact ac (f (mt.nw bx.symm))
def C4(i:kJ S.B Kf)(j:ka S d fn){v:ae}{Q:jr->aj->Prop}(fa:kj (d+1) true fs A.in1)(H:j4 S V F J fs R s)(r:kQ V F v (.ref k))(h:I1 Kf fn k J KL)
  (q:∀vs c jF F' a l,j8 V jF F F'->j4 S jF F' a fs R c->jV jF F' vs l->KL l a->Q vs c):kY S A (collect v) Q E s:=by
 unfold collect;refine G (eR (bj f5 ?_));rw[aV f6 _];refine G (br ?_);refine ac ⟨bS dY _,bj gW ?_⟩;rw[aV dY _];have m:=am s.heap (o:=jX #[] 0) rfl;have u:=H.oU (t:=s.toks) (λb o e=>ad _ e) (aq (ao _)) m;refine EZ (Sa:=s.heap.objs.size) (n:=0) (KL:=KL) i j fa u r h λit C w=>?_;refine⟨bS bG _,b7 (w A fa) λr e_ p=>?_⟩;obtain⟨rfl,jF,F',a,vs,x,l,iL,g,f,y,z⟩:=p;refine G (dB (f.res (s.heap.objs.size,jX vs x) (.head _)) ?_);exact ac (q _ _ jF F' a l g f.vw.C0 y z)
def vY{g:bM GenState}{dr:_}{os:OsState}{x:iJ}(I:InstAt h x ox C od)(q:Q (.ref C) ⟨h,g,dr,t,os⟩):wpAny M A (typeOf (.ref x)) Q E ⟨h,g,dr,t,os⟩:=I.type.here q
def z3{v:ae}{x:iJ}(b:v=.ref x)(I:InstAt s.heap x ox C od)
  (h:kY S A.in1 (collect v) (λvs a=>vs.length<=100000/\jg (.ref a.heap.objs.size) {a with heap:=a.heap.push {cls:=.type "tuple",data:=.seq vs.toArray}}) E s):
  codeAny (p_ S) A (.call (.builtin "tuple.__new__") ⟨[.type "tuple",v],[]⟩) (wants jg E) s:=by
 subst b;apply bX;refine G (bC (gX _) (ac ⟨bS dZ _,bj gY ?_⟩));rw[aV dZ _];have d:=sub_tuple_self;have f:=init_tuple_lookup;have c:=madeHere_tuple;have⟨i,g,dr,tk,os⟩:=s;unfold Builtin.«tuple.__new__»;generalize j:collect=Cc at h⊢;wp_walk using vY I;refine ai h (λvs a p=>?_) λ_ _ e=>e;have⟨k,q⟩:=p;have l:100001<=sizeLine:=by decide
 show wpAny _ _ (Tuple.tupleExact vs.toArray>>=λv=>ret v) _ _ _;unfold Tuple.tupleExact;refine G (br ?_ (by show vs.toArray.size<=sizeLine;simp only[gC];omega));exact ac q
def HE(j:kJ S.B Kf)(m:ka S d fn){v:ae}(fa:kj (d+2) true fs A)(H:j4 S V F J fs R s)(r:kQ V F v (.ref k))(h:I1 Kf fn k J (λl e=>l.length<=100000/\K (.tup l) e)):
  kY S A (call (.type "tuple") [v]) (nP S V F fs R K) E s:=by
 have⟨C,hi,_⟩:=jo h;have⟨x,ox,od,n,q,I⟩:=lC H r hi;refine iw (Q₁:=λa b=>b.TypeIs a "tuple"/\nP S V F fs R K a b) de (gN _) gw (z3 n I ?_) λa b c=>?_
 .refine C4 j m fa.in3 H r h λvs o jF F' e l g p f i=>?_;refine⟨by rw[f.length];exact i.1,⟨_,am _ rfl,rfl⟩,?_⟩;exact(p.Cv f o.toks i.2).grow g
 .exact⟨c.1,gk a _,object_init_meets de.init.lookup de.made (by decide) S.prog S.w A.in1 _ b ⟨c.1,rfl,c.2⟩⟩
def C5 (K:Frag)(D:iJ):az iJ:=match typeIn K (.ref D)with
 |some (.ref M)=>if instIn K (.ref D) (.type "tuple")==some false then(match findIn K (.ref M) "__instancecheck__" with
   |some (some (.ref f))=>if typeIn K (.ref f)==some (.type "function")then some f else none
   |_=>none)else none
 |_=>none
def C6 (Kf:Frag)(fn:sY)(a:AV)(cv:ae)(J:jW)(K:KV)(X:KX):Prop:=match a,cv with
 |.ref k,.ref D=>ky (lG J k) λC=>if isIn Kf (.ref C) D=true then K (.bool true) J else ky (C5 Kf D) λf=>fn f [.val (.ref D),.ref k] J (q8 λb g_=>K (.bool b) g_) X
 |.tup _,.ref D=>isNotIn Kf "tuple" D=true/\K (.bool false) J
 |.tup _,.type t=>t="int"/\K (.bool false) J
 |.int _,.type t=>t="int"/\K (.bool true) J
 |_,_=>False
def Ph:typeOf (.type "int")=pure (.type "type"):=rfl
def sub_tuple_int:isSubtype (.type "tuple") (.type "int")=pure false:=by rw[b5];kernel_rfl
def sub_int_int:isSubtype (.type "int") (.type "int")=pure true:=by rw[b5];kernel_rfl
def C7(N:kJ S.B Kf)(O:ka S d fn){a:AV}{v y:ae}(fa:kj (d+1) true fs A)(H:j4 S V F J fs R s)(r:kQ V F v a)(h:C6 Kf fn a y J K X):
  kY S A (call (.builtin "isinstance") [v,y]) (nP S V F fs R K) (oW S V F fs R X) s:=by
 have Q:A.in1.units<cLine:=by have:=fa.in1.units;show _<9900;omega
 have XK:=N.here H;unfold C6 at h;split at h
 .rename_i k D;have⟨C,hi,h⟩:=jo h;obtain⟨x,ox,od,rfl,hx,I⟩:=lC H r hi;by_cases j:isIn Kf (.ref C) D=true
  .rw[aB j]at h;exact isi_call (t:=.ref C) XK (λM=>I.type) j (by intro e;cases e) (.here H (.bool _) h)
  .rw[aA j]at h;have⟨f,i,h⟩:=jo h;unfold C5 at i;split at i
   .rename_i Mc U;split at i
    .rename_i W;split at i
     .rename_i f0 Y;split at i
      .rename_i l;cases i;have Z:((Value.ref C:ae)==.ref D)=false:=by
        cases q:((Value.ref C:ae)==.ref D)with
        |false=>rfl
        |true=>exact absurd (by unfold isIn;rw[q];rfl) j
       have n:=looks_typeIn (M:=model S.prog S.w) XK U;have L2:=looks_instIn (M:=model S.prog S.w) XK (aG.mp W);refine call_isinstance_of ?_ (by intro e;cases e);unfold Builtin.«isinstance.nested»;refine G (I.type.here ?_);rw[aA (by rw[Z];decide)];refine G (n.here ?_);rw[aA (by intro h;cases aG.mp h)];unfold Builtins.unionMembers;refine G (G (n.here ?_));rw[aA (by intro h;cases aG.mp h)];apply ac;refine G (L2.here ?_);simp only[au,bD];refine G (wpAny_cRoom Q ?_);apply G (m:=callSpecial? (.ref D) (Str.ofString "__instancecheck__") [.ref x]);refine G (G (n.here ((c6 XK Y).here (aF (G ((bind_fn XK (.ref D) (aG.mp l)).here (G (ai (O.wp h fa.in1 H (.cons (.val _) (.cons r .nil))) (λb s' p=>ac ?_) λ_ _ z=>z))))))));have⟨jF,F',av,g_,g,H',rb,u⟩:=p;obtain⟨bb,rfl,u⟩:=tF rb u;refine G (b9 (G (aF (dL (G (fb (ac ?_)))))));exact⟨jF,F',_,g_,g,H',.bool _,u⟩
      .cases i
     .cases i
    .cases i
   .cases i
 .obtain⟨ta,vs,rfl,⟨to,E,L,_,_⟩,_,_⟩:=CR H r;apply isn_call (T:="tuple") (P:=λh=>∃o,h.get? ta=some o/\o.cls=.type "tuple") XK (λM=>(Looks.ld E).andThen (L▸Looks.now)) h.1 (by intro e;cases e) ⟨to,E,L⟩ (λp k=>tuple_cls p k);exact .here (H.tok _) (.bool _) h.2
 .obtain⟨rfl,q⟩:=h;cases r with
  |tup e c dd rr=>exact call_isinstance (isinstance_false_tuple (by decide) Ph sub_tuple_int) ⟨⟨_,H.lw _ _ e,c⟩,.here (H.tok _) (.bool _) q⟩
 .obtain⟨rfl,q⟩:=h;cases r;exact call_isinstance_yes (Tx:="int") rfl Ph sub_int_int (.here H (.bool _) q)
 .exact h.elim
def E0 (K:Frag)(C:iJ)(mc:ae):aY:=typeIn K (.ref C)==some mc&&findIn K mc "__getattribute__"==some (some (.builtin "type.__getattribute__"))&&
 (if onTheHeap mc then findIn K mc "__getattr__" else some none).isSome&&subIn K mc (.type "type")==some true
def z4 (K:Frag)(D:iJ)(name:Str):az iJ:=match typeIn K (.ref D)with
 |some mc=>if E0 K D mc&&specialIn K (.ref D) "__getattribute__"==some (some (.builtin "type.__getattribute__"))then(match findCls K (.ref D) mc name with
   |some (.val (.ref f))=>if fnIn K f then some f else none
   |_=>none)else none
 |none=>none
def z6 (B:wG):Prop:=∃o es n,B.H.get? cStatics=some o/\o.data=.dict es n/\staticOf B.H "thirdparty.any"=none
def C8:firstUseKey "thirdparty.any"=false:=by tm_at"d"
def Pi(k:z6 S.B)(H:j4 S V F J fs R s):∃m,s.heap.Ns cStatics m/\m "thirdparty.any"=none:=by
 have⟨o,es,n,b,g,c⟩:=k;have⟨m,d,_⟩:=H.lim;refine⟨m,d,?_⟩;have e:staticOf s.heap "thirdparty.any"=m "thirdparty.any":=by have⟨q,U9,h,i,a,_,j⟩:=d;rw[<-j];unfold staticOf;rw[i];dsimp only;rw[a];rfl
 rw[<-e];rcases H.old.old _ o b with x|⟨t,l,vs,more,f,x⟩|⟨_,l,_,z⟩
 .have p:staticOf s.heap "thirdparty.any"=staticOf S.B.H "thirdparty.any":=by unfold staticOf;rw[x,b]
  rw[p];exact c
 .rw[g]at f;cases f
 .rcases z "thirdparty.any" with z|⟨z,_⟩
  .rw[z];exact c
  .rw[C8]at z;cases z
def uD(k:z6 S.B)(H:j4 S V F J fs R s):Looks M s.heap (opaqueClassAbove (.ref C)) none:=by have⟨m,b,c⟩:=Pi k H;have L:Looks M s.heap (nsGet cStatics ("thirdparty.any":Str)) none:=λA Q E e d q=>wpAny_nsGet (b.keeps d) (by rw[c];exact q);exact Looks.andThen (a:=false) (L.andThen .now) (by show Looks M s.heap (if(!false)=true then pure none else _) none;rw[aB (show(!false)=true from rfl)];exact .now)
def Bc{f:iJ}{Q:ae×jr->aj->Prop}(na:z6 S.B)(g:kJ S.B Kf)(H:j4 S V F J fs R s)(a:z4 Kf D name=some f)(q:∀tk,Q (.ref f,[]) {s with toks:=tk}):
  kY S A (getMethod (.ref D) name pl) Q E s:=by
 have XK:=g.here H;unfold z4 at a;split at a
 .rename_i l h;split at a
  .rename_i i;have⟨e,j⟩:=db.mp i;split at a
   .rename_i m c;split at a
    .cases a;apply method_cls XK (aG.mp j);simp only[E0,aJ,aG]at e;have⟨⟨⟨b,c'⟩,d⟩,k⟩:=e;have⟨n,d⟩:=bH.mp d;refine cls_open XK (uD na H) (looks_typeIn XK b) c' (looks_hook XK d) k c (ac ?_);exact handed_on rfl (q _)
    .cases a
   .cases a
  .cases a
 .cases a
def Nf{f:iJ}(h:z4 Kf D name=some f):fnIn Kf f=true:=by
 unfold z4 at h;split at h
 .grind
 .cases h
def Ng:Slot "type" "__subclasscheck__" "type.__subclasscheck__":=.of (owner:="type") (n:="__subclasscheck__") (by rw[dK,cV];kernel_rfl) (by tm_at"d") (by tm_at"d") (by tm_at"d") (.inr (by kernel_rfl)) (by rw[b5];kernel_rfl)
def Kx:entryFor table "type.__subclasscheck__"=some Builtin.«type.__subclasscheck__»:=fK (by kernel_rfl)
def Nh:builtinKind "type.__subclasscheck__"=some .method:=by tm_at"d"
def Ni(K:Frag):findCls K (.type "type") (.type "type") "__subclasscheck__"=some (.val (.builtin "type.__subclasscheck__")):=by
 have h:findCls [] (.type "type") (.type "type") "__subclasscheck__"=some (.val (.builtin "type.__subclasscheck__")):=by kernel_rfl
 exact h
def Nj(a b:ae):argsOk "type.__subclasscheck__" ⟨[a,b],[]⟩:=by unfold argsOk;kernel_rfl
def qy (K:Frag)(C:iJ):jy->aY
 |[]=>true
 |.val (.type T)::l=>(T=="frozenset"||T=="set"||T=="dict_keys"||T=="dict_items")&&subIn K (.ref C) (.type T)==some false&&qy K C l
 |_=>false
def z7(XK:Kf.In h)(a:(clsIn Kf C).isSome=true):Looks M h (isType (.ref C)) true:=by
 intro A Q E s k q;unfold clsIn at a;split at a
 .rename_i b;unfold isType loadHead;refine G (eQ (k _ _ (XK _ _ b)) ?_);exact ac q
 .cases a
def Bd{Q:ae×jr->aj->Prop}(c:kJ S.B Kf)(H:j4 S V F J fs R s)(q:∀tk,Q (.builtin "type.__subclasscheck__",[]) {s with toks:=tk}):
  kY S A (getMethod (.type "type") "__subclasscheck__" pl) Q E s:=by
 have XK:=c.here H;have d:opaqueClassAbove (.type "type")=pure none:=by unfold opaqueClassAbove;dsimp only;rw[show Manifest.isStub "type"=false by tm_at"d"];rfl
 have a:Looks (p_ S) s.heap (typeOf (.type "type")) (.type "type"):=Looks.of_pure rfl;have b:findIn Kf (.type "type") "__getattribute__"=some (some (.builtin "type.__getattribute__")):=type_tga;unfold getMethod specialOf;refine G (G (a.here ((c6 XK b).here ?_)));dsimp only;rw[aB canon_tga];refine G (ai (Q:=λv=>Q (v,[])) (E:=E) ?_ (λ_ _ z=>ac z) λ_ _ z=>z);have LO:Looks (p_ S) s.heap (opaqueClassAbove (.type "type")) none:=Looks.of_pure d;refine cls_open XK LO a b (looks_hook XK (r:=none) (by rfl)) (by show subIn Kf _ _=_;rfl) (Ni Kf) (ac ?_);exact handed_on rfl (q _)
def C9{i owner n:String}{self:ae}{iN:jr}{kw:List (Str×ae)}{Q:Unit->aj->Prop}
  (c:builtinKind i=some .method) (d:splitId i=some (owner,n)) (hi:Looks M s.heap (isInstance self (.type owner)) true) (b:argsOk i ⟨self::iN,kw⟩) (q:Q () s):
  wpAny M A (checkBuiltinCall i ⟨self::iN,kw⟩) Q E s:=by
 simp only[checkBuiltinCall,c,d];refine G (hi.here ?_);simp only[dy,au,bD];cases e:Manifest.signature? i with
 |none=>exact ac q
 |some a=>simp only[argsOk,e]at b;have f:=b;show wpAny M A (Bind.checkArgs i a ⟨self::iN,kw⟩) Q E s;rw[f];exact ac q
def Ky:splitId "type.__subclasscheck__"=some ("type","__subclasscheck__"):=by tm_at"d"
def Nk{b:aY}(c:kJ S.B Kf)(H:j4 S V F J fs R s)(d:instIn Kf (.ref D) (.type "type")=some true)(e:(clsIn Kf C).isSome=true)(f:subIn Kf (.ref C) (.ref D)=some b)(q:Q (.bool b) s):
  kY S A (call (.builtin "type.__subclasscheck__") [.ref D,.ref C]) Q E s:=by
 have XK:=c.here H;have L:=looks_instIn (M:=model S.prog S.w) XK d;refine dQ (fN Ng.plain Kx ?_);refine C9 (M:=model S.prog S.w) (i:="type.__subclasscheck__") (owner:="type") (n:="__subclasscheck__") (self:=.ref D) (iN:=[.ref C]) (kw:=[]) Nh Ky L (Nj _ _) ?_;unfold Builtin.«type.__subclasscheck__»;refine G (m:=selfAndOne _ _) (bC (a:=(.ref D,.ref C)) rfl ?_);refine G ((z7 XK e).here ?_);simp only[dy,au,bD];exact G ((looks_subIn XK f).here (ac q))
def HF:builtinKind "issubclass"=none:=by tm_at"d"
def E1:plainId "issubclass"=true:=by tm_at"d"
def E2:entryFor table "issubclass"=some Builtin.«issubclass»:=gU (by kernel_rfl)
def HG(a b:ae):argsOk "issubclass" ⟨[a,b],[]⟩:=by unfold argsOk;kernel_rfl
def sn:plainId "issubclass.nested"=true:=by tm_at"d"
def E3:builtinKind "issubclass.nested"=none:=by tm_at"d"
def E4(a b c:ae):argsOk "issubclass.nested" ⟨[a,b,c],[]⟩:=by unfold argsOk;kernel_rfl
def vZ:entryFor table "issubclass.nested"=some Builtin.«issubclass.nested»:=gU (by kernel_rfl)
def Qa(h:(T=="frozenset"||T=="set"||T=="dict_keys"||T=="dict_items")=true):typeOf (.type T)=pure (.type "type"):=by simp only[cz,aG]at h;rcases h with((rfl|rfl)|rfl)|rfl<;>rfl
def Kz{tk:Tok}(XK:Kf.In s.heap)(a:(clsIn Kf C).isSome=true)(b:typeOf (.type T)=pure (.type "type"))(c:subIn Kf (.ref C) (.type T)=some false)(q:Q (.bool false) s):
  kY S A (call (.builtin "issubclass.nested") [.ref C,.type T,.int 1 tk]) Q E s:=by
 apply fX E3 sn vZ (E4 _ _ _);unfold Builtin.«issubclass.nested»;refine G (bC b ?_);rw[aB (by decide)];apply G
 k_delta "plainIsSubclass"
 refine G ((z7 XK a).here ?_);refine G (m:=isType (.type T)) (ac ?_);simp only[gH,dR];exact(looks_subIn XK c).here (ac ⟨_,rfl,q⟩)
def C_{a:AV}(h:qy Kf C (a::l)=true):∃T,a=.val (.type T)/\typeOf (.type T)=pure (.type "type")/\subIn Kf (.ref C) (.type T)=some false/\qy Kf C l=true:=by
 unfold qy at h;split at h
 .rename_i h';cases h'
 .rename_i T l' h';cases h';simp only[aJ,aG]at h;exact⟨T,rfl,Qa h.1.1,h.1.2,h.2⟩
 .cases h
def xT{M:fL}{d a:Type}(g:d->a->Sem (ForInStep a))(b:a):∀(l:List d){Q:a->aj->Prop},(∀c∈l,∀e:ForInStep a->aj->Prop,e (.yield b) s->wpAny M A (g c b) e E s)->Q b s->wpAny M A (forIn l b g) Q E s
 |[],Q,_,q=>ac q
 |c::l,Q,h,q=>by rw[cW];exact G (h c (.head _) _ (xT g b l (λc f=>h c (.tail _ f)) q))
def xU{C:iJ}:∀{l:jy}{vs:jr},jV V F vs l->qy Kf C l=true->∀v∈vs,∃T,v=.type T/\typeOf (.type T)=pure (.type "type")/\subIn Kf (.ref C) (.type T)=some false
 |[],_,.nil,_,v,hv=>by cases hv
 |a::l,_,.cons r b,h,v,hv=>by
  obtain⟨T,rfl,c,d,e⟩:=C_ h;rcases af.mp hv with rfl|hv
  .cases r;exact⟨T,rfl,c,d⟩
  .exact xU b e v hv
def HH(h:kJ S.B Kf){v:ae}(u:A.units+5<cLine)(H:j4 S V F J fs R s)(r:kQ V F v (.tup l))(i:(clsIn Kf C).isSome=true)(j:qy Kf C l=true)(q:K (.bool false) J):
  kY S A (call (.builtin "issubclass") [.ref C,v]) (nP S V F fs R K) E s:=by
 obtain⟨f,vs,rfl,⟨k,g,d,n,o⟩,p,_⟩:=CR H r;have e:s.TypeIs (.ref f) "tuple":=⟨k,g,d⟩
 apply call_function_tree HF E1 E2 (HG _ _);unfold Builtin.«issubclass»;refine G (m:=someArgs "issubclass" 2 2 _) (bC (a:=[.ref C,.ref f]) rfl ?_);refine ac ⟨bS sn _,bj vZ ?_⟩;rw[aV sn _];unfold Builtin.«issubclass.nested»;dsimp only [rawInt];refine G (cX e ?_);rw[aA (by decide)];unfold Builtins.unionMembers;refine G (G (cX e ?_));rw[aA (by decide)];apply ac;refine G (bN (b:=true) e (by rw[b5];kernel_rfl) ?_);simp only[dR];rw[aA (by decide)];refine G (cB g o ?_);dsimp only [Option.getD];rw[<-dD];refine G (xT _ _ _ (λc d w t=>?_) ?_)
 .obtain⟨T,rfl,t1,t2⟩:=xU p j c d;refine G (Kz (h.here H) i t1 t2 ?_);refine G (dL ?_);exact ac t
 .exact ac (.here H (.bool _) q)
def wJ (K:Frag)(C:iJ):aY:=plainGet K C "__class__"&&(clsIn K C).isSome&&findIn K (.ref C) "__class__"==some (some (.builtin "object.__class__"))&&specialIn K (.builtin "object.__class__") "__get__"==some (some (.builtin "getset_descriptor.__get__"))&&
 takesIn K (.builtin "object.__class__")==some true&&mroIn K C (.type "object")==some true
def DQ (nm:Str):az String:=if nm="keys" then some "dict_keys" else if nm="items" then some "dict_items" else none
def E5(d:kJ S.B Kf){v:ae}(H:j4 S V F J fs R s)(r:kQ V F v (.ref k))(hi:lG J k=some C)(b:wJ Kf C=true)(q:K (.val (.ref C)) J):
  kY S A (getAttr v "__class__" expr) (nP S V F fs R K) E s:=by
 have a:=hi;unfold lG at a;split at a
 .rename_i n dl e;split at a
  .rename_i m f;cases a;obtain⟨x,o,od,es,p,rfl,t,u,I,_⟩:=vW H r e f;simp only[wJ,aJ,aG]at b;have⟨⟨⟨⟨⟨c,g⟩,h⟩,i⟩,j⟩,l⟩:=b;have XK:=d.here H;refine get_bind XK I (plainGet_of c).1 (findObj_data g h i j) (plainGet_of c).2 (dQ (class_get (s:={s with toks:=s.toks+1}) (od:=some od) XK I l (handed_on rfl ?_)));exact .here (H.tok _) (.val _) q
  .cases a
 .cases a
def KC{v:ae}(H:j4 S V F J fs R s)(r:kQ V F v (.ref k))(hi:lG J k=some C)(q:K (.val (.ref C)) J):kY S A (call (.type "type") [v]) (nP S V F fs R K) E s:=by obtain⟨x,ox,od,rfl,a,I⟩:=lC H r hi;have⟨b,g,dr,t,os⟩:=s;apply call_type_obj I.at_ (by rw[I.cls];rfl);rw[I.cls];exact .here H (.val _) q
def BN(h:DQ nm=some T):∃id b,Slot "dict" nm id/\typeOf (.builtin id)=pure (.type "method_descriptor")/\entryFor table id=some b/\(∀a,argsOk id ⟨[a],[]⟩)/\(T=="builtin_function_or_method")=false/\
  ∀(d:c5) (w:cy) (A:bO) (s:aj) (c:iJ) (Q:Fin->aj->Prop) (E:nz),(c==sysModules)=false->s.TypeIs (.ref c) "dict"->(Q (.done (.ret (.ref s.heap.objs.size))) {s with heap:=s.heap.push {cls:=.type T,data:=.fields #[.ref c]}})->wpAny (model d w) A (b ⟨[.ref c],[]⟩) Q E s:=by
 unfold DQ at h;split at h
 .rename_i e;cases h;subst e;refine⟨"dict.keys",_,PySem.F.slot_dict_keys,PySem.F.type_dict_keys,PySem.F.entry_dict_keys,PySem.F.args_dict_keys_1,by decide,λd w A s c Q E f g q=>?_⟩;unfold Builtin.«dict.keys»
  k_delta "view"
  apply G;unfold Dict.noArgs;refine G (wpAny_notOrdered_dict g ?_);apply ac;unfold Dict.showsAll;rw[aA (by rw[f];exact et)];refine G (ac ?_);exact G (br (ac q))
 .split at h
  .rename_i e;cases h;subst e;refine⟨"dict.items",_,PySem.F.slot_dict_items,PySem.F.type_dict_items,PySem.F.entry_dict_items,PySem.F.args_dict_items_1,by decide,λd w A s c Q E f g q=>?_⟩;unfold Builtin.«dict.items»;apply G;unfold Dict.noArgs;refine G (wpAny_notOrdered_dict g ?_);apply ac;unfold Dict.showsAll;rw[aA (by rw[f];exact et)];refine G (ac ?_);exact G (br (ac q))
  .cases h
def BO (fE:rT)(c:nW)(y:Str)(yp:Pos)(nm:Str)(ap cp:Pos)(Y:j9)(J:jW)(K:KV)(X:KX):Prop:=c.calm=true/\(ap.endLine==cp.line)=true/\fE c (.Name y yp) Y J (λg iT=>(match g with|.val (.type t)=>t="type"|_=>False)/\ky (DQ nm) λT=>K (.val (.type T)) iT) X
def KF(h:DQ nm=some T)(i:(ap.endLine==cp.line)=true)(H:j4 S V F J (f::fs) R s)
  (q:∀a d,j4 S V F J (f::fs) R d->(∃o,d.heap.get? a=some o/\o.cls=.type T)->Q (.ref a) d):kY S A (eval (.Call (.Attribute (.Dict [] [] dp) nm ap) [] [] cp) f.env) Q E s:=by
 obtain⟨id,b,slot,j,k,l,_,run⟩:=BN h;rw[gM];have m:attributeBase (.Dict [] [] dp) nm f.env (eval (.Dict [] [] dp) f.env)=eval (.Dict [] [] dp) f.env:=rfl;rw[m];refine G (wpAny_Dict_empty ?_);refine G (bR ?_);unfold methodCall;have n:methodCallForm (([]:j5).length+([]:List Keyword).length) (backTo cp (starEach [] f.env)) (backToKw cp (keywordEach [] f.env))=true:=rfl;rw[n];have c:=am s.heap (o:={cls:=.type "dict",data:=.dict #[]}) rfl;have p:=H.keep (h':=s.heap.push {cls:=.type "dict",data:=.dict #[]}) (t:=s.toks) (λb o e=>ad _ e);refine G (aF ?_);refine fk ⟨_,c,rfl⟩ PySem.F.plainAttrs_dict slot j (λb e=>by injection e with e;subst e;exact⟨_,c,rfl⟩) ?_;have r:methodCallPos true (.Dict [] [] dp) f.env ap cp=pure cp:=by unfold methodCallPos;rw[i];rfl
 rw[r];refine G (ac ?_);refine mw (eA ⟨md,?_⟩) rfl;refine bn slot ⟨_,c,rfl⟩ k ?_ (l _);have u:(s.heap.objs.size==sysModules)=false:=by have⟨x,w,_⟩:=H.lim;have g:=w.lt;exact beq_false_of_ne (λe=>by rw[e]at g;exact absurd g (by decide))
 refine run _ _ _ _ _ _ _ u ⟨_,c,rfl⟩ ⟨_,rfl,?_⟩;refine q _ _ (p.keep (t:=s.toks) (λb o e=>ad _ e)) ⟨_,am _ rfl,rfl⟩
def z8(m:l7 S d fE)(h:BO fE c y yp nm ap cp Y J K X):pD S d (eval (.Call (.Name y yp) [.Call (.Attribute (.Dict [] [] dp) nm ap) [] [] cp] [] pos)) c Y J K X:=by
 have⟨M,n,h⟩:=h;intro V F f fs R s A fa q r H;refine eI (ai (m c _ Y J _ X h V F f fs R s A fa q r H) (λg N p=>?_) λ_ _ e=>e);have⟨u,w,av,x,z,B,C,i,D⟩:=p;have⟨T,k,E⟩:=jo D;have⟨_,_,_,_,_,_,b,_⟩:=BN k;have G:g=.type "type":=by
  cases av<;>first|exact i.elim|skip
  rename_i v;cases v<;>first|exact i.elim|skip
  cases i;cases C;rfl
 subst G;refine mw (first:=[]) ?_ rfl;refine dU (KF k n B λa e_ I j=>?_) rfl;refine eA ⟨nu,?_⟩;have⟨o,j,l⟩:=j;have⟨O,P,dr,t,os⟩:=e_;apply call_type_obj j (by rw[l];cases L:(Value.type T==.type "builtin_function_or_method")with|false=>rfl|true=>(have:=aG.mp L;injection this with this;rw[this]at b;cases b));rw[l];exact⟨u,w,_,x,z,I,.val _,E⟩
def Qb (tup:aY):String:=if tup=true then "tuple" else "list"
def KG (tup:aY):String:=if tup=true then "tuple_iterator" else "list_iterator"
def sr (tup:aY)(h:cj)(l:iJ)(xs:bM ae):Prop:=∃o,h.get? l=some o/\o.cls=.type (Qb tup)/\∃n,o.data=.seq xs n
def uv (tup:aY)(h:cj)(i l:iJ)(k:Nat):Prop:=∃o,h.get? i=some o/\o.cls=.type (KG tup)/\o.data=.fields #[.ref l,.int k 0]
def sr.ext{a b:iJ}(x:sr tup h a xs)(c:Heap.ExtBut b h h')(d:a≠b):sr tup h' a xs:=let ⟨o,e,r⟩:=x;⟨o,c a o d e,r⟩
def uv.ext{a b l:iJ}(x:uv tup h a l k)(c:Heap.ExtBut b h h')(d:a≠b):uv tup h' a l k:=let ⟨o,e,r⟩:=x;⟨o,c a o d e,r⟩
def sr.list{a:iJ}(x:sr false h a xs):h.IsList a xs:=x
def sr.tuple{a:iJ}(x:sr true h a xs):h.IsTuple a xs:=x
def uv.list{a l:iJ}(x:uv false h a l k):h.IsListIter a l k:=x
def uv.tuple{a l:iJ}(x:uv true h a l k):h.IsTupleIter a l k:=x
def tG{l:iJ}{x:ae}(a:uv tup s.heap it l i)(d:sr tup s.heap l items)(e:items[i]?=some x)
  (f:∀h',uv tup h' it l (i+1)->Heap.SameBut it s.heap h'->Q x {s with heap:=h'}):wpAny (model a_ w) A (SmallTypes.nextOf (.ref it)) Q E s:=by
 cases tup with
 |false=>exact wpAny_nextOf_list_item a.list d.list e f
 |true=>have⟨o,c,g,b⟩:=id a;have⟨k,h,_,m,j⟩:=d;unfold SmallTypes.nextOf;refine G (b8 (name:=Str.ofString "__next__") a.tuple.typeIs F.slot_tuple_iterator_next (bn F.slot_tuple_iterator_next a.tuple.typeIs F.entry_tuple_iterator_next ?_ (F.args_tuple_iterator_next_1 _)));show wpAny _ _ (field (.ref it) 0>>=_) _ _ s;refine G (ci c b (x:=.ref l) rfl ?_);rw[aA (show ¬((Value.ref l==Value.none)=true)from et)];refine G (ci c b (x:=.int i 0) rfl ?_);refine G (cB h j ?_);simp only[dm,e];refine G (wpAny_setField c b (by simp) (ac ⟨x,rfl,ac (f _ ?_ (bK ..))⟩));exact⟨_,bA _ c (Obj.isFreed_of_fields (Obj.data_mapFields b _)),(Obj.cls_mapFields ..).trans g,by rw[Obj.data_mapFields b];simp[rawInt]⟩
def z9{l:iJ}(f:A.handled=none)(b:uv tup s.heap it l i)(g:sr tup s.heap l items)(h:items[i]?=none)
  (j:∀h' e,Heap.ExtBut it s.heap h'->(∃o,h'.get? e=some o/\o.cls=.type "StopIteration")->E (.ref e) {s with heap:=h'}):wpAny (model a_ w) A (SmallTypes.nextOf (.ref it)) Q E s:=by
 cases tup with
 |false=>exact wpAny_nextOf_list_end f b.list g.list h j
 |true=>have⟨o,c,p,d⟩:=id b;have⟨q,k,_,r,n⟩:=g;unfold SmallTypes.nextOf;refine G (b8 (name:=Str.ofString "__next__") b.tuple.typeIs F.slot_tuple_iterator_next (bn F.slot_tuple_iterator_next b.tuple.typeIs F.entry_tuple_iterator_next ?_ (F.args_tuple_iterator_next_1 _)));show wpAny _ _ (field (.ref it) 0>>=_) _ _ s;refine G (ci c d (x:=.ref l) rfl ?_);rw[aA (show ¬((Value.ref l==Value.none)=true)from et)];refine G (ci c d (x:=.int i 0) rfl ?_);refine G (cB k n ?_);simp only[dm,h];refine G (b9 (G (wpAny_setField c d (by simp) ?_)));apply G;simp only[newExc,newTuple];refine G (br ?_ (by size_fits));refine G (m:=firstArgMember _ _) (bC (a:=Value.none) (by first|rfl|(simp only[firstArgMember];rfl)) ?_);refine br ?_ (by size_fits);simp only[raiseNew];refine G (gI ?_);rw[show A.in1.handled=none from f];refine G (ac (gB ?_));exact j _ _ (((bK ..).extBut.push _).push _) ⟨_,am _ rfl,rfl⟩
structure u7 (z TI TO i1 i2 l1 l2:iJ):Prop where
 nd:[z,TI,TO,i1,i2].Nodup
 l1:l1∉[z,TI,TO,i1,i2]
 l2:l2∉[z,TI,TO,i1,i2]
structure Xi (t1 t2:aY) (h:cj) (z TI TO i1 i2 l1 l2:iJ) (k:Nat) (f0 a b:ae) (xs ys:bM ae):Prop where
 z:IsZip h z TI TO f0
 ti:IsPair h TI (.ref i1) (.ref i2)
 to:IsPair h TO a b
 i1:uv t1 h i1 l1 k
 i2:uv t2 h i2 l2 k
 l1:sr t1 h l1 xs
 l2:sr t2 h l2 ys
def Nl{x y a:ae}(D:u7 z TI TO i1 i2 l1 l2)(Z:Xi t1 t2 s.heap z TI TO i1 i2 l1 l2 k .none a b xs ys)
  (hx:xs[k]?=some x) (hy:ys[k]?=some y)
  (hQ:∀h' n,s.heap.get? n=none->IsZip h' z TI TO (rawInt n)->IsPair h' TO x y->uv t1 h' i1 l1 (k+1)->uv t2 h' i2 l2 (k+1)->IsPair h' n x y->
   (∀c o,c∉[z,TO,i1,i2]->s.heap.get? c=some o->h'.get? c=some o)->Q (.ref n) {s with heap:=h'}):
  wpAny (model a_ w) A (Builtin.«zip.__next__» ⟨[.ref z],[]⟩) (λF s'=>∃v,F=.done (.ret v)/\Q v s') E s:=by
 have⟨i,Xj,Xk,h1,h2,GF,A7⟩:=Z;have⟨nd,n1,n2⟩:=D;simp only[aL,af,bl,cI,eZ]at nd n1 n2;have⟨⟨zTI,u,H,I⟩,⟨TITO,TIi1,TIi2⟩,⟨J,K⟩,j,_⟩:=nd;have⟨L,Z2,l1TO,l1i1,l1i2⟩:=n1;have⟨M,Z3,l,m,l2i2⟩:=n2;show wpAny _ _ (field (.ref z) 2>>=_) _ _ _;refine G (ci i rfl (x:=.bool false) rfl ?_);refine G (ci i rfl (x:=.ref TI) rfl ?_);refine G (cB Xj rfl ?_);apply G;unfold SmallTypes.ownedTupleIsFree;refine G (ci i rfl (x:=.none) rfl (ac ?_));simp only[dR];refine G (b9 ?_);refine G (ci i rfl (x:=.ref TO) rfl ?_);refine G (b6 i (by simp) λha N f=>?_);replace N:IsZip ha z TI TO .ellipsis:=N;apply G;simp only[List.zipIdx_cons,List.zipIdx_nil,cW,dW];refine G (G (eE ?_));refine G (tG (h1.ext f.extBut (bF H)) (GF.ext f.extBut L) hx λhb O h=>ac ?_);have Nm:=h.extBut _ _ J (f.extBut _ _ (bF u) Xk);refine G (cB Nm rfl ?_);refine G (fO Nm λd P sc=>?_);replace P:IsPair d TO x b:=P;refine G (fb (ac ?_));refine G (G (eE ?_));refine G (tG (((h2.ext f.extBut (bF I)).ext h.extBut (bF j)).ext sc.extBut (bF K)) (((A7.ext f.extBut M).ext h.extBut m).ext sc.extBut l) hy λhd R p=>ac ?_);have Xl:=p.extBut _ _ K P;refine G (cB Xl rfl ?_);refine G (fO Xl λg B t=>?_);replace B:IsPair g TO x y:=B;refine G (fb (ac (ac ?_)));refine G (cB B rfl ?_);refine G (wpAny_newTuple ?_);have uA:g.objs.size=s.heap.objs.size:=by rw[t.1,p.1,sc.1,h.1,f.1]
 have S:=t.extBut _ _ u (p.extBut _ _ I (sc.extBut _ _ u (h.extBut _ _ H N)));have T:∀c o,c∉[z,TO,i1,i2]->s.heap.get? c=some o->g.get? c=some o:=λc o d e=>by simp only[af,bl,cI,eZ]at d;exact t.extBut _ _ d.2.1 (p.extBut _ _ d.2.2.2 (sc.extBut _ _ d.2.1 (h.extBut _ _ d.2.2.1 (f.extBut _ _ d.1 e))))
 have U:=((O.ext sc.extBut (bF J)).ext p.extBut j).ext t.extBut (bF J);have V:=R.ext t.extBut (bF K);apply G;unfold SmallTypes.ownedTupleHandOut;refine G (b6 (ad _ S) (by simp) λhf W sf=>?_);replace W:IsZip hf z TI TO (rawInt g.objs.size):=W;refine b6 W (by simp) λX Y sg=>?_;replace Y:IsZip X z TI TO (rawInt g.objs.size):=Y;have C:∀c o,c≠z->g.get? c=some o->X.get? c=some o:=λc o c1 e=>sg.extBut _ _ c1 (sf.extBut _ _ c1 (ad _ e));refine ac ⟨_,rfl,?_⟩;have hT:=sg.extBut _ _ (fg (ck S)) (sf.extBut _ _ (fg (ck S)) (am _ rfl));refine hQ X g.objs.size (aq (by rw[uA];exact ao _)) Y (C _ _ (bF u) B) ?_ ?_ hT λc o d e=>C c o (λq=>d (by rw[q];exact .head _)) (T c o d e)
 .have⟨o,ho,r⟩:=U;exact⟨o,C _ _ (bF H) ho,r⟩
 .have⟨o,ho,r⟩:=V;exact⟨o,C _ _ (bF I) ho,r⟩
def Qf{a:ae}{Q:PySem.Fin->aj->Prop}(L:A.handled=none)(D:u7 z TI TO i1 i2 l1 l2)(Z:Xi t1 t2 s.heap z TI TO i1 i2 l1 l2 k .none a b xs ys)
  (TE:xs[k]?=none∨ys[k]?=none) (M:∀h' e,(∀c o,c∉[z,TO,i1,i2]->s.heap.get? c=some o->h'.get? c=some o)->(∃o,h'.get? e=some o/\o.cls=.type "StopIteration")->E (.ref e) {s with heap:=h'}):
  wpAny (model a_ w) A (Builtin.«zip.__next__» ⟨[.ref z],[]⟩) Q E s:=by
 have⟨l,Xj,Xk,N,h2,O,A7⟩:=Z;have⟨P,n1,n2⟩:=D;simp only[aL,af,bl,cI,eZ]at P n1 n2;have⟨⟨zTI,R,y,S⟩,⟨T,U,V⟩,⟨jC,jD⟩,F,_⟩:=P;have⟨m,Z2,W,X,Y⟩:=n1;have⟨H,Z3,n,p,l2i2⟩:=n2;show wpAny _ _ (field (.ref z) 2>>=_) _ _ _;refine G (ci l rfl (x:=.bool false) rfl ?_);refine G (ci l rfl (x:=.ref TI) rfl ?_);refine G (cB Xj rfl ?_);apply G;unfold SmallTypes.ownedTupleIsFree;refine G (ci l rfl (x:=.none) rfl (ac ?_));simp only[dR];refine G (b9 ?_);refine G (ci l rfl (x:=.ref TO) rfl ?_);refine G (b6 l (by simp) λha B d=>?_);replace B:IsZip ha z TI TO .ellipsis:=B;apply G;simp only[List.zipIdx_cons,List.zipIdx_nil,cW,dW];refine G (G (eE ?_));have g:∀{c:iJ},c∉[z,TO,i1,i2]->c≠z/\c≠TO/\c≠i1/\c≠i2:=λC=>by simpa only [af,bl,cI,eZ]using C
 cases I:xs[k]? with
 |none=>
  refine G (z9 L (N.ext d.extBut (bF y)) (O.ext d.extBut m) I λhb e i ⟨J,j,r⟩=>?_);have t:=i _ _ y B;have K:e≠z:=λq=>by subst q;rw[t]at j;cases j;simp at r
  exact b6 t (by simp) λC _ sc=>M C e (λc o f q=>sc.extBut _ _ (g f).1 (i _ _ (g f).2.2.1 (d.extBut _ _ (g f).1 q))) ⟨J,sc.extBut _ _ K j,r⟩
 |some x=>
  have hy:ys[k]?=none:=by rcases TE with h|h;rw[I]at h;cases h;exact h
  refine G (tG (N.ext d.extBut (bF y)) (O.ext d.extBut m) I λhb h1b i=>ac ?_);have Nm:=i.extBut _ _ jC (d.extBut _ _ (bF R) Xk);refine G (cB Nm rfl ?_);refine G (fO Nm λC Qd sc=>?_);refine G (fb (ac ?_));refine G (G (eE ?_));refine G (z9 L (((h2.ext d.extBut (bF S)).ext i.extBut (bF F)).ext sc.extBut (bF jD)) (((A7.ext d.extBut H).ext i.extBut p).ext sc.extBut n) hy λhd e sd ⟨J,j,r⟩=>?_);have u:=sd _ _ S (sc.extBut _ _ R (i.extBut _ _ y B));have K:e≠z:=λq=>by subst q;rw[u]at j;cases j;simp at r
  exact b6 u (by simp) λhe _ se=>M he e (λc o f q=>se.extBut _ _ (g f).1 (sd _ _ (g f).2.2.2 (sc.extBut _ _ (g f).2.1 (i.extBut _ _ (g f).2.2.1 (d.extBut _ _ (g f).1 q))))) ⟨J,se.extBut _ _ K j,r⟩
abbrev qA:=Nat->ae->cj->cj->Prop
def HI (C:iJ)(fp wr:jj)(n:Nat)(F:qA):Protocol:=λm mT v s RI=>(F (n-1-m) v mT.heap s.heap/\(∃mm,s.heap.Ns C mm)/\∀b∈wr,∃o,s.heap.get? b=some o)/\GenSince C wr mT s/\∀ql:aj,(∀b∈C::fp,∀o,s.heap.get? b=some o->ql.heap.get? b=some o)->RI (.send .none) ql
def TF (C:iJ)(wr:jj):GenEnd:=λn mT r jw=>r=.ok .next/\(n=0/\GenSince C wr mT jw)
def sv (a_:c5)(w:cy)(A:bO)(a:iJ)(g:Nat)(C:iJ)(fp wr:jj)(n:Nat)(F:qA)(j:Nat)(s:aj):Prop:=
 s.heap.IsGen a g/\s.heap.NoLimit/\∃gs,s.gens[g]?=some gs/\∀ql:aj,(∀b∈C::fp,∀o,s.heap.get? b=some o->ql.heap.get? b=some o)->
  gs.Goes (model a_ w) A.in1 (TF C wr) (HI C fp wr n F) (n-j) (.send .none) ql
structure tH (prog:c5) (w:cy) (HJ:Env) (x:Str) (elt:Expr) (fp wr:jj) (P:Nat->ae->Prop) (F:qA) (pI:cj) (D U:Nat):Prop where
 elt:∀(A':bO) E' i v (Nn:aj) m₂,A'.handled=none->A'.depth<=D->A'.units<=U->P i v->Nn.heap.Ns HJ.locals m₂->m₂ x=some v->(∀b∈fp,b∉wr->∀o,pI.get? b=some o->Nn.heap.get? b=some o)->
  wpAny (model prog w) A' (eval elt HJ) (λy mr=>F i y Nn.heap mr.heap/\Keeps Nn mr) E' Nn
 back:∀i y h₀ nS h,F i y nS h->(∀b o,b≠HJ.locals->b∉wr->h₀.get? b=some o->nS.get? b=some o)->(∃m,nS.Ns HJ.locals m)->(∀b∈wr,∃o,nS.get? b=some o)->F i y h₀ h
def No{P:Nat->ae->Prop}
  (n:A.handled=none) (j:∀A':bO,A'.handled=none->Walks a_ w A' I fp wr sW P jd) (J:∀i h,jd i h->∀b∈wr,∃o,h.get? b=some o) (F:qA) (q:cj)
  (W:h_.kindOf x=some .local) (X:(h_.scope.kind==.class||(h_.scope.kind==.module&&h_.locals !=h_.globals))=false)
  (Y:h_.scope.isCoroutine=false) (r:h_.locals∉fp) (K:tH a_ w h_ x iV fp wr P F q (A.depth+1) (A.units+3)):
  ∀(k i:Nat) (f s:aj) (m:Str->az ae),sW-i=k->i<=sW->jd i s.heap->s.heap.Ns h_.locals m->GenSince h_.locals wr f s->
   (∀b∈fp,b∉wr->∀o,q.get? b=some o->s.heap.get? b=some o)->
   Seg (model a_ w) A (TF h_.locals wr) (HI h_.locals fp wr sW F) (sW-i) f
    (.compLoop (.GeneratorExp iV [⟨.Name x px,iter,[],0⟩] b_ pos) 0 (.ref I) .none h_)
    ((model a_ w).den (.compLoop (.GeneratorExp iV [⟨.Name x px,iter,[],0⟩] b_ pos) 0 (.ref I) .none h_)) [] s:=by
 have t:(A.over (.compLoop (.GeneratorExp iV [⟨.Name x px,iter,[],0⟩] b_ pos) 0 (.ref I) .none h_) []).handled=none:=n;have Z:(A.over (.compLoop (.GeneratorExp iV [⟨.Name x px,iter,[],0⟩] b_ pos) 0 (.ref I) .none h_) []).depth<=A.depth+1:=eU rfl;have Xn:(A.over (.compLoop (.GeneratorExp iV [⟨.Name x px,iter,[],0⟩] b_ pos) 0 (.ref I) .none h_) []).units<=A.units+3:=eU rfl;have u:h_.locals∉wr:=λh=>r ((j A n).sub _ h);intro k;induction k with
 |zero=>
  intro i f s m hk hi z L B M;have U8:i=sW:=by omega
  subst U8;show Seg _ A _ _ _ f _ ((compTurn (.GeneratorExp iV [⟨.Name x px,iter,[],0⟩] b_ pos) 0 (.ref I) .none h_).onRaise (leaving h_)) [] s;rw[compTurn_gen,fY];refine cD (bR ?_);refine cD ((j _ t).done s _ _ z λh' tk sX=>?_);exact seg_end (.ok .next) ⟨rfl,cM i,B.step λb o _ hw e=>sX b o hw e⟩
 |succ k ih=>
  intro i f s m hk hi z L B M;have N:i<sW:=by omega
  show Seg _ A _ _ _ f _ ((compTurn (.GeneratorExp iV [⟨.Name x px,iter,[],0⟩] b_ pos) 0 (.ref I) .none h_).onRaise (leaving h_)) [] s;rw[compTurn_gen,fY];refine cD (bR ?_);refine cD ((j _ t).item i s _ _ N z λv lX O C TJ Q=>?_);refine cD (bC (rfl:letOwnedTupleGo (.Name x px) (.ref I) v=pure ()) ?_);refine cD (eK (wpAny_storeName_local W (L.at' λo e=>Q _ o u e) (λnS p R=>?_) X));have S:∀b o,b≠h_.locals->b∉wr->s.heap.get? b=some o->nS.get? b=some o:=λb o l d e=>R.extBut b o l (Q b o d e);have D:jd (i+1) nS:=(j A n).frame _ _ _ TJ λb c o e=>R.extBut b o (λh=>r (h▸c)) e;have T:∀b∈fp,b∉wr->∀o,q.get? b=some o->nS.get? b=some o:=λb c d o e=>S b o (λh=>r (h▸c)) d (M b c d o e);have U:GenSince h_.locals wr f {s with heap:=nS,toks:=O}:=B.step λb o l d e=>S b o l d e;refine cD (bC (a:=true) rfl ?_);simp only[dR];have hy:∀v,yieldOut h_ v=yieldValue v:=λv=>by simp only[yieldOut,Y,au,bD]
  simp only[hy];rw[Sem.bind_eq_wrap',Sem.bind_eq_wrap',Sem.wrap_wrap,Sem.wrap_wrap,show sW-i=(sW-(i+1))+1 by omega];refine seg_wrap (ai (K.elt _ _ i v _ _ t Z Xn C p (by simp) T) (λy rB Qg=>?_) λ_ _ e=>e);obtain⟨E,Qg,ab4,rfl,g⟩:=Qg;have⟨h00,adM,G,Z8⟩:=id U;have Z9:F i y f.heap Qg:=K.back i y f.heap nS Qg E (λb o l d e=>by have:({s with heap:=nS,toks:=O}:aj).heap=h00:=cq Shared.heap G;have:nS=h00:=this;rw[this];exact Z8 b o l d e) ⟨_,p⟩ (J _ _ D)
  refine seg_at (seg_yield rfl rfl rfl ⟨?_,U.step λb o _ _ e=>g b o e,λV H=>?_⟩)
  .rw[show sW-1-(sW-(i+1))=i by omega];exact⟨Z9,⟨_,p.keeps g⟩,λb c=>let ⟨o,ho⟩:=J _ _ D b c;⟨o,g b o ho⟩⟩
  refine iH rfl (ih (i+1) V V _ (by omega) N ((j A n).frame _ _ _ D λb c o e=>H b (aO _ c) o (g b o e))
   ((p.keeps g).at' λo e=>H _ (bc ..) o e) (GenSince.refl _ _ _) λb c d o e=>H b (aO _ c) o (g b o (T b c d o e)))
def HL{P:Nat->ae->Prop}
  (g:A.handled=none) (d:∀A':bO,A'.handled=none->Walks a_ w A' I fp wr sW P jd) (k:∀i h,jd i h->∀b∈wr,∃o,h.get? b=some o) (F:qA) (e:cj)
  (l:h_.kindOf x=some .local) (n:(h_.scope.kind==.class||(h_.scope.kind==.module&&h_.locals !=h_.globals))=false)
  (p:h_.scope.isCoroutine=false) (q:h_.locals∉fp) (r:tH a_ w h_ x iV fp wr P F e (A.depth+1) (A.units+3))
  (c s:aj) (m:Str->az ae) (f:jd 0 s.heap) (t:s.heap.Ns h_.locals m) (u:GenSince h_.locals wr c s) (y:∀b∈fp,b∉wr->∀o,e.get? b=some o->s.heap.get? b=some o):
  Seg (model a_ w) A (TF h_.locals wr) (HI h_.locals fp wr sW F) sW c
   (.compStart (.GeneratorExp iV [⟨.Name x px,iter,[],0⟩] b_ pos) 0 (.ref I) .none h_)
   ((model a_ w).den (.compStart (.GeneratorExp iV [⟨.Name x px,iter,[],0⟩] b_ pos) 0 (.ref I) .none h_)) [] s:=by
 have j:(A.over (.compStart (.GeneratorExp iV [⟨.Name x px,iter,[],0⟩] b_ pos) 0 (.ref I) .none h_) []).handled=none:=g;have a:=No (iter:=iter) (px:=px) (b_:=b_) (pos:=pos) g d k F e l n p q r sW 0 c s m (Nat.sub_zero _) (cg _) f t u y;rw[Nat.sub_zero]at a;show Seg _ A _ _ _ c _ ((compStart (.GeneratorExp iV [⟨.Name x px,iter,[],0⟩] b_ pos) 0 (.ref I) .none h_).onRaise (leaving h_)) [] s;unfold compStart;rw[fY];show Seg _ A _ _ _ c _ ((ask>>=_).wrap _ _ _ _) [] s;refine cD (bU ?_);split
 .exact iH rfl a
 .first
   |exact cD (b9 (cD (bR (cD ((d _ j).self 0 s _ _ f (iH rfl a))))))
   |(refine cD (b9 ?_);show Seg _ A _ _ _ c _ ((standAt iter.pos>>=_).wrap _ _ _ _) [] s;exact cD (bR (cD ((d _ j).self 0 s _ _ f (iH rfl a)))))
def sv.fresh{iV iter:Expr}{x:Str}{px:Pos}{b_:dF}{pos:Pos}{I a:iJ}{g:Nat}{fp wr:jj}{sW:Nat}{P:Nat->ae->Prop}{jd:Nat->cj->Prop}{h_:Env}
  (f:A.handled=none) (j:∀A':bO,A'.handled=none->Walks a_ w A' I fp wr sW P jd) (l:∀i h,jd i h->∀b∈wr,∃o,h.get? b=some o) (F:qA)
  (n:h_.kindOf x=some .local) (p:(h_.scope.kind==.class||(h_.scope.kind==.module&&h_.locals !=h_.globals))=false)
  (q:h_.scope.isCoroutine=false) (r:h_.locals∉fp){s:aj}{m:Str->az ae}(t:tH a_ w h_ x iV fp wr P F s.heap (A.depth+1) (A.units+4))
  (u:s.heap.IsGen a g) (y:s.gens[g]?=some (.fresh (.compStart (.GeneratorExp iV [⟨.Name x px,iter,[],0⟩] b_ pos) 0 (.ref I) .none h_)))
  (z:jd 0 s.heap) (B:s.heap.Ns h_.locals m) (C:s.heap.NoLimit):sv a_ w A a g h_.locals fp wr sW F 0 s:=
 ⟨u,C,_,y,λk c=>⟨rfl,HL (A:=A.in1) f j l F s.heap n p q r t k k m ((j A f).frame _ _ _ z λb d o e=>c b (aO _ d) o e)
  (B.at' λo e=>c _ (bc ..) o e) (GenSince.refl _ _ _) λb d _ o e=>c b (aO _ d) o e⟩⟩
def Nq (C:iJ)(wr:jj)(s s':aj):Prop:=∃h' tk iY,s'={s with heap:=h',toks:=tk,gens:=iY}/\(∀b o,b≠C->b∉wr->s.heap.get? b=some o->h'.get? b=some o)/\(AllBare s.gens->AllBare iY)
def sv.item{a:iJ}{n:Nat}{F:qA}{Q:az ae->aj->Prop}(B:A.handled=none)(D:A.depth<recursionLimit)(G:a≠C)(d:a∉wr)(f:cStatics≠C)(h:cStatics∉wr)
  (hj:j<n) (st:sv a_ w A a g C fp wr n F j s) (H:∀v c,F j v s.heap c.heap->(∃I,c.heap.Ns C I)->(∀b∈wr,∃o,c.heap.get? b=some o)->sv a_ w A a g C fp wr n F (j+1) c->Nq C wr s c->Q (some v) c):wpAny (model a_ w) A (pyNext (.ref a)) Q E s:=by
 have⟨t,u,gs,i,x⟩:=st;obtain⟨m,J⟩:∃m,n-j=m+1:=⟨n-j-1,by omega⟩
 rw[J]at x;refine wpAny_pyNext_genexpQ (P:=λn K k=>n=0/\GenSince C wr K k) B u D t i (x _ λ_ _ _ e=>e) (λv k y L M=>?_) (λk N h' hk=>?_)
 .obtain⟨⟨z,l,p⟩,⟨O,R,rfl,q⟩,S⟩:=M;rw[show n-1-(m+1-1)=j by omega]at z;refine H v _ z l p ⟨let ⟨o,nm,T,U,r⟩:=t;⟨o,nm,T,q a o G d U,r⟩,(let ⟨V,W,X⟩:=u;⟨V,W.at' λo e=>q cStatics o f h e,X⟩),y,fP (gs:=.running) (fP i),λY Z=>?_⟩
   ⟨O,R,_,rfl,q,λNr=>?_⟩
  .rw[show n-(j+1)=m by omega];exact S Y Z
  .exact(GenOnlyQ.of ((gm s g .running).trans (gm _ g y)) (fP (gs:=.running) (fP i)) L).bare Nr
 .exact absurd N.1 (Nat.succ_ne_zero m)
def sv.done{a:iJ}{n:Nat}{F:qA}{Q:az ae->aj->Prop}(i:A.handled=none)(j:A.depth<recursionLimit)
  (st:sv a_ w A a g C fp wr n F n s) (k:∀d,Nq C wr s d->Q none d):wpAny (model a_ w) A (pyNext (.ref a)) Q E s:=by
 have⟨l,m,gs,f,h⟩:=st;rw[cM]at h;refine wpAny_pyNext_genexpQ (P:=λn p c=>n=0/\GenSince C wr p c) i m j l f (h _ λ_ _ _ e=>e) (λv c G H q=>?_) (λc r h' t=>?_)
 .have⟨_,_,u⟩:=q;exact False.elim (u c λ_ _ _ e=>e)
 .obtain⟨_,I,x,rfl,y⟩:=r;refine k _ ⟨h',x,_,rfl,λb o z B e=>t b o (y b o z B e),λD=>?_⟩;exact(GenOnlyQ.of ((gm s g .running).trans (gm _ g .finished)) (fP (gs:=.running) (fP f)) rfl).bare D
def sv.frame{a:iJ}{n:Nat}{F:qA}{tk:Nat}{dr:_}(st:sv a_ w A a g C fp wr n F j s)(f:cStatics∈fp)(c:∀b∈a::C::fp,∀o,s.heap.get? b=some o->h'.get? b=some o):sv a_ w A a g C fp wr n F j {s with heap:=h',toks:=tk,drawn:=dr}:=
 ⟨let ⟨o,nm,h,i,r⟩:=st.1;⟨o,nm,h,c a (bc ..) o i,r⟩,(let ⟨k,l,m⟩:=st.2.1;⟨k,l.at' λo e=>c cStatics (aO _ (aO _ f)) o e,m⟩),
  let ⟨gs,p,q⟩:=st.2.2;⟨gs,p,λt u=>q t λb d o e=>u b d o (c b (aO _ d) o e)⟩⟩
def Holds.Nt{jt:mO}{dr:_}(H:j4 S V F J fs (iL++R) s)(A:jt.map (·.1)=iL.map (·.1))(k:∀b o,b∉iL.map (·.1)->s.heap.get? b=some o->h'.get? b=some o)(c:∀p∈jt,h'.get? p.1=some p.2)(C:AllBare iY):
  j4 S V F J fs (jt++R) {s with heap:=h',toks:=t,gens:=iY,drawn:=dr}:=by
 have O:kz V J fs (jt++R)=kz V J fs (iL++R):=by unfold kz;rw[bB,bB,A]
 have g:∀b∈iL.map (·.1),b∈kz V J fs (iL++R):=λb a=>ag _ (ag _ (by rw[bB];exact aH _ a));have d:∀b,(S.B.H.get? b).isSome=true->b∉iL.map (·.1):=λb a m=>by rw[(H.new b (g b m)).2]at a;cases a
 have h:∀b,(F b).isSome=true->b∉iL.map (·.1):=λb a m=>by rw[(H.new b (g b m)).1]at a;cases a
 have nd:=H.nd;unfold kz at nd;rw[bB,<-cw]at nd;have⟨D,E,G⟩:=aK.mp nd;have⟨I,K,L⟩:=aK.mp D;have⟨M,N,f⟩:=aK.mp E;have j:∀b∈jT V J++pC fs,b∉iL.map (·.1):=λb a m=>G b a b (aH _ m) rfl;have P:∀b∈R.map (·.1),b∉iL.map (·.1):=λb a m=>f b m b a rfl;exact{
  base:=H.base,lw:=λb x e=>k b x (h b (by rw[e];rfl)) (H.lw b x e),old:=OldK.vr H.old λb a x e=>k b x (d b a) e
  lim:=by have⟨Q,⟨o,es,T,c,r⟩,q⟩:=H.lim;exact⟨Q,⟨o,es,T,k _ _ (d _ H.mS) c,r⟩,q⟩
  bare:=C,os:=H.os,len:=H.len,nd:=by rw[O];exact H.nd,new:=λb m=>H.new b (O▸m)
  there:=λb m=>by
   by_cases a:b∈iL.map (·.1)
   .grind
   .have⟨x,U⟩:=H.there b (O▸m);exact⟨x,k b x a U⟩
  cells:=λi b l n u=>by
   by_cases w:l=.dead
   .subst w;trivial
   .exact(H.cells i b l n u).mono (.refl _ _) λx=>k b x (j b (aH _ (lx n u w)))
  frames:=H.frames.mono (.refl _ _) λb m x=>k b x (j b (ag _ m))
  res:=λp hp=>by
   rcases ba.mp hp with hp|hp
   .exact c p hp
   .exact k _ _ (P _ (bz hp)) (H.res p (ag _ hp))
  tabs:=λt W=>by have⟨X,Y,y,Z,z⟩:=H.tabs t W;exact⟨X.mono (λ_ _ e=>e) (λx=>k _ x (h _ z)) (λx=>k _ x (d _ y)),Y,y,Z,z⟩
  mS:=H.mS}
def Holds.I4{dr:_}(H:j4 S V F J fs (iL++R) s)(k:∀b o,b∉iL.map (·.1)->s.heap.get? b=some o->h'.get? b=some o)(D:AllBare iY):
  j4 S V F J fs R {s with heap:=h',toks:=t,gens:=iY,drawn:=dr}:=by
 have h:∀b∈iL.map (·.1),b∈kz V J fs (iL++R):=λb a=>ag _ (ag _ (by rw[bB];exact aH _ a));have sub:∀b∈kz V J fs R,b∈kz V J fs (iL++R):=λb m=>by
  unfold kz at m⊢
  grind
 have c:∀b,(S.B.H.get? b).isSome=true->b∉iL.map (·.1):=λb a m=>by rw[(H.new b (h b m)).2]at a;cases a
 have j:∀b,(F b).isSome=true->b∉iL.map (·.1):=λb a m=>by rw[(H.new b (h b m)).1]at a;cases a
 have nd:=H.nd;unfold kz at nd;rw[bB,<-cw]at nd;have⟨X,E,G⟩:=aK.mp nd;have⟨I,K,d⟩:=aK.mp E;have l:∀b∈jT V J++pC fs,b∉iL.map (·.1):=λb a m=>G b a b (aH _ m) rfl;have L:∀b∈R.map (·.1),b∉iL.map (·.1):=λb a m=>d b m b a rfl;have f:∀b∈kz V J fs R,b∉iL.map (·.1):=λb m=>by
  unfold kz at m
  grind
 have g:(kz V J fs R).Nodup:=by
  unfold kz
  grind
 exact{
  base:=H.base,lw:=λb x e=>k b x (j b (by rw[e];rfl)) (H.lw b x e),old:=OldK.vr H.old λb a x e=>k b x (c b a) e
  lim:=by have⟨M,⟨o,es,N,O,r⟩,q⟩:=H.lim;exact⟨M,⟨o,es,N,k _ _ (c _ H.mS) O,r⟩,q⟩
  bare:=D,os:=H.os,len:=H.len,nd:=g,new:=λb m=>H.new b (sub b m)
  there:=λb m=>let ⟨x,P⟩:=H.there b (sub b m);⟨x,k b x (f b m) P⟩
  cells:=λi b n u w=>by
   by_cases y:n=.dead
   .subst y;trivial
   .exact(H.cells i b n u w).mono (.refl _ _) λx=>k b x (l b (aH _ (lx u w y)))
  frames:=H.frames.mono (.refl _ _) λb m x=>k b x (l b (ag _ m))
  res:=λp z=>k _ _ (L _ (bz z)) (H.res p (ag _ z))
  tabs:=λt Q=>by have⟨T,U,A,W,C⟩:=H.tabs t Q;exact⟨T.mono (λ_ _ e=>e) (λx=>k _ x (j _ C)) (λx=>k _ x (c _ A)),U,A,W,C⟩
  mS:=H.mS}
def Holds.adopt{a:iJ}(H:j4 S V F J fs R s)(k:F a=none)(l:S.B.H.get? a=none)(n:a∉kz V J fs R)(p:s.heap.get? a=some o):
  j4 S V (F.put a o) J fs R s/\j8 V V F (F.put a o):=by
 have g:j8 V V F (F.put a o):=.put V k;refine⟨{H with base:=λb x e c=>g.fr (H.base b x e c),lw:=λb x e=>?_,new:=λb m=>?_,cells:=λi b c q r=>(H.cells i b c q r).mono g λ_ e=>e,frames:=H.frames.mono g λ_ _ _ e=>e,tabs:=λt u=>?_},g⟩
 .by_cases h:b=a
  .subst h;rw[jn.lf]at e;cases e;exact p
  .rw[jn.nB _ _ h]at e;exact H.lw _ _ e
 .have⟨d,f⟩:=H.new b m;exact⟨(jn.nB _ _ λh=>n (by rw[<-h];exact m)).trans d,f⟩
 .have⟨d,f,j,w,y⟩:=H.tabs t u;refine⟨d.mono (λ_ _ e=>g.fr e) (λ_ e=>e) (λ_ e=>e),(jn.nB _ _ λh=>?_).trans f,j,w,?_⟩
  .rw[h,l]at j;cases j
  .have⟨x,z⟩:=bH.mp y;rw[g.fr z];rfl
def E7 (Kf:Frag)(fn:sY)(av:AV)(J:jW)(K:jy->jW->Prop):Prop:=match av with
 |.lst l=>K l J
 |.tup l=>K l J
 |.ref k=>q9 Kf fn (.ref k) J λl cond g_=>cond g_->K l g_
 |_=>False
def BS (h:cj)(I a:iJ)(vs:bM ae):Prop:=(h.IsListIter I a 0/\h.IsList a vs)∨(h.IsTupleIter I a 0/\h.IsTuple a vs)
def Qh (S:Sys)(V:jj)(F:jn)(fs:jS)(R:mO)(K:jy->jW->Prop)(it:ae)(s:aj):Prop:=∃jF F' g_ I o a vs l,it=.ref I/\j8 V jF F F'/\j4 S jF F' g_ fs ((I,o)::R) s/\BS s.heap I a vs/\a≠I/\jV jF F' vs.toList l/\K l g_
def KH(P:kJ S.B Kf)(Q:ka S d fn){v:ae}(fa:kj (d+1) true fs A)(H:j4 S V F J fs R s)(r:kQ V F v av)(h:E7 Kf fn av J KL):
  kY S A (pyIter v) (Qh S V F fs R KL) E s:=by
 unfold E7 at h;split at h
 .rename_i l;cases r with
  |lst e w y L=>rename_i a o vs n;have c:=H.lw _ _ e;apply eJ ⟨o,c,w,n,y⟩;have z:=am s.heap (o:={cls:=.type "list_iterator",data:=.fields #[.ref a,.int 0 0]}) rfl;have D:=aq (h:=s.heap) (ao _);have m:=H.oU (t:=s.toks) (λb o e=>ad _ e) D z;exact⟨V,F,J,_,_,a,vs,l,rfl,.refl _ _,m,.inl ⟨⟨_,z,rfl,rfl⟩,⟨o,ad _ c,w,n,y⟩⟩,(λq=>by rw[q]at c;rw[D]at c;cases c),L,h⟩
 .rename_i l;cases r with
  |tup e w y L=>rename_i a o vs n;have c:=H.lw _ _ e;apply f8 ⟨o,c,w,n,y⟩;have z:=am s.heap (o:={cls:=.type "tuple_iterator",data:=.fields #[.ref a,.int 0 0]}) rfl;have D:=aq (h:=s.heap) (ao _);have m:=H.oU (t:=s.toks) (λb o e=>ad _ e) D z;exact⟨V,F,J,_,_,a,vs,l,rfl,.refl _ _,m,.inr ⟨⟨_,z,rfl,rfl⟩,⟨o,ad _ c,w,n,y⟩⟩,(λq=>by rw[q]at c;rw[D]at c;cases c),L,h⟩
 .rename_i k;unfold q9 at h;dsimp only at h;split at h
  .rename_i C dl e2;have⟨hi,h⟩:=h;have⟨f,T,h⟩:=jo h;obtain⟨x,ox,od,rfl,hx,I⟩:=lC H r hi;refine w_ (P.here H) I T (qt (ai ((Q.less (eo d)).wp h fa H (.cons r .nil)) (λv s' p=>?_) λ_ _ e=>e));obtain⟨jF,F',av,U,g,m,W,u⟩:=p;split at u
   .rename_i j;split at u
    .rename_i i M;split at u
     .rename_i l K;cases W with
      |ref N=>
       rename_i O;have⟨b,X,G⟩:=m.cells j O _ N M;refine⟨"list_iterator",_,⟨_,G,rfl⟩,slot_listiter_next.lookup,?_⟩;have Y:=m.I0 N M (by intro h;cases h) G;have Z:j≠i:=λe=>by subst e;rw[M]at K;cases K
       have ZS:(U.set j .dead)[i]?=some (.list l):=by rw[ce Z];exact K
       have⟨vs,n,c,rl⟩:=m.cells i b _ X K;refine⟨jF,F',_,O,_,b,vs,l,rfl,g,Y,.inl ⟨⟨_,G,rfl,rfl⟩,⟨_,c,rfl,n,rfl⟩⟩,λq=>?_,rl,u ZS⟩;subst q;rw[c]at G;exact absurd (show(Value.type "list":ae)=.type "list_iterator" from cq Obj.cls (eY G)) (by decide)
     .exact u.elim
    .exact u.elim
   .exact u.elim
  .exact h.elim
 .exact h.elim
structure q_ (HJ:Env) (x:Str) (pI:cj) (fp wr:jj) (vs:bM ae) (y:Str) (qw:Nat->ae):Prop where
 at_:(y=x/\∀(i:Nat) v,vs[i]?=some v->qw i=v)∨(∃w c,(∀i,qw i=w)/\HJ.kindOf y=some .free/\HJ.cells.lookup y=some c/\c∈fp/\c∉wr/\pI.IsCell c (some w))
 dbg:(y==("__debug__":Str))=false
 cd:(y==("__classdict__":Str))=false
def I5 (V1 V2:Nat->ae):qA:=λi y h₀ h=>∃a,y=.ref a/\h₀.get? a=none/\h.get? a=some {cls:=.type "tuple",data:=.seq #[V1 i,V2 i]}
def Nw (b:Nat->aY):qA:=λi y _ _=>y=.bool (b i)
section
variable {pI:cj}{D U:Nat}
def u8{p:Pos}{a:Nat->ae}{v:ae}(d:h_.scope.kind=.function)(e:h_.kindOf x=some .local)(N:q_ h_ x pI fp wr vs y a)
  (f:vs[i]?=some v) (g:e_.heap.Ns h_.locals m₂) (j:m₂ x=some v) (k:∀b∈fp,b∉wr->∀o,pI.get? b=some o->e_.heap.get? b=some o) (q:Q (a i) e_):wpAny M A' (eval (.Name y p) h_) Q E' e_:=by
 refine wpAny_Name ?_ N.dbg;rcases N.at_ with⟨rfl,h⟩|⟨w,c,l,m,n,r,s,o,t,u⟩
 .rw[h i v f]at q;exact wpAny_loadName_local d e g j q
 .rw[l i]at q;exact wpAny_loadName_free d m n ⟨o,k c r s o t,u⟩ q N.cd
def Aa{v:ae}(a:h_.scope.kind=.function)(c:h_.kindOf x=some .local)(h:q_ h_ x pI fp wr vs u V1)(j:q_ h_ x pI fp wr vs v' V2)
  (d:vs[i]?=some v) (e:e_.heap.Ns h_.locals m₂) (f:m₂ x=some v) (g:∀b∈fp,b∉wr->∀o,pI.get? b=some o->e_.heap.get? b=some o)
  (q:Q (.ref e_.heap.objs.size) {e_ with heap:=e_.heap.push {cls:=.type "tuple",data:=.seq #[V1 i,V2 i]}}):wpAny (model a_ w) A' (eval (.Tuple [.Name u pu,.Name v' pv] kt pt) h_) Q E' e_:=by
 apply wpAny_Tuple;refine dU (u8 a c h d e f g ?_) rfl;refine dU (u8 a c j d e f g ?_) rfl;exact eA ⟨(show 2<=sizeLine by decide),q⟩
def TN(f:h_.scope.kind=.function)(g:h_.kindOf x=some .local)(j:q_ h_ x pI fp wr vs u V1)(k:q_ h_ x pI fp wr vs v' V2):
  tH a_ w h_ x (.Tuple [.Name u pu,.Name v' pv] kt pt) fp wr (λi v=>vs[i]?=some v) (I5 V1 V2) pI D U where
 elt A' E' i v e_ m₂ A B C l c n kp:=Aa f g j k l c n kp ⟨⟨_,rfl,aq (ao _),am _ rfl⟩,_,_,rfl,λb o e=>ad _ e⟩
 back i y h₀ E h p r s hw:=by
  obtain⟨a,rfl,c,t⟩:=p;refine⟨a,rfl,?_,t⟩;cases q:h₀.get? a with
  |none=>rfl
  |some o=>
   by_cases z:a=h_.locals
   .have⟨m,o',_,_,d,_⟩:=s;rw[z]at c;rw[c]at d;cases d
   .grind
def TP{z:Str}{pz:Pos}{j:Nat->ae}{Pz:ae->Prop}{e:Nat->El}(k:h_.scope.kind=.function)(l:h_.kindOf x=some .local)(q:q_ h_ x pI fp wr vs u V1)(r:q_ h_ x pI fp wr vs v' V2)(s:q_ h_ x pI fp wr vs z j)
  (t:∀(i:Nat) v,vs[i]?=some v->j i=.ref Sa) (K:Sa∈fp) (A:Sa∉wr) (L:jZ a_ w pI Sa els Pz) (B:∀p∈els,p.jJ=false) (C:∀h,(∀b∈fp,b∉wr->∀o,pI.get? b=some o->h.get? b=some o)->jZ a_ w h Sa els Pz)
  (E:∀(i:Nat) v,vs[i]?=some v->∀(h:cj) (a:iJ),h.get? a=some {cls:=.type "tuple",data:=.seq #[V1 i,V2 i]}->mL a_ w h (e i) (.ref a)) (F:∀(i:Nat) v,vs[i]?=some v->(e i).jJ=false) (M:U+100<cLine):
  tH a_ w h_ x (.Compare (.Tuple [.Name u pu,.Name v' pv] kt pt) [.In] [.Name z pz] pc) fp wr (λi v=>vs[i]?=some v) (Nw λi=>decide (e i∈els)) pI D U where
 elt A' E' i v e_ m₂ N O P c m n kp:=by refine wpAny_Compare1 (Aa k l q r c m n kp ?_) rfl;have H:=am e_.heap (o:={cls:=.type "tuple",data:=.seq #[V1 i,V2 i]}) rfl;refine u8 (e_:={e_ with heap:=e_.heap.push {cls:=.type "tuple",data:=.seq #[V1 i,V2 i]}}) k l s c (m.push _) n (λb d g o e=>ad _ (kp b d g o e)) ?_;rw[t i v c];refine G (tA (C _ λb d g o e=>ad _ (kp b d g o e)) (E i v c _ _ H) (λf I=>by rw[B f I,F i v c]) (by omega) λtk=>ac ?_);exact⟨rfl,_,_,rfl,λb o e=>ad _ e⟩
 back i y h₀ Q h J _ _ _:=J
end
def KJ:Expr->aY
 |.Name ..|.Attribute ..=>true
 |_=>false
def tI (c:nW)(b_:dF)(x:Str)(iter:Expr):aY:=!b_.isCoroutine&&b_.names.all (λp=>p.2 !=.cell)&&b_.names.lookup (".0":Str)==some NameKind.local&&b_.names.lookup x==some NameKind.local&&b_.kind==.function&&b_.names.all (λp=>p.2 !=.free||m5 p.1 (c.scope.names.lookup p.1))&&KJ iter
def tJ (tb:jj)(code:ae):aY:=match code with
 |.ref cc=>tb.contains cc
 |_=>false
def KM (B:wG)(tb:jj):Prop:=∀cc∈tb,∃P q,(cc,P,q)∈B.tabs
def E8{Q:iJ->aj->Prop}{r:iJ}(b:tj S.B)(H:j4 S V F J fs R s)(q:Q builtinsNs s):wpAny M A (builtinsFor mainGlobals r) Q E s:=by have⟨o,es,n,bm,u,c,d,f,g,h,i,j,a,k,l⟩:=b.ex;have p:=H.lw _ _ (H.base _ _ c d);have t:=H.lw _ _ (H.base _ _ j (by rw[a];intro e;cases e));exact wpAny_builtinsFor (m:=nsFind es) ⟨o,es,n,p,f,g,λ_=>rfl⟩ h i t a k l q
def E9(j:sF S.B){c P:iJ}{k l:Str}(d:(c,P,k)∈S.B.tabs)(f:env.code=.ref c)(H:j4 S V F J fs R s)
  (q:∀a F' h' tk,j8 V V F F'->j4 S V F' J fs R {s with heap:=h',toks:=tk}->Heap.ExtBut P s.heap h'->Q a {s with heap:=h',toks:=tk}):kY S A (genexprCode env pos l b_) Q E s:=by
 have⟨⟨ps,i1,i2,w⟩,y2,y3,y4,y5⟩:=H.tabs _ d;cases h:codeAmong pos ps.toList with
 |some a=>exact wpAny_genexprCode_hit f i1 h (q a F s.heap s.toks (.refl _ _) (H.tok _) (λb o _ e=>e))
 |none=>refine wpAny_genexprCodeX f i1 i2 h λc' h' tk i m x n p r _=>?_;obtain⟨o,vs,t,_,_,u,g,_⟩:=H.Ix j (tk:=tk) d i1 i2 i m n p r;exact q _ _ h' tk g u i
def qB:∀{l:List (Str×cF)}{x:Str}{k:cF},l.lookup x=some k->(x,k)∈l
 |(y,b)::r,x,k,h=>by
  rw[kh]at h;by_cases a:x=y
  .rw[aB a]at h;cases h;subst a;exact .head _
  .rw[aA a]at h;exact .tail _ (qB h)
def E_(TB:sF S.B)(GA:tj S.B)(k1:kJ S.B Kf)(l9:ka S d fn)(Nx:KM S.B tb)(hE:l7 S (d+1) fE)
  (qT:tI c b_ x iter=true) (KO:tJ tb c.code=true) (hc:c.calm=true) (h:fE c iter Y J (λav iT=>E7 Kf fn av iT KL) X) (fa:kj (d+1) c.calm (f::fs) A) (ff:nC c f) (hv:f.vars=Y) (H:j4 S V F J (f::fs) R s)
  (q:∀jF F' g_ I oI a vs l C oC ga oG g h_ M,j8 V jF F F'->j4 S jF F' g_ (f::fs) ((ga,oG)::(C,oC)::(I,oI)::R) M->BS M.heap I a vs->a≠I->a≠C->jV jF F' vs.toList l->KL l g_->h_.scope=b_->h_.locals=C->h_.cells=kR b_.names f.env []->
   (∀(fp:jj) (mQ:qA),I∈fp->a∈fp->C∉fp->tH S.prog S.w h_ x iV fp [I] (λi v=>vs[i]?=some v) mQ M.heap (A.depth+1) (A.units+8)->sv S.prog S.w A.in4 ga g C fp [I] vs.size mQ 0 M)->Q (.ref ga) M):
  kY S A (eval (.GeneratorExp iV [⟨.Name x px,iter,[],0⟩] b_ pos) f.env) Q (oW S V F (f::fs) R X) s:=by
 simp only[tI,aJ,bJ,aZ,cz,dC,iI,aG]at qT;have⟨⟨⟨⟨⟨⟨K,N⟩,o3⟩,o4⟩,o5⟩,o6⟩,o7⟩:=qT;have T:=H.top;have Ey:closureFor b_ f.env=pure (kR b_.names f.env []):=qQ λq O hf=>by
  rcases o6 q O with h|h
  .exact absurd hf h
  .have⟨a,_,e,_⟩:=T.cells q.1 (by show m5 q.1 (f.env.scope.names.lookup q.1)=true;rw[ff.1];exact h);exact⟨a,e⟩
 have tm:∃L P q0,f.env.code=.ref L/\(L,P,q0)∈S.B.tabs:=by
  unfold tJ at KO;split at KO
  .rename_i L zv;have⟨P,q0,O⟩:=Nx L (by simpa using KO);exact⟨L,P,q0,ff.2.2.2.1.trans zv,O⟩
  .cases KO
 have⟨L,P,q0,zv,ht⟩:=tm;rw[hc]at fa;refine wpAny_GeneratorExp_make K Ey (λy hy e=>N y hy e) o3 o5 fa.room ?_ (λv=>by cases iter<;>first|rfl|cases o7);refine ai (hE c iter Y J _ X h V F f fs R s A (hc▸fa) ff hv H) (λxv jw p=>?_) λ_ _ e=>e;have⟨jq,jL,av,iT,jQ,d_,kG,kk⟩:=p;refine ai (KH (E:=oW S V F (f::fs) R X) k1 l9 fa d_ kG kk) (λit e_ p=>?_) λ_ _ e=>e;obtain⟨jP,ke,jf,I,oI,a,vs,l,rfl,jY,D,jl,o8,rs,kl⟩:=p;refine⟨D.lim,E9 TB ht zv D λcv nA r j lL kK hx=>?_⟩;rw[ff.2.1];refine E8 GA kK λh' YP uz=>?_;have hP:=(D.tabs _ ht).2.2.1;have hPk:P≠cStatics:=(D.tabs _ ht).2.2.2.1;dsimp only at hP hPk;have U:∀b o,r.get? b=some o->h'.get? b=some o:=λb o e=>uz.extBut b o (dM (ck e)) (ad _ e);have⟨oC,_,_,WV,_⟩:=id YP;have mt:=kK.oU (h':=h') (t:=j) U (aq (h:=r) (ao _)) WV;have YQ:=am h' (o:={cls:=.type "generator",data:=.fields #[.int e_.gens.size 0,.str "<genexpr>" (j+1),.str (f.env.qual++"<genexpr>") (j+1+1)]}) rfl;have wY:=mt.oU (h':=h'.push _) (t:=j+1+1+1) (λb o e=>ad _ e) (aq (h:=h') (ao _)) YQ;have A9:=wY.Nt (iL:=[]) (jt:=[]) (dr:=e_.drawn) (t:=j+1+1+1) rfl (λ_ _ _ e=>e) (by intro p h;cases h) (AllBare.push (g:=.fresh (.compStart (.GeneratorExp iV [⟨.Name x px,iter,[],0⟩] b_ pos) 0 (.ref I) .none (genEnv b_ (kR b_.names f.env []) r.objs.size cv builtinsNs f.env))) D.bare rfl);have up:∀b o,b≠P->e_.heap.get? b=some o->(h'.push {cls:=.type "generator",data:=.fields #[.int e_.gens.size 0,.str "<genexpr>" (j+1),.str (f.env.qual++"<genexpr>") (j+1+1)]}).get? b=some o:=λb o hb e=>ad _ (U b o (hx b o hb e));have W:I≠P:=λe=>by have:=(D.new I (ag _ (ag _ (.head _)))).2;rw[e]at this;rw[this]at hP;cases hP
 have G:a≠P:=λe=>by have⟨⟨ps,_,i2,_⟩,_⟩:=D.tabs _ ht;have Xp:=i2.2;dsimp only at Xp;rcases jl with⟨_,⟨o,u,_,n,hd⟩⟩|⟨_,⟨o,u,_,n,hd⟩⟩<;>(rw[e]at u;rw[Xp]at u;cases u;cases hd)
 have Xq:BS (h'.push {cls:=.type "generator",data:=.fields #[.int e_.gens.size 0,.str "<genexpr>" (j+1),.str (f.env.qual++"<genexpr>") (j+1+1)]}) I a vs:=by
  rcases jl with⟨⟨K,p1,p2⟩,⟨N,p3,p4⟩⟩|⟨⟨K,p1,p2⟩,⟨N,p3,p4⟩⟩
  .exact .inl ⟨⟨K,up _ _ W p1,p2⟩,⟨N,up _ _ G p3,p4⟩⟩
  .exact .inr ⟨⟨K,up _ _ W p1,p2⟩,⟨N,up _ _ G p3,p4⟩⟩
 have GG:a≠r.objs.size:=λe=>by have hn:r.get? r.objs.size=none:=aq (ao _);rcases jl with⟨_,⟨o,u,_⟩⟩|⟨_,⟨o,u,_⟩⟩<;>(have:=hx _ _ G u;rw[e,hn]at this;cases this)
 refine q jP nA jf I oI a vs l r.objs.size oC h'.objs.size _ e_.gens.size (genEnv b_ (kR b_.names f.env []) r.objs.size cv builtinsNs f.env) _ ((jQ.trans jY).trans lL) A9 Xq o8 GG (rs.mono lL) kl rfl rfl rfl λfp mQ hI ha hC O=>?_;have hh:A.in4.handled=none:=fa.calm rfl;have SB:∀i h,((λ(i:Nat) (h:cj)=>(h.IsListIter I a i/\h.IsList a vs)∨(h.IsTupleIter I a i/\h.IsTuple a vs)) i h)->∀b∈[I],∃o,h.get? b=some o:=λi h st b hb=>by rw[aN.mp hb];rcases st with⟨⟨o,u,_⟩,_⟩|⟨⟨o,u,_⟩,_⟩<;>exact⟨o,u⟩
 have gh:sv S.prog S.w A.in4 h'.objs.size e_.gens.size r.objs.size fp [I] vs.size mQ 0 {heap:=h'.push {cls:=.type "generator",data:=.fields #[.int e_.gens.size 0,.str "<genexpr>" (j+1),.str (f.env.qual++"<genexpr>") (j+1+1)]},gens:=e_.gens.push (.fresh (.compStart (.GeneratorExp iV [⟨.Name x px,iter,[],0⟩] b_ pos) 0 (.ref I) .none (genEnv b_ (kR b_.names f.env []) r.objs.size cv builtinsNs f.env))),drawn:=e_.drawn,toks:=j+1+1+1,os:=e_.os}:=by
  refine sv.fresh (A:=A.in4) (h_:=genEnv b_ (kR b_.names f.env []) r.objs.size cv builtinsNs f.env) (P:=λi v=>vs[i]?=some v) (jd:=λi h=>(h.IsListIter I a i/\h.IsList a vs)∨(h.IsTupleIter I a i/\h.IsTuple a vs)) (m:=λy=>if y=".0" then some (.ref I)else none) hh (λA' hA=>?_) SB mQ o4 (by simp[genEnv,o5]) K hC O ⟨_,_,_,YQ,rfl,rfl,rfl⟩ (gO ..) Xq (YP.push _) A9.lim;have Z:=(Walks.list (prog:=S.prog) (w:=S.w) (A:=A') hA I a o8 vs).mono_fp (fp':=fp) (λb hb=>by rcases af.mp hb with rfl|hb;exact hI;rw[aN.mp hb];exact ha);have WT:=(Walks.tuple (prog:=S.prog) (w:=S.w) (A:=A') hA I a o8 vs).mono_fp (fp':=fp) (λb hb=>by rcases af.mp hb with rfl|hb;exact hI;rw[aN.mp hb];exact ha);exact{
   sub:=Z.sub
   frame:=λi h h' st k=>st.elim (λst=>.inl (Z.frame i h h' st k)) λst=>.inr (WT.frame i h h' st k)
   item:=λi s Q E hi st z=>st.elim (λst=>Z.item i s Q E hi st λv h' tk p Vb k=>z v h' tk p (.inl Vb) k) λst=>WT.item i s Q E hi st λv h' tk p Vb k=>z v h' tk p (.inr Vb) k
   done:=λs Q E st z=>st.elim (λst=>Z.done s Q E st z) λst=>WT.done s Q E st z
   self:=λi s Q E st z=>st.elim (λst=>Z.self i s Q E st z) λst=>WT.self i s Q E st z}
 exact gh
def Holds.RL{s':aj}(H:j4 S V F J fs ((ga,oG)::(C,oC)::(I,oI)::R) s)(st:Nq C [I] s s')(j:∃h,s'.heap.Ns C h)(l:∀b∈[I],∃o,s'.heap.get? b=some o):
  ∃a c,j4 S V F J fs ((ga,oG)::(C,a)::(I,c)::R) s':=by
 obtain⟨h',tk,iY,rfl,k,m⟩:=st;have⟨h,a,_,_,n,_⟩:=j;have⟨c,d⟩:=l I (by simp);have f:=(aK.mp (aK.mp (show(jT V J++(pC fs++((ga,oG)::(C,oC)::(I,oI)::R).map (·.1))).Nodup from H.nd)).2.1).2.1;simp only[bg,aL,af,eZ]at f;refine⟨a,c,H.Nt (iL:=[(ga,oG),(C,oC),(I,oI)]) (jt:=[(ga,oG),(C,a),(I,c)]) (R:=R) (dr:=s.drawn) rfl (λb o g e=>?_) (λp i=>?_) (m H.bare)⟩
 .simp only[bg,hW,af,bl,cI,eZ]at g;exact k b o g.2.1 (by simp[g.2.2]) e
 .simp only[af,bl,cI]at i;rcases i with rfl|rfl|rfl
  .exact k _ _ f.1.1 (by simp[f.1.2.1]) (H.res _ (.head _))
  .exact n
  .exact d
structure I7 (S:Sys) (id:String) (op:iJ->ae->Sem aY) (step:kr->El->kr) (ok:kr->Prop):Prop where
 ent:∃b,entryFor table id=some b/\∀Sa it,b ⟨[.ref Sa,it],[]⟩=(pyNext it>>=λr=>match r with|none=>ret .none|some x=>(holding [x] (op Sa x)>>=λ_=>again (.builtin id ⟨[.ref Sa,it],[]⟩)))
 pl:plainId id=true
 run:∀(A:bO) (E:nz) (s:aj) (a:iJ) (els:kr) (e:El) (x:ae) (P:ae->Prop) (Q:aY->aj->Prop),jZ S.prog S.w s.heap a els P->mL S.prog S.w s.heap e x->(∀f∈els,f.jJ=e.jJ)->e≠.many []->P x->ok els->A.units<cLine->
  (∀h' tk bb,Heap.SameBut a s.heap h'->jZ S.prog S.w h' a (step els e) P->Q bb {s with heap:=h',toks:=tk})->kY S A (op a x) Q E s
 one:∀els e,(∀f∈els,f.jJ=false)->e.jJ=false->∀f∈step els e,f.jJ=false
def stepOk(step:kr->El->kr)(ok:kr->Prop):kr->kr->Prop
 |_,[]=>True
 |els,e::es=>ok els/\stepOk step ok (step els e) es
def KP(ok:ml S){id:String}{op:iJ->ae->Sem aY}{step:kr->El->kr}{U:kr->Prop}(O:I7 S id op step U){n:Nat}(W:A.handled=none)(X:A.depth<recursionLimit)(hu:A.units+10<cLine)
  (sV:cStatics∈fp) (TQ:Sa∉fp) (hIf:I∈fp):∀(es:kr) (j:Nat) (els:kr) (V:jj) (F:jn) (J:jW) (oC oI:dq) (s:aj),j+es.length=n->(∀i e,es[i]?=some e->∃c l,e=.many [c,l]/\kQ V F (V1 (j+i)) (.str c)/\kQ V F (V2 (j+i)) (.str l))->(∀f∈els,f.jJ=false)->stepOk step U els es->
   sv S.prog S.w A.in1.in1.in1 ga g C fp [I] n (I5 V1 V2) j s->j4 S V F J fs ((ga,oG)::(C,oC)::(I,oI)::R) s->V[k]?=some Sa->J[k]?=some (.set els)->
   (∀jF F' m,j8 V jF F F'->j4 S jF F' (J.set k (.set (es.foldl step els))) fs R m->Rr (.ok (.ret .none)) m)->codeAny (p_ S) A (.builtin id ⟨[.ref Sa,.ref ga],[]⟩) Rr s:=by
 have⟨b,u,x⟩:=O.ent;intro es;induction es with
 |nil=>
  intro j els V F J oC oI s K L M N D H r a q;apply bj u;rw[aV O.pl _,x];rw[show j=n by simpa using K]at D;refine G (fy (fy (D.done W X λm st=>?_)));apply ac;obtain⟨h',tk,iY,rfl,kk,Nr⟩:=st;have e:J.set k (.set ([].foldl step els))=J:=by have⟨P6,yH⟩:=aC.mp a;show J.set k (.set els)=J;rw[<-yH];exact List.set_getElem_self P6
  apply q V F _ (.refl _ _);rw[e];exact H.I4 (iL:=[(ga,oG),(C,oC),(I,oI)]) (dr:=s.drawn) (λb o hb e=>by simp only[bg,hW,af,bl,cI,eZ]at hb;exact kk b o hb.2.1 (by simp[hb.2.2]) e) (Nr H.bare)
 |cons e es ih=>
  intro j els V F J oC oI s K L M N D H r a q;apply bj u;rw[aV O.pl _,x];have iP:j+1+es.length=n:=by simp only[aI]at K;omega
  have P:=(aK.mp (aK.mp (show(jT V J++(pC fs++((ga,oG)::(C,oC)::(I,oI)::R).map (·.1))).Nodup from H.nd)).2.1).2.1;simp only[bg,aL,af,eZ]at P;have inR:∀p∈((ga,oG)::(C,oC)::(I,oI)::R),p.1≠cStatics:=λp Q e=>by have:=(H.new p.1 (ag _ (ag _ (bz Q)))).2;have st:=H.mS;rw[e]at this;rw[this]at st;cases st
  refine G (fy (fy (D.item W X P.1.1 (by simp[P.1.2.1]) (λe=>inR (C,oC) (by simp) e.symm) (by simpa using λe=>inR (I,oI) (by simp) e.symm) (by omega) λv m hF hC hI G' st=>?_)));obtain⟨Y,rfl,hn,ho⟩:=hF;have⟨E,T,H'⟩:=H.RL st hC hI;have⟨f1,f2,f3⟩:=H.fresh hn;have⟨y,B⟩:=H'.adopt f1 f2 f3 ho;obtain⟨c,l,rfl,Z,r2⟩:=L 0 e rfl;rw[fc]at Z r2;have rv:kQ V (F.put Y {cls:=.type "tuple",data:=.seq #[V1 j,V2 j]}) (.ref Y) (p7 (.many [c,l])):=.tup (jn.lf _ _ _) rfl rfl (.cons (Z.mono B) (.cons (r2.mono B) .nil));have Sx:=y.setAt ok r a;refine G (aF (O.run _ _ _ Sa els (.many [c,l]) _ _ _ Sx (nM y.lw rv) (λf hf=>by rw[M f hf];rfl) (by intro h;injection h with h;cases h) ⟨_,rv⟩ N.1 (by show A.units+1<cLine;omega) λHg tk bb k1 k2=>?_));have kK:=y.xJ (t:=tk) (d:=m.drawn) ok r a k1 k2;have hSl:=y.live r a (by intro h;cases h);have LX:=(aK.mp (show(jT V J++(pC fs++((ga,oG)::(C,E)::(I,T)::R).map (·.1))).Nodup from y.nd)).2.2;have Wf:∀p∈((ga,oG)::(C,E)::(I,T)::R),p.1≠Sa:=λp Q e=>LX Sa (lx r a (by intro h;cases h)) p.1 (ag _ (bz Q)) e.symm;have TS:sv S.prog S.w A.in1.in1.in1 ga g C fp [I] n (I5 V1 V2) (j+1) {m with heap:=Hg,toks:=tk}:=G'.frame sV λb hb o e=>k1.extBut b o (λz=>by
   subst z;rcases af.mp hb with h|hb
   .exact Wf (ga,oG) (by simp) h.symm
   .rcases af.mp hb with h|hb
    .exact Wf (C,E) (by simp) h.symm
    .exact TQ hb) e
  refine ac ⟨bS O.pl _,ih (j+1) (step els (.many [c,l])) V _ _ E T _ iP (λi e hi=>?_) (O.one _ _ M rfl) N.2 TS kK r (cK (aC.mp a).1) λoE sj rB nD mt=>q oE sj rB (B.trans nD) (by rw[iF]at mt;exact mt)⟩;obtain⟨y1,y2,rfl,q1,q2⟩:=L (i+1) e hi;rw[show j+(i+1)=j+1+i by omega]at q1 q2;exact⟨y1,y2,rfl,q1.mono B,q2.mono B⟩
def uE (sc:dF)(x:Str)(Y:j9)(y:Str):az (az Str):=
 if(y==("__debug__":Str)||y==("__classdict__":Str))=true then none
 else if y=x then some none
 else if sc.names.lookup y==some NameKind.free then(match Y.lookup y with
  |some (.str z)=>some (some z)
  |_=>none)
 else none
def tK:az Str->Str->Str
 |none,a=>a
 |some z,_=>z
def kU (n1 n2:az Str)(ss:jK):kr:=ss.map λa=>.many [tK n1 a,tK n2 a]
def KQ:I7 S "set.update.loop" setAdd lj (λels=>els.length<31) where
 ent:=⟨_,dw,λSa it=>by show(pyNext it>>=_)=_;congr 1;funext r;cases r<;>rfl⟩
 pl:=cQ
 run:=λA E s a els e x P Q b c d g i j k q=>uc b c d g i j k q
 one:=λels e l m f n=>by
  rcases(nt _ _ _).mp n with h|rfl
  .exact l f h
  .exact m
def KR:plainId "set.difference_update.loop"=true:=by tm_at"d"
def KT:entryFor table "set.difference_update.loop"=some Builtin.«set.difference_update.loop»:=fK (by kernel_rfl)
def Qi:I7 S "set.difference_update.loop" setDiscard List.erase (λ_=>True) where
 ent:=⟨_,KT,λSa it=>by show(pyNext it>>=_)=_;congr 1;funext r;cases r<;>rfl⟩
 pl:=KR
 run:=λA E s a els e x P Q b c d l m n g q=>qX b c d g λh' tk h i=>q h' tk _ h i
 one:=λels e j o f k=>j f (fC k)
def Ab{v:ae}{Q:aY->aj->Prop}(a:s.TypeIs v "generator")(q:Q false s):wpAny M A (Frozenset.isAnySet v) Q E s:=by unfold Frozenset.isAnySet;refine G (bN (b:=false) a (by rw[b5];kernel_rfl) ?_);exact bN (b:=false) a (by rw[b5];kernel_rfl) q
def yu(d:s.TypeIs (.ref Sa) "set")(b:s.heap.IsGen ga g)(h:codeAny (p_ S) A.in1 (.builtin "set.update.loop" ⟨[.ref Sa,.ref ga],[]⟩) (λr c=>r=.ok (.ret .none)/\Q .none c) s):
  kY S A (call (.builtin "set.update") [.ref Sa,.ref ga]) Q E s:=by
 refine bn gZ d PySem.F.entry_set_update ?_ (PySem.F.args_set_update_2 _ _);unfold Builtin.«set.update»;refine G (m:=Frozenset.manyOthers "update" _) (bC (a:=(Sa,[.ref ga])) rfl ?_);dsimp only;rw[cW];refine G (G ?_);unfold Frozenset.updateFrom;refine G (G (Ab b.typeIs ?_));simp only[au,bD];refine G (cX b.typeIs ?_);rw[aA (by decide)];refine G (g9 b ?_);refine G (eR (b7 h λr c p=>?_));obtain⟨rfl,p⟩:=p;refine ac (ac ?_);dsimp only;rw[dW];exact ac (ac ⟨_,rfl,p⟩)
def Bf(d:s.TypeIs (.ref Sa) "set")(b:s.heap.IsGen ga g)(f:ga≠Sa)(h:codeAny (p_ S) A.in1 (.builtin "set.difference_update.loop" ⟨[.ref Sa,.ref ga],[]⟩) (λr c=>r=.ok (.ret .none)/\kY S A.in1 (setTidy Sa) (λ_ e_=>Q .none e_) E c) s):
  kY S A (call (.builtin "set.difference_update") [.ref Sa,.ref ga]) Q E s:=by
 refine bn e8 d PySem.F.entry_set_difference_update ?_ (PySem.F.args_set_difference_update_2 _ _);unfold Builtin.«set.difference_update»;refine G (m:=Frozenset.manyOthers "difference_update" _) (bC (a:=(Sa,[.ref ga])) rfl ?_);dsimp only;rw[cW];refine G (G ?_);unfold Frozenset.differenceUpdate;rw[aA (by simpa using f)];refine G (G (Ab b.typeIs ?_));simp only[au,bD];refine G (g9 b ?_);refine G (eR (b7 h λr c p=>?_));obtain⟨rfl,p⟩:=p;refine ai p (λ_ e_ q=>?_) λ_ _ e=>e;apply ac;dsimp only;rw[dW];exact ac (ac ⟨_,rfl,q⟩)
noncomputable def I8(Kf:Frag)(fn:sY)(tb:jj)(fE:rT)(c:nW)(o:Expr)(name:Str)(apos:Pos)(u v:Str)(x:Str)(iter:Expr)(b_:dF)(pos:Pos)(Y:j9)(J:jW)(K:KV)(X:KX):Prop:=
 (name="update"∨name="difference_update")/\rG o=true/\(apos.endLine==pos.line)=true/\c.calm=true/\tI c b_ x iter=true/\tJ tb c.code=true/\
  fE c o Y J (λov iT=>match ov with
   |.ref k=>ky (uE b_ x Y u) λn1=>ky (uE b_ x Y v) λn2=>(∃els,iT[k]?=some (.set els))/\
     fE c iter Y iT (λav jf=>E7 Kf fn av jf λl j1=>ky (nF l) λss=>match j1[k]? with
      |some (.set els)=>(∀f∈els,f.jJ=false)/\(if name="update" then stepOk lj (λels=>els.length<31) els (kU n1 n2 ss)/\K .none (j1.set k (.set ((kU n1 n2 ss).foldl lj els)))
        else name="difference_update"/\els.length<=31/\K .none (j1.set k (.set ((kU n1 n2 ss).foldl List.erase els))))
      |_=>False) X
   |_=>False) X
def tL:∀{l:lB}{x:Str}{b:iJ},l.lookup x=some b->(x,b)∈l
 |(y,c)::r,x,k,h=>by
  rw[kh]at h;by_cases a:x=y
  .rw[aB a]at h;cases h;subst a;exact .head _
  .rw[aA a]at h;exact .tail _ (tL h)
def sw(a:tI c b_ x iter=true)(d:nC c f)(H:j4 S V F J (f::fs) R s){b:iJ}(h:(y,b)∈kR b_.names f.env []):
  b∈pC (f::fs)/\∃v,s.heap.IsCell b v/\n9 V F v (f.vars.lookup y):=by
 simp only[tI,aJ,bJ,aZ,cz,dC,iI,aG]at a;have⟨⟨_,g⟩,_⟩:=a;rcases qb h with h|⟨i,j⟩
 .cases h
 .rcases g _ i with q|q
  .exact absurd rfl q
  .have⟨n,v,e,k,l,m⟩:=H.top.cells y (by show m5 y (f.env.scope.names.lookup y)=true;rw[d.1];exact q);rw[j]at e;cases e;exact⟨by unfold pC;rw[cR];exact k,v,l,m⟩
def yK{n:az Str}(j:tI c b_ x iter=true)(m:nC c f)(B:f.vars=Y)(H:j4 S V F J (f::fs) R s)(d:uE b_ x Y y=some n)(C:h_.scope=b_)(D:h_.cells=kR b_.names f.env [])
  (g:∀p∈kR b_.names f.env [],p.2∈fp/\p.2∉[I]):∃o:Nat->ae,q_ h_ x s.heap fp [I] vs y o/\∀(i:Nat) v a,vs[i]?=some v->kQ V F v (.str a)->kQ V F (o i) (.str (tK n a)):=by
 unfold uE at d;split at d
 .cases d
 .rename_i h;simp only[cz,eZ,Bool.not_eq_true]at h;split at d
  .rename_i E;cases d;exact⟨λi=>(vs[i]?).getD .none,⟨.inl ⟨E,λi v e=>by show(vs[i]?).getD Value.none=v;rw[e];rfl⟩,h.1,h.2⟩,λi v a e r=>by show kQ V F ((vs[i]?).getD Value.none) _;rw[e];exact r⟩
  .split at d
   .rename_i t;split at d
    .rename_i z G;cases d;have u:=qB (aG.mp t);have:∃a,f.env.cells.lookup y=some a:=by
      simp only[tI,aJ,bJ,aZ,cz,dC,iI,aG]at j;rcases j.1.2 _ u with q|q
      .exact absurd rfl q
      .have⟨a,_,e,_⟩:=H.top.cells y (by show m5 y (f.env.scope.names.lookup y)=true;rw[m.1];exact q);exact⟨a,e⟩
     have⟨M,K⟩:=rY (c_:=b_.names) (f_:=[]) (.inl ⟨u,this⟩);have⟨b,A⟩:=mE K;have k:=tL A;have⟨_,v,L,l⟩:=sw j m H k;rw[B,G]at l;cases v with
     |none=>exact l.elim
     |some w=>exact⟨λ_=>w,⟨.inr ⟨w,b,λ_=>rfl,by show h_.scope.names.lookup y=_;rw[C];exact aG.mp t,by rw[D];exact A,(g _ k).1,(g _ k).2,L⟩,h.1,h.2⟩,λ_ _ _ _ _=>l⟩
    .cases d
   .cases d
def HO{e:El}(h:(kU n1 n2 ss)[i]?=some e):∃a,ss[i]?=some a/\e=.many [tK n1 a,tK n2 a]:=by
 unfold kU at h
 grind
def YR (I a:iJ)(cl:lB):jj:=I::a::cStatics::cl.map (·.2)
def BU{a:iJ}(m:tI c b_ x iter=true)(q:nC c f)(H:j4 S V F J (f::fs) ((ga,oG)::(C,oC)::(I,oI)::R) s)(r:BS s.heap I a vs)(u:a≠C)(M:a≠I):
  C∉YR I a (kR b_.names f.env [])/\(∀p∈kR b_.names f.env [],p.2∈YR I a (kR b_.names f.env [])/\p.2∉[I])/\
   ∀(k:Nat) (Sa:iJ) (els:kr),V[k]?=some Sa->J[k]?=some (.set els)->(∃o es n t,s.heap.get? Sa=some o/\o.data=.set es n t)->Sa∉YR I a (kR b_.names f.env []):=by
 have l:=H.nd;unfold kz at l;have⟨n1,n2,w⟩:=aK.mp l;have⟨N,A,O⟩:=aK.mp n2;have e:=A;simp only[bg,aL,af,eZ]at e;have own:∀p∈kR b_.names f.env [],p.2∈pC (f::fs):=λp g=>(sw m q H (y:=p.1) (b:=p.2) g).1;have B:=(H.new C (ag _ (ag _ (by simp)))).2;have P:=(H.new I (ag _ (ag _ (by simp)))).2;refine⟨λh=>?_,λp g=>⟨?_,?_⟩,λk Sa els D E G h=>?_⟩
 .rcases af.mp h with h|h
  .exact e.2.1.1 h
  .rcases af.mp h with h|h
   .exact u h.symm
   .rcases af.mp h with h|h
    .have:=H.mS;rw[<-h,B]at this;cases this
    .grind
 .exact aO _ (aO _ (aO _ (bz g)))
 .grind
 .have d:=lx D E (by intro h;cases h);have⟨o,es,n,t,K,L⟩:=G;rcases af.mp h with h|h
  .exact w Sa d I (ag _ (by simp)) h
  .rcases af.mp h with h|h
   .subst h;rcases r with⟨_,⟨o',i,_,_,j⟩⟩|⟨_,⟨o',i,_,_,j⟩⟩<;>(rw[K]at i;cases i;rw[L]at j;cases j)
   .rcases af.mp h with h|h
    .have:=H.mS;have z:=(H.new Sa (aH _ d)).2;rw[<-h,z]at this;cases this
    .grind
def Da(ok:ml S)(TB:sF S.B)(GA:tj S.B)(k1:kJ S.B Kf)(l9:ka S d fn)(Nx:KM S.B tb)(hE:l7 S (d+1) fE){o:Expr}{v:Str}{m:Pos}
  (h:I8 Kf fn tb fE c o name m u v x iter b_ pos Y J K X):pD S (d+1) (eval (.Call (.Attribute o name m) [.GeneratorExp (.Tuple [.Name u pu,.Name v pv] kt pt) [⟨.Name x px,iter,[],0⟩] b_ zR] [] pos)) c Y J K X:=by
 intro V F f fs R s A fa Z hv H;obtain⟨Tv,hb,hp,hc,qT,KO,h⟩:=h;rw[gM];have zP:attributeBase o name f.env (eval o f.env)=eval o f.env:=by cases o<;>first|rfl|cases hb
 rw[zP];refine Ct (hE c o Y J _ X h V F f fs R s A fa Z hv H) λjq jL ov Xb iT jw jQ d_ kG P=>?_;refine G (bR ?_);cases Xb<;>first|exact P.elim|skip
 rename_i k;obtain⟨n1,SY,P⟩:=jo P;obtain⟨n2,U5,⟨zp,e0⟩,P⟩:=jo P;cases kG with
 |ref hk=>
 rename_i Sa;have fit:A.units+300<cLine:=by have:=fa.units;show A.units+300<9900;omega
 have mF:=fa.room;have hh:=fa.calm hc;unfold methodCall;have Tt:methodCallForm (([.GeneratorExp (.Tuple [.Name u pu,.Name v pv] kt pt) [⟨.Name x px,iter,[],0⟩] b_ zR]:j5).length+([]:List Keyword).length) (backTo pos (starEach [.GeneratorExp (.Tuple [.Name u pu,.Name v pv] kt pt) [⟨.Name x px,iter,[],0⟩] b_ zR] f.env)) (backToKw pos (keywordEach [] f.env))=true:=rfl;rw[Tt];refine G (aF ?_);obtain⟨t1,t2⟩:=zQ ok d_ hk e0;have Xu:∃id,Slot "set" name id/\typeOf (.builtin id)=pure (.type "method_descriptor")/\∀jF F' b I oI a vs l C oC ga oG g h_ (s':aj) els ss,j4 S jF F' b (f::fs) ((ga,oG)::(C,oC)::(I,oI)::R) s'->jF[k]?=some Sa->b[k]?=some (.set els)->nF l=some ss->jV jF F' vs.toList l->BS s'.heap I a vs->a≠I->a≠C->h_.scope=b_->h_.locals=C->h_.cells=kR b_.names f.env []->
   (∀f∈els,f.jJ=false)->(if name="update" then stepOk lj (λels=>els.length<31) els (kU n1 n2 ss)/\K .none (b.set k (.set ((kU n1 n2 ss).foldl lj els)))else name="difference_update"/\els.length<=31/\K .none (b.set k (.set ((kU n1 n2 ss).foldl List.erase els))))->
   (∀(fp:jj) (mQ:qA),I∈fp->a∈fp->C∉fp->tH S.prog S.w h_ x (.Tuple [.Name u pu,.Name v pv] kt pt) fp [I] (λi v=>vs[i]?=some v) mQ s'.heap (A.depth+1) (A.units+8)->sv S.prog S.w A.in4 ga g C fp [I] vs.size mQ 0 s')->
   kY S A (call (.builtin id) [.ref Sa,.ref ga]) (nP S jF F' (f::fs) R K) (oW S V F (f::fs) R X) s':=by
  have jI:∀{id:String}{op:iJ->ae->Sem aY}{step:kr->El->kr}{Vc:kr->Prop},I7 S id op step Vc->∀jF F' b I oI a vs l C oC ga oG g h_ (s':aj) els ss,j4 S jF F' b (f::fs) ((ga,oG)::(C,oC)::(I,oI)::R) s'->jF[k]?=some Sa->b[k]?=some (.set els)->nF l=some ss->jV jF F' vs.toList l->BS s'.heap I a vs->a≠I->a≠C->h_.scope=b_->h_.locals=C->h_.cells=kR b_.names f.env []->
   (∀f∈els,f.jJ=false)->stepOk step Vc els (kU n1 n2 ss)->
   (∀(fp:jj) (mQ:qA),I∈fp->a∈fp->C∉fp->tH S.prog S.w h_ x (.Tuple [.Name u pu,.Name v pv] kt pt) fp [I] (λi v=>vs[i]?=some v) mQ s'.heap (A.depth+1) (A.units+8)->sv S.prog S.w A.in4 ga g C fp [I] vs.size mQ 0 s')->
   s'.heap.IsGen ga g/\s'.TypeIs (.ref Sa) "set"/\ga≠Sa/\∀(Rr:Result->aj->Prop),(∀Q T e_,j8 jF Q F' T->j4 S Q T (b.set k (.set ((kU n1 n2 ss).foldl step els))) (f::fs) R e_->Rr (.ok (.ret .none)) e_)->codeAny (p_ S) A.in1 (.builtin id ⟨[.ref Sa,.ref ga],[]⟩) Rr s':=by
   intro id op step Vc O jF F' b I oI a vs l C oC ga oG g h_ s' els ss j q n E z L M N r U D uX y mk;have Sx:=j.setAt ok q n;have Sx0:=Sx;obtain⟨so,ses,sep,st,sl,GH,_,hsd,_⟩:=Sx;obtain⟨q1,q2,q3⟩:=BU qT Z j L N M;have q4:=q3 k Sa els q n ⟨so,ses,sep,st,GH,hsd⟩;obtain⟨V1,N1,rV1⟩:=yK (vs:=vs) qT Z hv j SY r D q2;obtain⟨V2,N2,rV2⟩:=yK (vs:=vs) qT Z hv j U5 r D q2;have KW:=qT;simp only[tI,aJ,bJ,aZ,cz,dC,iI,aG]at KW;obtain⟨⟨⟨⟨⟨⟨o1,o2⟩,o3⟩,o4⟩,o5⟩,o6⟩,o7⟩:=KW;have qj:=mk (YR I a (kR b_.names f.env [])) (I5 V1 V2) (.head _) (.tail _ (.head _)) q1 (TN (by rw[r];exact o5) (by show h_.scope.names.lookup x=_;rw[r];exact o4) N1 N2);have Ny:=oB E;have iP:vs.size=(kU n1 n2 ss).length:=by have:=z.length;rw[Ny]at this;unfold kU;simpa using this
   have nd:=(aK.mp (show(jT jF b++(pC (f::fs)++((ga,oG)::(C,oC)::(I,oI)::R).map (·.1))).Nodup from j.nd)).2.2;refine⟨qj.1,Sx0.typeIs,λe=>nd Sa (lx q n (by intro h;cases h)) ga (ag _ (by simp)) e.symm,λRr hq=>?_⟩;refine KP (A:=A.in1) ok O hh mF (by show A.units+1+10<cLine;omega) (.tail _ (.tail _ (.head _))) q4 (.head _) (kU n1 n2 ss) 0 els jF F' b oC oI s' (by rw[fj];exact iP.symm) (λi e he=>?_) uX y qj j q n hq;obtain⟨a',IT,rfl⟩:=HO he;have hl:l[i]?=some (.str a'):=by rw[Ny,bP,IT];rfl
   obtain⟨w,hw,W6⟩:=z.get hl;rw[ax]at hw;rw[fj];exact⟨_,_,rfl,rV1 i w a' hw W6,rV2 i w a' hw W6⟩
  by_cases hu:name="update"
  .refine⟨"set.update",by rw[hu];exact gZ,PySem.F.type_set_update,?_⟩;intro jF F' b I oI a vs l C oC ga oG g h_ s' els ss j q n E z L M N r U D uX y mk;rw[aB hu]at y;obtain⟨i1,i2,i3,lp⟩:=jI KQ jF F' b I oI a vs l C oC ga oG g h_ s' els ss j q n E z L M N r U D uX y.1 mk;exact yu i2 i1 (lp _ λQ T e_ jY jN=>⟨rfl,Q,T,_,_,jY,jN,.none,y.2⟩)
  .by_cases RM:name="difference_update"
   .refine⟨"set.difference_update",by rw[RM];exact e8,PySem.F.type_set_difference_update,?_⟩;intro jF F' b I oI a vs l C oC ga oG g h_ s' els ss j q n E z L M N r U D uX y mk;rw[aA hu]at y;have aaf:∀(es:kr) (els:kr),stepOk List.erase (λ_=>True) els es:=by
     intro es;induction es with
     |nil=>exact λ_=>trivial
     |cons e es ih=>exact λels=>⟨trivial,ih _⟩
    obtain⟨i1,i2,i3,lp⟩:=jI Qi jF F' b I oI a vs l C oC ga oG g h_ s' els ss j q n E z L M N r U D uX (aaf _ _) mk;refine Bf i2 i1 i3 (lp _ λQ T e_ jY jN=>⟨rfl,?_⟩);have ek2:=cK (a:=j3.set ((kU n1 n2 ss).foldl List.erase els)) (aC.mp n).1;have hle:∀(es:kr) (els:kr),(es.foldl List.erase els).length<=els.length:=by
     intro es;induction es with
     |nil=>exact λ_=>ao _
     |cons e es ih=>exact λels=>bq (ih _) (List.length_erase_le ..)
    refine PN (jN.setAt ok (jY.th q) ek2) (bq (hle _ _) y.2.1) λh' k1' k2'=>?_;have kK:=jN.xJ (t:=e_.toks) (d:=e_.drawn) ok (jY.th q) ek2 k1' k2';rw[iF]at kK;exact⟨Q,T,_,_,jY,kK,.none,y.2.2⟩
   .exact(Tv.elim hu RM).elim
 obtain⟨id,slot,ty,Xv⟩:=Xu;refine fk t1 ii slot ty t2 ?_;have Ho:methodCallPos true o f.env m pos=pure pos:=by unfold methodCallPos;rw[hp];rfl
 rw[Ho];refine G (ac ?_);refine mw (dU ?_ rfl) rfl;refine ai (E_ (X:=X) TB GA k1 l9 Nx hE qT KO hc P fa Z hv d_ λjF F' b I oI a vs l C oC ga oG g h_ s' gr j L M N z W r U D mk=>?_) (λ_ _ p=>p) λ_ _ p=>p.grow jQ;obtain⟨ss,E,W⟩:=jo W;refine eA ⟨md,?_⟩;split at W
 .rename_i els n;exact ai (Xv jF F' b I oI a vs l C oC ga oG g h_ s' els ss j (gr.th hk) n E z L M N r U D W.1 W.2 mk) (λ_ _ p=>p.grow (jQ.trans gr)) λ_ _ e=>e
 .exact W.elim
def KY{n:Nat}{b:Nat->aY}(D:A.handled=none)(E:A.depth<recursionLimit)(P:cStatics∈fp)(Q:Sl∉fp)(hn:n<=100000):
  ∀(m j:Nat) (f_:jy) (F:jn) (oC oI:dq) (vs:bM ae) (a:Nat) (s:aj),j+m=n->f_.length=j->jV V F vs.toList f_->sv S.prog S.w A.in1.in1 ga g C fp [I] n (Nw b) j s->j4 S V F J fs ((ga,oG)::(C,oC)::(I,oI)::(Sl,jX vs a)::R) s->
   (∀F' l y c,j8 V V F F'->j4 S V F' J fs ((Sl,jX l y)::R) c->jV V F' l.toList (f_++(List.range' j m).map λi=>.bool (b i))->Rr (.ok (.ret (.ref Sl))) c)->codeAny (p_ S) A (.builtin "list.extend.loop" ⟨[.ref Sl,.ref ga,.ref Sl],[]⟩) Rr s:=by
 intro m;induction m with
 |zero=>
  intro j f_ F oC oI vs a s T K r u H q;apply bj cP;rw[aV bG _];rw[show j=n by omega]at u;refine G (fy (u.done D E λc st=>?_));obtain⟨h',tk,iY,rfl,U,W⟩:=st;refine ac (q F vs a _ (.refl _ _) ?_ (by simpa using r));exact H.I4 (iL:=[(ga,oG),(C,oC),(I,oI)]) (dr:=s.drawn) (λb o hb e=>by simp only[bg,hW,af,bl,cI,eZ]at hb;exact U b o hb.2.1 (by simp[hb.2.2]) e) (W H.bare)
 |succ m X=>
  intro j f_ F oC oI vs a s T K r u H q;apply bj cP;rw[aV bG _];have d:=(aK.mp (aK.mp (show(jT V J++(pC fs++((ga,oG)::(C,oC)::(I,oI)::(Sl,jX vs a)::R).map (·.1))).Nodup from H.nd)).2.1).2.1;simp only[bg,aL,af,eZ]at d;have inR:∀p∈((ga,oG)::(C,oC)::(I,oI)::(Sl,jX vs a)::R),p.1≠cStatics:=λp Y e=>by have:=(H.new p.1 (ag _ (ag _ (bz Y)))).2;have st:=H.mS;rw[e]at this;rw[this]at st;cases st
  refine G (fy (u.item D E d.1.1 (by simp[d.1.2.1]) (λe=>inR (C,oC) (by simp) e.symm) (by simpa using λe=>inR (I,oI) (by simp) e.symm) (by omega) λv c Z hC hI G' st=>?_));have B:=Z;subst B;have⟨f,k,H'⟩:=H.RL st hC hI;have L:=H'.nw (iS:=(Sl,jX vs a)::(ga,oG)::(C,f)::(I,k)::R) (bx (l₁:=[(ga,oG),(C,f),(I,k)]));have M:=L.res (Sl,jX vs a) (.head _);have N:vs.size=f_.length:=by have:=r.length;simpa using this
  have LP:100001<=sizeLine:=by decide
  have hg:=bA (Obj.mapSeq (·.push (.bool (b j)))) M rfl;have kK:=(L.uL (t:=c.toks) (o':=Obj.mapSeq (·.push (.bool (b j))) (jX vs a)) (h':=c.heap.update Sl (Obj.mapSeq (·.push (.bool (b j))))) (λb x hb e=>(bT _ _ (bF hb)).trans e) hg).nw (iS:=(ga,oG)::(C,f)::(I,k)::(Sl,Obj.mapSeq (·.push (.bool (b j))) (jX vs a))::R) (bx (l₁:=[(ga,oG),(C,f),(I,k)])).symm;have TS:=G'.frame (h':=c.heap.update Sl (Obj.mapSeq (·.push (.bool (b j))))) (tk:=c.toks) (dr:=c.drawn) P λb' hb o e=>(bT _ _ (λz:Sl=b'=>by
   subst z;rcases af.mp hb with h|hb
   .exact d.1.2.2.1 h.symm
   .rcases af.mp hb with h|hb
    .exact d.2.1.2.1 h.symm
    .exact Q hb)).trans e
  refine G (cY M rfl (ac ⟨bS bG _,?_⟩) (by rw[N];omega) (by rw[fV,N];omega));refine X (j+1) (f_++[.bool (b j)]) F f k (vs.push (.bool (b j))) _ _ (by omega) (by simp[K]) ?_ TS kK λF' l y e_ jY mt O=>q F' l y e_ jY mt (by rw[cw]at O;exact O);rw[dk];exact jV.append (.one (.bool _)) r
def Fa{n:Nat}{b:Nat->aY}{Q:jr->aj->Prop}(B:A.handled=none)(D:A.depth<recursionLimit)(d:cStatics∈fp)(m:s.heap.objs.size∉fp)(K:n<=100000)
  (f:sv S.prog S.w A.in1.in1 ga g C fp [I] n (Nw b) 0 s) (H:j4 S V F J fs ((ga,oG)::(C,oC)::(I,oI)::R) s) (q:∀vs F' c,j8 V V F F'->j4 S V F' J fs R c->jV V F' vs ((List.range n).map λi=>.bool (b i))->Q vs c):
  kY S A (collect (.ref ga)) Q E s:=by
 have Z:=f.1.typeIs;unfold collect;refine G (eR (bj f5 ?_));rw[aV f6 _];refine G (br ?_);refine ac ⟨bS dY _,bj gW ?_⟩;rw[aV dY _];have j:=am s.heap (o:=jX #[] 0) rfl;have p:∀b o,s.heap.get? b=some o->(s.heap.push (jX #[] 0)).get? b=some o:=λb o e=>ad _ e;have r:=H.oU (t:=s.toks) p (aq (ao _)) j;have TT:=f.frame (h':=s.heap.push (jX #[] 0)) (tk:=s.toks) (dr:=s.drawn) d λb _ o e=>p b o e;have L:s.heap.objs.size≠ga:=λe=>by have⟨o,_,_,h,_⟩:=f.1;rw[<-e,aq (h:=s.heap) (ao _)]at h;cases h
 show wpAny _ A.in1 (List.listExtendWith (.ref s.heap.objs.size) (.ref ga) (.ref s.heap.objs.size)) _ _ _;unfold List.listExtendWith;have k:=TT.1.typeIs;refine G (cX k ?_);have M:List.listSameRef (.ref s.heap.objs.size) (.ref ga)=false:=by simp[List.listSameRef,L]
 have N:(Value.type "generator"==Value.type "list")=false:=by decide
 have O:(Value.type "generator"==Value.type "tuple")=false:=by decide
 simp only[M,N,O,gG,au,bD];refine G (g9 TT.1 ?_);refine G (aF ?_);unfold List.listLengthHint;refine G (cA k PySem.F.gen_no_len ?_);refine G (cA k PySem.F.gen_no_hint ?_);apply ac;show wpAny _ A.in1 (rule "list.extend.makes-room">>=λ_=>List.listTouch (.ref s.heap.objs.size)>>=λ_=>again (.builtin "list.extend.loop" ⟨[.ref s.heap.objs.size,.ref ga,.ref s.heap.objs.size],[]⟩)) _ _ _
 refine G (b9 (G ?_));have u:=bA (Obj.mapSeq (·.push Value.none)) j rfl;have P:=bA (Obj.mapSeq (·.pop)) u rfl;unfold List.listTouch List.listUpdate;refine G (cY j rfl (cY u rfl ?_));have a:∀b x,b≠s.heap.objs.size->(s.heap.push (jX #[] 0)).get? b=some x->(((s.heap.push (jX #[] 0)).update s.heap.objs.size (Obj.mapSeq (·.push Value.none))).update s.heap.objs.size (Obj.mapSeq (·.pop))).get? b=some x:=λb x hb e=>(bT _ _ (bF hb)).trans ((bT _ _ (bF hb)).trans e);have mt:=(r.uL (t:=s.toks) (o':=Obj.mapSeq (·.pop) (Obj.mapSeq (·.push Value.none) (jX #[] 0))) a P).nw (iS:=(ga,oG)::(C,oC)::(I,oI)::(s.heap.objs.size,Obj.mapSeq (·.pop) (Obj.mapSeq (·.push Value.none) (jX #[] 0)))::R) (bx (l₁:=[(ga,oG),(C,oC),(I,oI)])).symm;have l:=(aK.mp (aK.mp (show(jT V J++(pC fs++((s.heap.objs.size,jX #[] 0)::((ga,oG)::(C,oC)::(I,oI)::R)).map (·.1))).Nodup from r.nd)).2.1).2.1;simp only[bg,aL,af,eZ]at l;have T:=TT.frame (h':=((s.heap.push (jX #[] 0)).update s.heap.objs.size (Obj.mapSeq (·.push Value.none))).update s.heap.objs.size (Obj.mapSeq (·.pop))) (tk:=s.toks) (dr:=s.drawn) d λb hb o e=>a b o (λz=>by
  subst z;rcases af.mp hb with h|hb
  .exact l.1.1 h
  .rcases af.mp hb with h|hb
   .exact l.1.2.1 h
   .exact m hb) e
 refine ac ⟨bS bG _,KY (f_:=[]) B D d m K n 0 F oC oI #[] _ _ (fj n) rfl .nil T mt λF' U W c X y Y=>?_⟩;refine G (dB (y.res (s.heap.objs.size,jX U W) (.head _)) ?_);exact ac (q _ F' c X y.vw (by rw[List.range_eq_range'];exact Y))
noncomputable def I9(Kf:Frag)(fn:sY)(tb:jj)(fE:rT)(c:nW)(y:Str)(yp:Pos)(u v w:Str)(x:Str)(iter:Expr)(b_:dF)(Y:j9)(J:jW)(K:KV)(X:KX):Prop:=
 c.calm=true/\tI c b_ x iter=true/\tJ tb c.code=true/\(w==("__debug__":Str))=false/\(w==("__classdict__":Str))=false/\(w==x)=false/\b_.names.lookup w=some NameKind.free/\
  fE c (.Name y yp) Y J (λg iT=>(match g with|.val (.type t)=>t="tuple"|_=>False)/\ky (uE b_ x Y u) λn1=>ky (uE b_ x Y v) λn2=>match Y.lookup w with
   |some (.ref k)=>fE c iter Y iT (λav jf=>E7 Kf fn av jf λl j1=>ky (nF l) λss=>match j1[k]? with
      |some (.set els)=>(∀f∈els,f.jJ=false)/\ss.length<=100000/\K (.tup ((kU n1 n2 ss).map λe=>.bool (decide (e∈els)))) j1
      |_=>False) X
   |_=>False) X
def Bg(b:s.TypeIs (.ref ga) "generator")
  (h:kY S A.in1 (collect (.ref ga)) (λvs a=>vs.length<=100000/\jg (.ref a.heap.objs.size) {a with heap:=a.heap.push {cls:=.type "tuple",data:=.seq vs.toArray}}) E s):
  codeAny (p_ S) A (.call (.builtin "tuple.__new__") ⟨[.type "tuple",.ref ga],[]⟩) (wants jg E) s:=by
 apply bX;refine G (bC (gX _) (ac ⟨bS dZ _,bj gY ?_⟩));rw[aV dZ _];have d:=sub_tuple_self;have f:=init_tuple_lookup;have c:=madeHere_tuple;have⟨i,g,dr,tk,os⟩:=s;unfold Builtin.«tuple.__new__»;generalize j:collect=Cc at h⊢;wp_walk using cX b;refine ai h (λvs a p=>?_) λ_ _ e=>e;have⟨k,q⟩:=p;have l:100001<=sizeLine:=by decide
 show wpAny _ _ (Tuple.tupleExact vs.toArray>>=λv=>ret v) _ _ _;unfold Tuple.tupleExact;refine G (br ?_ (by show vs.toArray.size<=sizeLine;simp only[gC];omega));exact ac q
def Db:(List.range ss.length).map (λi=>AV.bool (decide ((kU n1 n2 ss)[i]?.getD (.many [])∈els)))=(kU n1 n2 ss).map λe=>.bool (decide (e∈els)):=by
 apply gT
 .unfold kU;simp
 .intro i c a;simp only[List.getElem_map,List.getElem_range];have b:i<(kU n1 n2 ss).length:=by simpa using a
  rw[da b];rfl
def Dc(ok:ml S)(TB:sF S.B)(GA:tj S.B)(k1:kJ S.B Kf)(l9:ka S d fn)(Nx:KM S.B tb)(hE:l7 S (d+1) fE){v w:Str}{pw:Pos}
  (h:I9 Kf fn tb fE c y yp u v w x iter b_ Y J K X):pD S (d+1) (eval (.Call (.Name y yp) [.GeneratorExp (.Compare (.Tuple [.Name u pu,.Name v pv] kt pt) [.In] [.Name w pw] pc) [⟨.Name x px,iter,[],0⟩] b_ zR] [] pos)) c Y J K X:=by
 intro V F f fs R s A fa G Z H;have⟨hc,N,KO,w1,w2,w3,w4,h⟩:=h;refine eI (wp_mono (hE c (.Name y yp) Y J _ X h V F f fs R s A fa G Z H) λjq jL g gv iT jw jQ d_ kG r=>?_);have⟨kg,r⟩:=r;have hg:g=.type "tuple":=by
  cases gv<;>first|exact kg.elim|skip
  rename_i v;cases v<;>first|exact kg.elim|skip
  cases kg;cases kG;rfl
 subst hg;have⟨n1,SY,r⟩:=jo r;have⟨n2,U5,r⟩:=jo r;cases hw:Y.lookup w with
 |none=>rw[hw]at r;exact r.elim
 |some aw=>
 rw[hw]at r;cases aw<;>first|exact r.elim|skip
 rename_i k;have fit:A.units+300<cLine:=by have:=fa.units;show A.units+300<9900;omega
 have mF:=fa.room;have hh:=fa.calm hc;refine mw (dU ?_ rfl) rfl;refine ai (E_ (X:=X) TB GA k1 l9 Nx hE N KO hc r fa G Z d_ λjF F' g_ I oI a vs l C oC ga oG g h_ t gr j jl Pr GG rs kl sV JS zv mk=>?_) (λ_ _ p=>p) λ_ _ p=>p.grow jQ;have⟨ss,KU,kl⟩:=jo kl;refine eA ⟨nu,?_⟩;split at kl
 case h_2=>exact kl.elim
 rename_i els ek;have⟨uX,iP,q⟩:=kl;have Ny:=oB KU;have hvl:vs.size=ss.length:=by have:=rs.length;rw[Ny]at this;simpa using this
 have KW:=N;simp only[tI,aJ,bJ,aZ,cz,dC,iI,aG]at KW;have⟨⟨⟨⟨⟨⟨o1,o2⟩,o3⟩,o4⟩,o5⟩,o6⟩,o7⟩:=KW;have Xw:∃b Sa,(kR b_.names f.env []).lookup w=some b/\(w,b)∈kR b_.names f.env []/\t.heap.IsCell b (some (.ref Sa))/\jF[k]?=some Sa:=by
  have Xr:=qB w4;have:∃a,f.env.cells.lookup w=some a:=by
   rcases o6 _ Xr with q|q
   .exact absurd rfl q
   .have⟨a,_,e,_⟩:=j.top.cells w (by show m5 w (f.env.scope.names.lookup w)=true;rw[G.1];exact q);exact⟨a,e⟩
  have⟨b0,Xs⟩:=rY (c_:=b_.names) (f_:=[]) (.inl ⟨Xr,this⟩);have⟨b,W⟩:=mE Xs;have Kp:=tL W;have⟨_,v,aag,hr⟩:=sw N G j Kp;rw[Z,hw]at hr;cases v with
  |none=>exact hr.elim
  |some wv=>
   cases hr with
   |ref hk=>exact⟨b,_,W,Kp,aag,hk⟩
 have⟨b,Sa,W,Kp,MP,hk⟩:=Xw;have Sx:=j.setAt ok hk ek;have⟨q1,q2,q3⟩:=BU N G j jl GG Pr;have O:∀b,(∃o,t.heap.get? b=some o)->b≠C->b∈(List.range t.heap.objs.size).filter (λb=>decide (b≠C)):=λb ⟨o,L⟩ W=>aD.mpr ⟨dc.mpr (ck L),by simpa using W⟩;have nd:=(aK.mp (show(jT jF g_++(pC (f::fs)++((ga,oG)::(C,oC)::(I,oI)::R).map (·.1))).Nodup from j.nd))
 have nR:=(aK.mp nd.2.1).2.1;have nOR:=(aK.mp nd.2.1).2.2;simp only[bg,aL,af,eZ]at nR;have jv:∀p∈kR b_.names f.env [],p.2∈(List.range t.heap.objs.size).filter (λb=>decide (b≠C))/\p.2∉[I]:=λp hp=>by have⟨L,v,⟨o,xC,_⟩,_⟩:=sw N G j (y:=p.1) (b:=p.2) hp;exact⟨O _ ⟨o,xC⟩ (λe=>nOR p.2 L C (by simp) e),(q2 p hp).2⟩
 have⟨V1,N1,rV1⟩:=yK (vs:=vs) N G Z j SY sV zv jv;have⟨V2,N2,rV2⟩:=yK (vs:=vs) N G Z j U5 sV zv jv;have M:=lx hk ek (by intro h;cases h);have SaC:Sa≠C:=λe=>nd.2.2 Sa M C (ag _ (by simp)) e;have SaI:Sa≠I:=λe=>nd.2.2 Sa M I (ag _ (by simp)) e;have⟨so,_,_,_,_,GH,_⟩:=id Sx;have N3:q_ h_ x t.heap ((List.range t.heap.objs.size).filter (λb=>decide (b≠C))) [I] vs w (λ_=>.ref Sa):=⟨.inr ⟨.ref Sa,b,λ_=>rfl,by show h_.scope.names.lookup w=_;rw[sV];exact w4,by rw[zv];exact W,(jv _ Kp).1,(jv _ Kp).2,MP⟩,w1,w2⟩
 have jH:∀(i:Nat) (v0:ae),vs[i]?=some v0->∃m,ss[i]?=some m/\kQ jF F' (V1 i) (.str (tK n1 m))/\kQ jF F' (V2 i) (.str (tK n2 m)):=λi v0 P=>by
  have Vd:vs.toList[i]?=some v0:=by rw[ax];exact P
  have⟨av,ha,ra⟩:=rs.get' Vd;rw[Ny,bP]at ha;obtain⟨m,T,rfl⟩:=ay.mp ha;exact⟨m,T,rV1 i v0 m P ra,rV2 i v0 m P ra⟩
 have eEq:∀(i:Nat) (m:Str),ss[i]?=some m->(kU n1 n2 ss)[i]?.getD (.many [])=.many [tK n1 m,tK n2 m]:=λi m T=>by unfold kU;rw[bP,T];rfl
 have Q:=TP (a_:=S.prog) (w:=S.w) (D:=A.depth+1) (U:=A.units+8) (pu:=pu) (pv:=pv) (pt:=pt) (pz:=pw) (pc:=pc) (kt:=kt) (els:=els) (Sa:=Sa) (Pz:=qg jF F') (e:=λi=>(kU n1 n2 ss)[i]?.getD (.many [])) (by rw[sV];exact o5) (by show h_.scope.names.lookup x=_;rw[sV];exact o4) N1 N2 N3 (λ_ _ _=>rfl) (O Sa ⟨so,GH⟩ SaC) (by simpa using SaI) Sx uX
  (λh kp=>by
   have kF:∀b o,F' b=some o->h.get? b=some o:=λb o e=>by
    have TK:b≠C:=λz=>by have:=(j.new C (ag _ (ag _ (by simp)))).1;rw[<-z,e]at this;cases this
    have hbI:b≠I:=λz=>by have:=(j.new I (ag _ (ag _ (by simp)))).1;rw[<-z,e]at this;cases this
    exact kp b (O b ⟨o,j.lw b o e⟩ TK) (by simpa using hbI) o (j.lw b o e)
   have c:=j.cells k Sa _ hk ek;rw[ok]at c;exact CI kF (c.mono (.refl _ _) λo e=>kp Sa (O Sa ⟨o,e⟩ SaC) (by simpa using SaI) o e))
  (λi v0 P h a ha=>by
   have⟨m,T,r1,r2⟩:=jH i v0 P;rw[eEq i m T];refine nM (V:=jF) (F:=λb=>if b=a then some {cls:=.type "tuple",data:=.seq #[V1 i,V2 i]}else none) (λb o e=>?_) (e:=.many [tK n1 m,tK n2 m]) (.tup (vs:=#[V1 i,V2 i]) (n:=0) (aB rfl) rfl rfl ?_)
   .by_cases hba:b=a
    .subst hba;rw[aB rfl]at e;cases e;exact ha
    .rw[aA hba]at e;cases e
   .cases h1:V1 i with
    |str s1 t1=>
     rw[h1]at r1;cases h2:V2 i with
     |str s2 t2=>rw[h2]at r2;cases r1;cases r2;exact .cons (.str _ _) (.cons (.str _ _) .nil)
     |_=>rw[h2]at r2;cases r2
    |_=>rw[h1]at r1;cases r1)
  (λi v0 P=>by have⟨m,T,_⟩:=jH i v0 P;rw[eEq i m T];rfl) (by show A.units+8+100<cLine;omega)
 have itI:∃o,t.heap.get? I=some o:=⟨oI,j.res (I,oI) (by simp)⟩
 have itA:∃o,t.heap.get? a=some o:=by rcases jl with⟨_,⟨o,L,_⟩⟩|⟨_,⟨o,L,_⟩⟩<;>exact⟨o,L⟩
 have qj:=mk _ _ (O I itI (λe=>nR.2.1.1 e.symm)) (O a itA GG) (λh=>by simpa using(aD.mp h).2) Q;have aah:cStatics∈(List.range t.heap.objs.size).filter (λb=>decide (b≠C)):=by
  have⟨mc,⟨o,_,_,L,_⟩,_⟩:=j.lim;exact O _ ⟨o,L⟩ λe=>by have:=(j.new C (ag _ (ag _ (by simp)))).2;have st:=j.mS;rw[e,this]at st;cases st
 have hTG:=qj.1.typeIs;refine iw (Q₁:=λE jw=>jw.TypeIs E "tuple"/\nP S V F (f::fs) R K E jw) de (gN _) gw (Bg hTG ?_) λE jw lX=>?_
 .refine Fa (A:=A.in1.in1) hh mF aah (λh=>eB _ (dc.mp (aD.mp h).1)) (by rw[hvl];exact iP) qj j λqo ke e_ jY jN RN=>?_;rw[hvl]at RN;have RO:jV jF ke qo ((kU n1 n2 ss).map λe=>.bool (decide (e∈els))):=by rw[<-Db];exact RN
  refine⟨by rw[RO.length];unfold kU;simpa using iP,⟨_,am _ rfl,rfl⟩,?_⟩;exact(jN.Cv RO e_.toks q).grow ((jQ.trans gr).trans jY)
 .exact⟨lX.1,gk E _,object_init_meets de.init.lookup de.made (by decide) S.prog S.w A.in1 _ jw ⟨lX.1,rfl,lX.2⟩⟩
def tM:p6->az (j5)
 |[]=>some []
 |.Expr (.Yield (some e) _) _::r=>(tM r).map (e::·)
 |_=>none
def uh (fe:Expr->jW->KV->Prop):j5->jy->jW->(jy->jW->Prop)->Prop
 |[],f_,J,K=>K f_ J
 |e::es,f_,J,K=>fe e J λa g_=>uh fe es (f_++[a]) g_ K
structure Df (env:Env):Prop where
 loc:∀x,mZ (env.kindOf x)=false
 cells:env.cells=[]
 frame:env.frame=some env.locals
 kind:env.scope.kind=.function
 co:env.scope.isCoroutine=false
def JP (V:jj)(F:jn)(env:Env)(Y:j9)(o:dq):Prop:=∃es ep,o.data=.dict es ep/\StrKeys es/\∀x,env.kindOf x=some .local->n9 V F (nsFind es x) (Y.lookup x)
def Holds.Qj{a:dq}(d:Df env)(H:j4 S V F J fs ((env.locals,a)::R) s)(f:JP V F env Y a):j4 S V F J (⟨env,Y,[env.locals]⟩::fs) R s:=by
 have g:=H.res (env.locals,a) (.head _);have⟨es,i,j,k,l⟩:=f;have p:(kz V J (⟨env,Y,[env.locals]⟩::fs) R).Perm (kz V J fs ((env.locals,a)::R)):=by apply(m8 V J _ fs R).trans;exact(nG V J fs R env.locals a).symm
 have n:n_ V F s.heap (pC fs) ⟨env,Y,[env.locals]⟩:={
  ns:=⟨nsFind es,⟨a,es,i,g,j,k,λ_=>rfl⟩,l⟩
  cells:=λx o=>by have e:mZ (env.kindOf x)=true:=nV o;rw[d.loc x]at e;cases e
  loc:=.head _
  Y9:=λx c h=>by have h':env.cells.lookup x=some c:=h;rw[d.cells]at h';cases h'
  kind:=d.kind
  fr:=⟨env.locals,.head _,d.frame⟩
  apart:=λx y c h=>by have h':env.cells.lookup x=some c:=h;rw[d.cells]at h';cases h'}
 exact{H with
  nd:=p.nodup_iff.mpr H.nd,new:=λb m=>H.new b (p.mem_iff.mp m),there:=λb m=>H.there b (p.mem_iff.mp m)
  frames:=⟨n,H.frames⟩
  res:=λp q=>H.res p (.tail _ q)}
def Holds.NA(H:j4 S V F J (⟨env,Y,[env.locals]⟩::fs) R s):∃oL,j4 S V F J fs ((env.locals,oL)::R) s/\JP V F env Y oL:=by
 obtain⟨⟨m,⟨o,es,c,d,f,g,h⟩,i⟩,_⟩:=H.frames.1;have p:(kz V J (⟨env,Y,[env.locals]⟩::fs) R).Perm (kz V J fs ((env.locals,o)::R)):=by apply(m8 V J _ fs R).trans;exact(nG V J fs R env.locals o).symm
 refine⟨o,{H with
  nd:=p.nodup_iff.mp H.nd,new:=λb m=>H.new b (p.mem_iff.mpr m),there:=λb m=>H.there b (p.mem_iff.mpr m),frames:=H.frames.2
  res:=λq a=>(af.mp a).elim (λe=>e▸d) λa=>H.res q a},⟨es,c,f,g,λx e=>by have:=i x e;rw[<-h]at this;exact this⟩⟩
section
variable (N:Nat) (S:Sys) (mG:jj) (mQ:jn) (fs:jS) (Rc:mO) (env:Env) (Y:j9) (ga Sl:iJ) (oG:dq) (fe:Expr->jW->KV->Prop) (KL:jy->jW->Prop)
structure GW (V:jj) (F:jn) (J:jW) (acc:jy) (vs:bM ae) (nn:Nat) (oL:dq) (s:aj):Prop where
 gr:j8 mG V mQ F
 H:j4 S V F J fs ((env.locals,oL)::(ga,oG)::(Sl,jX vs nn)::Rc) s
 rs:jV V F vs.toList acc
 no:JP V F env Y oL
def Dg:Protocol:=λm mT v s RI=>∃V F J f_ a vs nn oL iN,GW S mG mQ fs Rc env Y ga Sl oG V F J f_ vs nn oL s/\kQ V F v a/\iN.length=m/\f_.length+1+m=N/\uh fe iN (f_++[a]) J KL/\
 ∀ql qo Ac,GW S mG mQ fs Rc env Y ga Sl oG V F J (f_++[a]) qo Ac oL ql->RI (.send .none) ql
def Qk:GenEnd:=λn mT r jw=>r=.ok (.ret .none)/\(n=0/\∃V F J f_ vs nn oL,GW S mG mQ fs Rc env Y ga Sl oG V F J f_ vs nn oL jw/\KL f_ J)
end
section
variable {N:Nat}{Rc:mO}{fe:Expr->jW->KV->Prop}
def Ad(m:Df env)(hi:interactive env=false)(w:∀e J K,fe e J K->pD S d (eval e) c Y J K wW)(fa:kj d c.calm (⟨env,Y,[env.locals]⟩::fs) (A.deeper env))(x:nC c ⟨env,Y,[env.locals]⟩){y:Code}(z:A.over y []=A.deeper env):
  ∀(b:p6) (es:j5) (V:jj) (F:jn) (J:jW) (f_:jy) (vs:bM ae) (i:Nat) (k:dq) (n s:aj) (l:ae->Sem Fin),tM b=some es->GW S mG mQ fs Rc env Y ga Sl oG V F J f_ vs i k s->uh fe es f_ J KL->f_.length+es.length=N->
   Seg (p_ S) A (Qk S mG mQ fs Rc env Y ga Sl oG KL) (Dg N S mG mQ fs Rc env Y ga Sl oG fe KL) es.length n y ((execs b env).wrap (λf=>.pure (.done (.ret (match f with|.ret v=>v|_=>.none)))) l id id) [] s
 |[],es,V,F,J,f_,vs,i,k,n,s,l,j,W,h,o=>by cases j;exact seg_execs_nil (seg_end (.ok (.ret .none)) ⟨rfl,rfl,V,F,J,f_,vs,i,k,W,h⟩)
 |st::b,es,V,F,J,f_,vs,i,k,n,s,l,j,W,h,o=>by
  unfold tM at j;split at j
  .rename_i q;cases q
  .rename_i e yp pos r q;cases q;obtain⟨B,G,rfl⟩:=ay.mp j;refine seg_execs_cons (seg_Expr_Yield rfl rfl rfl ?_ m.co hi);rw[z];have I:=W.H.Qj m W.no;refine qt (S:=S) (V:=V) (F:=F) (fs:=⟨env,Y,[env.locals]⟩::fs) (R:=(ga,oG)::(Sl,jX vs i)::Rc) (ai (w e J _ h V F ⟨env,Y,[env.locals]⟩ fs _ s _ fa x rfl I) (λv U p=>?_) λ_ _ e=>e);have⟨jF,F',a,C,g,L,r,D⟩:=p;have⟨E,M,t⟩:=L.NA;intro X O;refine⟨jF,F',C,f_,a,vs,i,E,B,⟨W.gr.trans g,M,W.rs.mono g,t⟩,r,rfl,by simp only[aI]at o;omega,D,λu P Q T=>?_⟩;exact O .none u (Ad m hi w fa x z b B jF F' C (f_++[a]) P Q E u u l G T D (by simp only[aI,bk,bL]at o⊢;omega))
  .cases j
end
end
section
open PySem PySem.W PySem.Calls PyProof.Rows PySem.SeqAt
variable {s s':aj}{M:fL}{α:Type}{Γ:Ctx}{p:Pos}
def xc{t:Sem PySem.Fin}{fs:List Frame}{e:End}(h:Runs M Γ p t fs s e s'):s.gens.size<=s'.gens.size:=by induction h<;>(try simp only[Shared.setGen,dO,fV]at *)<;>omega
def HR{g:Nat}{r:Resume}{b:GenResult}(h:Wakes M Γ p g r s b s'):s.gens.size<=s'.gens.size:=by
 have a:∀(x:GenState) (s:aj),(s.setGen g x).gens.size=s.gens.size:=λx s=>by simp only[Shared.setGen,dO]
 unfold Wakes at h;split at h
 .exact h.elim
 .split at h
  .obtain⟨c,e,d,_,_,rfl⟩:=h;have:=xc d;rw[a]at this⊢;exact this
  .rw[h.2];exact ao _
  .rw[h.2,a];exact ao _
 .obtain⟨c,e,d,_,_,rfl⟩:=h;have:=xc d;rw[a]at this⊢;exact this
 .rw[h.2];exact ao _
 .rw[h.2];exact ao _
def Ql(M:fL)(Γ:Ctx)(n:Nat)(t:Sem α):∀(Q:α->Pos->aj->Prop) (E:ae->Pos->aj->Prop) (p:Pos) (s:aj),n<=s.gens.size->Sem.wp M Γ t Q E p s->
  Sem.wp M Γ t (λa i s'=>n<=s'.gens.size/\Q a i s') (λe i s'=>n<=s'.gens.size/\E e i s') p s:=by
 induction t with
 |pure a=>intro Q E p s b h;exact⟨b,h⟩
 |raise e=>intro Q E p s b h;exact⟨b,h⟩
 |unsupported _=>intro Q E p s _ h;exact h
 |finish _=>intro Q E p s _ h;exact h
 |rule _ k d=>intro Q E p s b h;exact d () Q E p s b h
 |«at» i k d=>intro Q E p s b h;exact d () Q E i s b h
 |load a _ k d=>intro Q E p s b h;obtain⟨o,w,h⟩:=h;exact⟨o,w,d o Q E p s b h⟩
 |update a _ f k d=>intro Q E p s b h;exact⟨h.1,d () Q E p _ b h.2⟩
 |loadIfAlive a k d=>intro Q E p s b h;exact d _ Q E p s b h
 |point _ k d=>intro Q E p s b h;exact d () Q E p s b h
 |register _ _=>intro Q E p s _ h;exact h
 |alloc o k d=>intro Q E p s b h;exact d _ Q E p _ b h
 |fresh k d=>intro Q E p s b h;exact d _ Q E p _ b h
 |ask k d=>intro Q E p s b h;exact d _ Q E p s b h
 |choose x m k d=>intro Q E p s b h;exact⟨h.1,d _ Q E p _ b h.2⟩
 |os q _ k d=>intro Q E p s b h;exact d _ Q E p _ b h
 |call c z _ _ k d=>intro Q E p s b h;obtain⟨r,s',l,h⟩:=h;exact⟨r,s',l,d r Q E p s' (bq b (xc l)) h⟩
 |handled own k d=>intro Q E p s b h;exact d _ Q E p s b h
 |genState g k d=>intro Q E p s b h;obtain⟨st,y,h⟩:=h;exact⟨st,y,d _ Q E p s b h⟩
 |newGen c k d=>intro Q E p s b h;exact d _ Q E p _ (bq b (by simp)) h
 |resume g r _ k d=>intro Q E p s b h;obtain⟨j,s',u,h⟩:=h;exact⟨j,s',u,d j Q E p s' (bq b (HR u)) h⟩
 |yield _ _ _ _=>intro Q E p s _ h;exact h
 |stack k d=>intro Q E p s b h;exact d _ Q E p s b h
 |fork _ _=>intro Q E p s _ h;exact h
 |thread k d=>intro Q E p s b h;exact d _ Q E p s b h
 |await _ _ _ _ _=>intro Q E p s _ h;exact h
def yv{A:bO}{t:Sem α}{Q:α->aj->Prop}{E:nz}{n:Nat}(b:n<=s.gens.size)(h:wpAny M A t (λa s'=>n<=s'.gens.size->Q a s') (λe s'=>n<=s'.gens.size->E e s') s):wpAny M A t Q E s:=λΓ p c=>Sem.wp_mono M Γ _ (λ_ _ _ x=>x.2 x.1) (λ_ _ _ x=>x.2 x.1) p s (Ql M Γ n t _ _ p s b (h Γ p c))
end
section
open PySem PySem.W PySem.Calls PyProof.Rows PySem.SeqAt PySem.Builtin
open Sem (wp)
variable {E:nz}{Q:az ae->aj->Prop}{A:bO}{V jF:jj}{s:aj}{fs:jS}{F F':jn}{KL:jy->jW->Prop}{xs vs ys:bM ae}{es:bM (Int×ae)}{P:tD}{Kf:Frag}{S:Sys}{d k g i ep n nn slot:Nat}{J:jW}{R Rc:mO}{a_:c5}{Y:j9}{fn:sY}{f:ma}{c:nW}{w:cy}{K:KV}{X:KX}{l f_:jy}{a C l1 l2 I z TI TO i1 i2 D Sl so:iJ}{o oL:dq}{t:bZ}{t1 t2:aY}{Qm:jr}{sc:dF}{fE:rT}{pos yp:Pos}{fd:f7}{els:kr}{env:Env}{res b:ae}{M:fL}{y:Str}
def Ae{gs:GenState}{P:Nat->aj->aj->Prop}{e:Protocol}(k:A.handled=none)(p:s.heap.NoLimit)(q:A.depth<recursionLimit)(f:s.heap.IsGen a g)(l:s.gens[g]?=some gs)
  (h:gs.Goes (model a_ w) A.in1 (λn i r c=>r=.ok (.ret .none)/\P n i c) e n (.send .none) (s.setGen g .running))
  (t:∀v c d,d.bare=true->e (n-1) (s.setGen g .running) v c (λu y=>match n with
    |0=>False
    |m+1=>d.Goes (model a_ w) A.in1 (λn i r c=>r=.ok (.ret .none)/\P n i c) e m u y)->Q (some v) (c.setGen g d))
  (z:∀c,P n (s.setGen g .running) c->∀h',(∀b o,c.heap.get? b=some o->h'.get? b=some o)->Q none {c.setGen g .finished with heap:=h'}):
  wpAny (model a_ w) A (pyNext (.ref a)) Q E s:=by
 unfold pyNext;refine G (eF (b8 (name:=Str.ofString "__next__") f.typeIs iz
  (bn iz f.typeIs entry_gen_next ?_ (args_gen_next _))))
 show wpAny _ A.in1 (Generator.genWake (.ref a) (.send .none)) _ _ s;unfold Generator.genWake;refine G (aF (wpAny_genNumber f (G (wpAny_genState l ?_))));cases gs with
 |running=>exact h.elim
 |finished=>exact h.elim
 |_=>
  refine G (wpAny_roomToWake p q ?_);refine wpAny_resumeQ l h (λx c B=>?_) (λv c d j C=>?_)
  .obtain⟨rfl,D⟩:=B;show wpAny _ A.in1 (newExc (.type "StopIteration") []>>=_) _ _ _;apply G;simp only[newExc,newTuple];refine G (br ?_ (by size_fits));refine G (m:=firstArgMember _ _) (bC (a:=Value.none) (by first|rfl|(simp only[firstArgMember];rfl)) ?_);refine br ?_ (by size_fits);simp only[raiseNew];refine G (G (gI ?_))
   first|rw[show A.in1.handled=none from k]|rw[k]
   apply gB;refine G (bN (T:="StopIteration") (b:=true) ⟨_,am _ rfl,rfl⟩ ix ?_);exact ac (z c D _ λb o j=>ad _ (ad _ j))
  .exact ac ⟨v,rfl,ac (t v c d j C)⟩
section
variable {N:Nat}{mG:jj}{mQ:jn}{ga:iJ}{oG:dq}{fe:Expr->jW->KV->Prop}
def Holds.RP{iY:bM GenState}(H:j4 S V F J fs R s)(h:AllBare iY):j4 S V F J fs R {s with gens:=iY}:={H with bare:=h}
def v5{x:GenState}(a:AllBare s.gens)(b:x.bare=true):AllBare (s.setGen g x).gens:=by
 intro y c;have⟨i,hi⟩:=il.mp c;simp only[Shared.setGen,Array.getElem?_setIfInBounds]at hi;split at hi
 .split at hi
  .cases hi;exact b
  .cases hi
 .exact a _ (il.mpr ⟨i,hi⟩)
def Q7{x:GenState}(h:g+1<=(s.setGen g x).gens.size):(s.setGen g x).gens[g]?=some x:=by simp only[Shared.setGen,dO]at h⊢;rw[Array.getElem?_setIfInBounds_self,aB (by omega)]
def GW.v6{iY:bM GenState}(W:GW S mG mQ fs Rc env Y ga Sl oG V F J f_ vs nn oL s)(h:AllBare iY):GW S mG mQ fs Rc env Y ga Sl oG V F J f_ vs nn oL {s with gens:=iY}:=⟨W.gr,W.H.RP h,W.rs,W.no⟩
def GW.gen(c:∃a b,oG.cls=.type "generator"/\oG.data=.fields #[.int g 0,a,b]/\oG.slots=#[])(W:GW S mG mQ fs Rc env Y ga Sl oG V F J f_ vs nn oL s):s.heap.IsGen ga g:=by have⟨a,b,d,e,f⟩:=c;exact⟨oG,a,b,W.H.res (ga,oG) (.tail _ (.head _)),d,e,f⟩
def GW.NB{v:ae}{a:AV}(W:GW S mG mQ fs Rc env Y ga Sl oG V F J f_ vs nn oL s)(r:kQ V F v a):
  s.heap.get? Sl=some (jX vs nn)/\vs.size=f_.length/\∃f,GW S mG mQ fs Rc env Y ga Sl oG V F J (f_++[a]) (vs.push v) f oL {s with heap:=s.heap.update Sl (Obj.mapSeq (·.push v))}:=by
 have c:=W.H.nw (iS:=(Sl,jX vs nn)::(env.locals,oL)::(ga,oG)::Rc) (bx (l₁:=[(env.locals,oL),(ga,oG)]));have d:=c.res (Sl,jX vs nn) (.head _);have g:=bA (Obj.mapSeq (·.push v)) d rfl;have h:=(c.uL (t:=s.toks) (o':=Obj.mapSeq (·.push v) (jX vs nn)) (h':=s.heap.update Sl (Obj.mapSeq (·.push v))) (λb x i e=>(bT _ _ (bF i)).trans e) g).nw (iS:=(env.locals,oL)::(ga,oG)::(Sl,Obj.mapSeq (·.push v) (jX vs nn))::Rc) (bx (l₁:=[(env.locals,oL),(ga,oG)])).symm;refine⟨d,by have:=W.rs.length;simpa using this,_,W.gr,h,?_,W.no⟩;rw[dk];exact jV.append (.one r) W.rs
def NC{D:Result->aj->Prop}(E:A.handled=none)(I:A.depth<recursionLimit)(K:∃X Z,oG.cls=.type "generator"/\oG.data=.fields #[.int g 0,X,Z]/\oG.slots=#[])
  (hN:N<=100000)
  (hR:∀V F J f_ vs nn oL L,GW S mG mQ fs Rc env Y ga Sl oG V F J f_ vs nn oL L->KL f_ J->D (.ok (.ret res)) L):
  ∀(n:Nat) (V:jj) (F:jn) (J:jW) (f_:jy) (vs:bM ae) (nn:Nat) (oL:dq) (iN:j5) (gs:GenState) (s:aj),s.gens[g]?=some gs->GW S mG mQ fs Rc env Y ga Sl oG V F J f_ vs nn oL s->iN.length=n->uh fe iN f_ J KL->
   (∀i d e,GW S mG mQ fs Rc env Y ga Sl oG V F J f_ d e oL i->gs.Goes (p_ S) A.in1.in1 (Qk S mG mQ fs Rc env Y ga Sl oG KL) (Dg N S mG mQ fs Rc env Y ga Sl oG fe KL) n (.send .none) i)->
   codeAny (p_ S) A (.builtin "list.extend.loop" ⟨[.ref Sl,.ref ga,res],[]⟩) D s:=by
 have LP:100001<=sizeLine:=by decide
 intro n;induction n with
 |zero=>
  intro V F J f_ vs nn oL iN gs s f W m hy o;have M:g+1<=s.gens.size:=by have⟨hi,_⟩:=cr.mp f;exact hi
  apply bj cP;rw[aV bG _];have p:=v5 (g:=g) W.H.bare (x:=.running) rfl;refine G (Ae (A:=A.in1) (P:=λn mT b=>n=0/\∃V F J f_ vs nn oL,GW S mG mQ fs Rc env Y ga Sl oG V F J f_ vs nn oL b/\KL f_ J) E W.H.lim I (W.gen K) f (o _ vs nn (W.v6 p)) (λv b O Q q=>?_) (λb u h' R=>?_))
  .have⟨jF,F',j,k,a,d,e,l,T,c,r,_,_,_,w⟩:=q;have⟨_,_,h,W2⟩:=c.NB r;exact(w _ _ _ W2).elim
  .have⟨_,jF,F',j,k,d,e,l,c,kk⟩:=u;refine ac (hR jF F' j k d e l _ ?_ kk);have W2:=c.v6 (v5 (g:=g) c.H.bare (x:=.finished) rfl);exact⟨W2.gr,W2.H.keep (t:=b.toks) R,W2.rs,W2.no⟩
 |succ n ih=>
  intro V F J f_ vs nn oL iN gs s f W m hy o;have M:g+1<=s.gens.size:=by have⟨hi,_⟩:=cr.mp f;exact hi
  apply bj cP;rw[aV bG _];have p:=v5 (g:=g) W.H.bare (x:=.running) rfl;refine G (yv M (Ae (A:=A.in1) (P:=λn mT b=>n=0/\∃V F J f_ vs nn oL,GW S mG mQ fs Rc env Y ga Sl oG V F J f_ vs nn oL b/\KL f_ J) E W.H.lim I (W.gen K) f (o _ vs nn (W.v6 p)) (λv b O Q q=>?_) (λb u h' R=>?_)))
  .have⟨jF,F',j,k,a,d,e,l,T,c,r,Ww,hl,Cp,w⟩:=q;intro y;have W1:=c.v6 (v5 (g:=g) c.H.bare Q);have⟨ho,U,h,W2⟩:=W1.NB r;refine G (cY ho rfl (ac ⟨bS bG _,?_⟩) (by rw[U];omega) (by rw[fV,U];omega));exact ih jF F' j (k++[a]) (d.push v) h l T O _ (Q7 y) W2 Ww Cp λi z B C=>w i z B C
  .cases u.1
end
structure yL (S:Sys) (f:iJ) (I:Fn) (x:Str) (es:j5):Prop where
 obj:∃o,S.B.H.get? f=some o/\o.data=.func I.fd/\o.cls≠.none
 code:∃c' o vs t,I.fd.code=.ref c'/\S.B.H.get? c'=some o/\o.cls≠.none/\o.data=.fields vs/\vs[1]?=some (.str I.fd.qualname t)
 body:I.fd.body=.stmts I.body
 ys:tM I.body=some es
 globals:I.fd.globals=mainGlobals
 builtins:I.fd.builtins=builtinsNs
 closure:I.fd.closure=[]
 kind:I.fd.scope.kind=.function
 gen:I.fd.scope.isGenerator=true
 co:I.fd.scope.isCoroutine=false
 loc:∀p∈I.fd.scope.names,p.2≠.cell/\p.2≠.free
 param:I.fd.scope.names.lookup x=some .local
 bind:∀(s:aj) (v:ae),BindsTo s I.fd ⟨[v],[]⟩ [(x,v)]
def TV (P:tD)(I:Fn)(x:Str)(es:j5)(a:AV)(J:jW)(KL:jy->jW->Prop):Prop:=es.length<=100000/\uh (λe J K=>aE P.toPar 100 (oV I) e [(x,a)] J K wW) es [] J KL
def Dh(h:∀p∈sc.names,p.2≠.cell/\p.2≠.free):qa sc=[]:=by unfold qa;rw[List.map_eq_nil_iff,ie];intro p a;simpa using(h p a).1
def ND{f:iJ}{I:Fn}{x:Str}{es:j5}{v:ae}{a:AV}(ok:yL S f I x es)(Q:u0 S P d)(h:TV P I x es a J KL)(R:A.depth<recursionLimit)(H:j4 S V F J fs ((Sl,jX #[] n)::Rc) s)(r:kQ V F v a):
  kY S A (call (.ref f) [v]) (λT L=>∃(l:iJ) (j:dq) (env:Env) (g:Nat) (oL:dq),T=.ref l/\GW S V F fs Rc env [(x,a)] l Sl j V F J [] #[] n oL L/\(∃U X,j.cls=.type "generator"/\j.data=.fields #[.int g 0,U,X]/\j.slots=#[])/\L.gens[g]?=some (.fresh (.func I.body env))/\
   ∀p,kj (d+1) true fs p->∀m u w,GW S V F fs Rc env [(x,a)] l Sl j V F J [] u w oL m->(GenState.fresh (.func I.body env)).Goes (p_ S) p (Qk S V F fs Rc env [(x,a)] l Sl j KL) (Dg es.length S V F fs Rc env [(x,a)] l Sl j (λe J K=>aE P.toPar 100 (oV I) e [(x,a)] J K wW) KL) es.length (.send .none) m) E s:=by
 have⟨o,Y,Z,o8⟩:=ok.obj;have⟨c',oc,WX,ct,GE,LN,WY,WZ,W0⟩:=ok.code;have pV:=H.lw _ _ (H.base _ _ Y o8);have BG:s.heap.CodeRec I.fd.code I.fd.qualname:=⟨c',oc,WX,ct,GE,H.lw _ _ (H.base _ _ LN WY),WZ,W0⟩
 refine dQ (codeAny_call_generator R pV Z ok.co ok.gen ok.body BG (ok.bind s v _ _ _ _ ?_));rw[ok.closure];have TW:∀y∈[(x,v)],I.fd.scope.names.lookup y.1=some NameKind.local:=λy i=>by rw[aN.mp i];exact ok.param
 refine wpAny_newFunctionEnv (λy i=>(ok.loc y i).1) TW (λh' YP uz=>?_) ok.kind;have keep:∀b o,s.heap.get? b=some o->h'.get? b=some o:=λb o e=>uz.extBut b o (dM (ck e)) (ad _ e);refine⟨H.lim.keeps keep,?_⟩;have⟨oL,z,B,Xx,C,D,G⟩:=id YP;have d_:=H.oU (h':=h') (t:=s.toks+1) keep (aq (h:=s.heap) (ao _)) Xx;have YQ:=am h' (o:={cls:=.type "generator",data:=.fields #[.int s.gens.size 0,.str I.fd.name (s.toks+1),.str I.fd.qualname (s.toks+1+1)]}) rfl;have jN:=d_.oU (h':=h'.push _) (t:=s.toks+1+1+1) (λb o e=>ad _ e) (aq (h:=h') (ao _)) YQ;have kK:=(jN.RP (iY:=s.gens.push (.fresh (.func I.body (newEnv I.fd.scope s.heap.objs.size I.fd.globals [] (I.fd.qualname++".<locals>.") (some f) I.fd.code none I.fd.builtins)))) (AllBare.push H.bare rfl)).nw (iS:=(s.heap.objs.size,oL)::(h'.objs.size,_)::(Sl,jX #[] n)::Rc) (List.Perm.swap _ _ _);have be:Df (newEnv I.fd.scope s.heap.objs.size I.fd.globals [] (I.fd.qualname++".<locals>.") (some f) I.fd.code none I.fd.builtins):={
  loc:=λy=>by
   show mZ (I.fd.scope.names.lookup y)=false;cases hq:I.fd.scope.names.lookup y with
   |none=>rfl
   |some k=>have M:=qB hq;cases k<;>first|rfl|exact absurd rfl (ok.loc _ M).1|exact absurd rfl (ok.loc _ M).2
  cells:=rfl
  frame:=rfl
  kind:=ok.kind
  co:=ok.co}
 have no:JP V F (newEnv I.fd.scope s.heap.objs.size I.fd.globals [] (I.fd.qualname++".<locals>.") (some f) I.fd.code none I.fd.builtins) [(x,a)] oL:=by
  refine⟨z,B,C,D,λy _=>?_⟩;rw[G];show n9 V F ([(x,v)].reverse.lookup y) _;rw[im,kh,kh];by_cases i:y=x
  .rw[aB i,aB i];exact r
  .rw[aA i,aA i];trivial
 refine⟨h'.objs.size,_,_,s.gens.size,oL,rfl,⟨.refl _ _,kK,.nil,no⟩,⟨_,_,rfl,rfl,rfl⟩,gO ..,λp fa m u w W=>⟨rfl,?_⟩⟩;have O:ma.isFn ⟨newEnv I.fd.scope s.heap.objs.size I.fd.globals [] (I.fd.qualname++".<locals>.") (some f) I.fd.code none I.fd.builtins,[(x,a)],[s.heap.objs.size]⟩=true:=by unfold ma.isFn;exact bW _
 apply seg_func;refine Ad (d:=d) (c:=oV I) (N:=es.length) be ?_ (λe J K q=>Hk Q.par 100 _ _ _ _ _ _ q) (fa.deeper O) ⟨rfl,ok.globals,ok.builtins,rfl,λy i=>?_,λ_=>O⟩ ?_ I.body es V F J [] u w oL m m _ ok.ys W h.2 (by simp)
 .unfold interactive;rw[show(newEnv I.fd.scope s.heap.objs.size I.fd.globals [] (I.fd.qualname++".<locals>.") (some f) I.fd.code none I.fd.builtins).scope.kind=.function from ok.kind];rfl
 .have:(oV I).JT=[]:=Dh ok.loc;rw[this]at i;cases i
 .rfl
abbrev Bh:=iJ->AV->jW->(jy->jW->Prop)->Prop
noncomputable def Af(S:Sys)(d:Nat)(pY:Bh):Prop:=∀f a J KL,pY f a J KL->∀(V:jj) (F:jn) (fs:jS) (Rc:mO) (s:aj) (A:bO) (v:ae) (Sl:iJ) (n:Nat) (E:nz),A.depth<recursionLimit->j4 S V F J fs ((Sl,jX #[] n)::Rc) s->kQ V F v a->
 kY S A (call (.ref f) [v]) (λit s'=>∃(ga:iJ) (oG:dq) (env:Env) (Y:j9) (g:Nat) (oL:dq) (N:Nat) (gs:GenState) (fe:Expr->jW->KV->Prop) (iN:j5),it=.ref ga/\GW S V F fs Rc env Y ga Sl oG V F J [] #[] n oL s'/\(∃nm qn,oG.cls=.type "generator"/\oG.data=.fields #[.int g 0,nm,qn]/\oG.slots=#[])/\s'.gens[g]?=some gs/\
  iN.length=N/\N<=100000/\uh fe iN [] J KL/\
   ∀A',kj d true fs A'->∀ql qo Ac,GW S V F fs Rc env Y ga Sl oG V F J [] qo Ac oL ql->gs.Goes (p_ S) A' (Qk S V F fs Rc env Y ga Sl oG KL) (Dg N S V F fs Rc env Y ga Sl oG fe KL) N (.send .none) ql) E s
def Ag (Kf:Frag)(pY:Bh)(k:Nat)(J:jW)(K:KV):Prop:=ky (lG J k) λC=>ky (lq Kf C "__iter__") λf=>findIn Kf (.ref C) "__len__"=some none/\findIn Kf (.ref C) "__length_hint__"=some none/\pY f (.ref k) J λl g_=>K (.lst l) g_
section
variable {pY:Bh}
def TX{b:iJ->az (Fn×Str×j5)}(c:∀f I x es,b f=some (I,x,es)->yL S f I x es)(i:u0 S P d):Af S (d+1) (λf a J KL=>ky (b f) λt=>TV P t.1 t.2.1 t.2.2 a J KL):=by intro f a J KL h V F fs Rc s A v Sl n E j H r;have⟨⟨I,x,es⟩,e,h⟩:=jo h;refine ai (ND (c f I x es e) i h j H r) (λy z p=>?_) λ_ _ e=>e;have⟨k,l,env,g,oL,m,o,q,u,w⟩:=p;exact⟨k,l,env,_,g,oL,es.length,_,_,es,m,o,q,u,rfl,h.1,h.2,w⟩
def KZ{x:iJ}{a:dq}{od:az dq}{Q:aY->aj->Prop}(XK:Kf.In s.heap)(I:InstAt s.heap x a C od)(b:findIn Kf (.ref C) "__len__"=some none)(c:findIn Kf (.ref C) "__length_hint__"=some none)(q:Q true s):
  kY S A (List.listLengthHint (.ref x)) Q E s:=by
 unfold List.listLengthHint;refine G (m:=specialOf (.ref x) (Str.ofString "__len__")) (G (I.type.here ((c6 XK b).here ?_)));refine G (m:=specialOf (.ref x) (Str.ofString "__length_hint__")) (G (I.type.here ((c6 XK c).here ?_)));exact ac q
def HS(z:kJ S.B Kf)(U:Af S d pY){v:ae}{Sa:iJ}(X:A.depth<recursionLimit)(H:j4 S V F J fs ((Sa,jX #[] n)::R) s)(r:kQ V F v (.ref k))(h:Ag Kf pY k J K)
  {D:PySem.Fin->aj->Prop}(q:∀u w,(∀j,j.depth<recursionLimit->j.handled=none->kj d true fs j.in1.in1->codeAny (p_ S) j (.builtin "list.extend.loop" ⟨[.ref Sa,u,res],[]⟩) (λr e_=>r=.ok (.ret res)/\∃jF F' i vs Z l,j8 V jF F F'/\j4 S jF F' i fs ((Sa,jX vs Z)::R) e_/\jV jF F' vs.toList l/\K (.lst l) i) w)->
   D (.again (.builtin "list.extend.loop" ⟨[.ref Sa,u,res],[]⟩)) w):
  kY S A (List.listExtendWith (.ref Sa) v res) D E s:=by
 have⟨C,hi,h⟩:=jo h;have⟨f,hf,GF,A7,h⟩:=jo h;obtain⟨x,ox,od,rfl,hx,I⟩:=lC H r hi;have o8:x≠Sa:=λe=>by subst e;have m:=H.res (x,jX #[] n) (.head _);have L:=I.at_;rw[show s.heap.get? x=some (jX #[] n)from m]at L;cases L;have:=I.cls;cases this
 unfold List.listExtendWith;refine G (I.type.here ?_);rw[aA (by unfold List.listSameRef;simp[bF o8])];refine G (w_ (z.here H) I hf (ai (U f _ J _ h V F fs R s A (.ref x) Sa n E X H r) (λu M p=>?_) λ_ _ e=>e));obtain⟨a,c,env,Y,g,oL,N,gs,fe,iN,rfl,W,O,Be,hr,hN,hy,E6⟩:=p;refine⟨"generator",_,(W.gen O).typeIs,iz.lookup,?_⟩;have⟨x',ox',ZQ,e,PF,I'⟩:=lC W.H r hi;cases e;refine G (aF (KZ (z.here W.H) I' GF A7 ?_));simp only[Bool.true_or,dR];refine G (b9 (G ?_));have P:=W.H.nw (iS:=(Sa,jX #[] n)::(env.locals,oL)::(a,c)::R) (bx (l₁:=[(env.locals,oL),(a,c)]));have m:=P.res (Sa,jX #[] n) (.head _);have Q:=bA (Obj.mapSeq (·.push Value.none)) m rfl;have IX:=bA (Obj.mapSeq (·.pop)) Q rfl;unfold List.listTouch List.listUpdate;refine G (cY m rfl (cY Q rfl ?_));have kK:=(P.uL (t:=M.toks) (o':=Obj.mapSeq (·.pop) (Obj.mapSeq (·.push Value.none) (jX #[] n))) (h':=(M.heap.update Sa (Obj.mapSeq (·.push Value.none))).update Sa (Obj.mapSeq (·.pop)))
   (λb x T e=>(bT _ _ (bF T)).trans ((bT _ _ (bF T)).trans e)) IX).nw (iS:=(env.locals,oL)::(a,c)::(Sa,Obj.mapSeq (·.pop) (Obj.mapSeq (·.push Value.none) (jX #[] n)))::R) (bx (l₁:=[(env.locals,oL),(a,c)])).symm
 refine ac (q _ _ λj hd hh yk=>?_);refine NC (N:=N) (fe:=fe) (KL:=λl i=>K (.lst l) i) hh hd O hN (λjF F' i f_ vs nn o w y kk=>⟨rfl,jF,F',i,vs,nn,f_,y.gr,?_,y.rs,kk⟩) N V F J [] #[] _ oL iN gs _ Be ⟨W.gr,kK,.nil,W.no⟩ hr hy (E6 _ yk);exact(y.H.nw (iS:=(Sa,jX vs nn)::(env.locals,o)::(a,c)::R) (bx (l₁:=[(env.locals,o),(a,c)])))|> λH=>(H.nw (iS:=(env.locals,o)::(a,c)::(Sa,jX vs nn)::R) (bx (l₁:=[(env.locals,o),(a,c)])).symm).vw.vw
def NE(i:kJ S.B Kf)(j:Af S d pY){v:ae}(fa:kj (d+1) true fs A)(H:j4 S V F J fs R s)(r:kQ V F v (.ref k))(h:Ag Kf pY k J K):
  kY S A (call (.type "list") [v]) (nP S V F fs R K) E s:=by
 refine iw (Q₁:=λa f=>a=.ref s.heap.objs.size/\f={s with heap:=s.heap.push {cls:=.type "list",data:=.seq #[]}}) PySem.F.called_list (PySem.F.typeCall_list_1 _) PySem.F.entry_list_init (code_list_new _ ⟨rfl,rfl⟩) λa f m=>?_;obtain⟨rfl,rfl⟩:=m;have c:(s.heap.push {cls:=.type "list",data:=.seq #[]}).get? s.heap.objs.size=some {cls:=.type "list",data:=.seq #[]}:=am _ rfl;refine⟨⟨_,c,rfl⟩,PySem.F.args_list_init_2 _ _,?_⟩;apply G;unfold List.listItems;refine G (cB c rfl (ac ?_));refine G (cY c rfl ?_);have n:=bA (Obj.mapSeq (λ_=>(#[]:bM ae))) c rfl;have q:=H.oU (t:=s.toks) (λb o e=>ad _ e) (aq (ao _)) c;have u:=q.uL (t:=s.toks) (o':=Obj.mapSeq (λ_=>(#[]:bM ae)) {cls:=.type "list",data:=.seq #[]}) (h':=(s.heap.push {cls:=.type "list",data:=.seq #[]}).update s.heap.objs.size (Obj.mapSeq (λ_=>(#[]:bM ae)))) (λb x w e=>(bT _ _ (bF w)).trans e) n;refine G (fb ?_);refine HS (A:=A.in1.in1) i j (show A.depth<recursionLimit from fa.room) u r h λN O y=>?_;refine⟨bS bG _,b7 (y A.in1 (show A.depth<recursionLimit from fa.room) (fa.calm rfl) ?_) λP e_ p=>?_⟩
 .exact⟨by have:=fa.depth;show A.depth+20*d<=900;omega,by have:=fa.units;show A.units+1+1+1+60*d<=9000;omega,fa.frames,fa.guards,fa.calm⟩
 .obtain⟨rfl,jF,F',z,vs,Q,l,C,D,I,L⟩:=p;refine⟨rfl,?_⟩;have⟨M,g⟩:=D.SW;exact⟨jF,_,_,z,C.trans g,M,.lst (jn.lf _ _ _) rfl rfl (I.mono g),L⟩
end
def Bi{x y a:ae}(D:u7 z TI TO i1 i2 l1 l2)(Z:Xi t1 t2 s.heap z TI TO i1 i2 l1 l2 k .none a b xs ys)
  (e:xs[k]?=some x) (f:ys[k]?=some y)
  (g:∀h' n,s.heap.get? n=none->IsZip h' z TI TO (rawInt n)->IsPair h' TO x y->uv t1 h' i1 l1 (k+1)->uv t2 h' i2 l2 (k+1)->IsPair h' n x y->
   (∀c o,c∉[z,TO,i1,i2]->s.heap.get? c=some o->h'.get? c=some o)->Q (some (.ref n)) {s with heap:=h'}):
  wpAny (model a_ w) A (pyNext (.ref z)) Q E s:=by
 have d:s.TypeIs (.ref z) "zip":=⟨_,Z.z,rfl⟩
 unfold pyNext;exact G (eF (b8 (name:=Str.ofString "__next__") d F.slot_zip_next
  (bn F.slot_zip_next d F.entry_zip_next (Nl D Z e f λh' n h i j l m p q=>ac (g h' n h i j l m p q)) (F.args_zip_next_1 _))))
def v7{a:ae}(f:A.handled=none)(D:u7 z TI TO i1 i2 l1 l2)(Z:Xi t1 t2 s.heap z TI TO i1 i2 l1 l2 k .none a b xs ys)
  (g:xs[k]?=none∨ys[k]?=none) (h:∀h',(∀c o,c∉[z,TO,i1,i2]->s.heap.get? c=some o->h'.get? c=some o)->Q none {s with heap:=h'}):
  wpAny (model a_ w) A (pyNext (.ref z)) Q E s:=by
 have d:s.TypeIs (.ref z) "zip":=⟨_,Z.z,rfl⟩
 unfold pyNext;refine G (eF (b8 (name:=Str.ofString "__next__") d F.slot_zip_next
  (bn F.slot_zip_next d F.entry_zip_next (Qf f D Z g λh' e i j=>?_) (F.args_zip_next_1 _))))
 have⟨o,l,m⟩:=j;exact G (bN (T:="StopIteration") (b:=true) ⟨o,l,m⟩ ix (ac (h _ i)))
def BV{a:aY}{l:iJ}{Q:nz}(b:sr a s.heap l xs)
  (c:Q (.ref s.heap.objs.size) {s with heap:=s.heap.push {cls:=.type (KG a),data:=.fields #[.ref l,.int 0 0]}}):wpAny (model a_ w) A (pyIter (.ref l)) Q E s:=by
 cases a with
 |false=>exact eJ b.list c
 |true=>exact f8 b.tuple c
abbrev zA(t1 t2:aY)(h:cj)(l1:iJ):cj:=h.push {cls:=.type (KG t1),data:=.fields #[.ref l1,.int 0 0]}
abbrev zB(t1 t2:aY)(h:cj)(l1 l2:iJ):cj:=(zA t1 t2 h l1).push {cls:=.type (KG t2),data:=.fields #[.ref l2,.int 0 0]}
abbrev zC(t1 t2:aY)(h:cj)(l1 l2:iJ):cj:=(zB t1 t2 h l1 l2).push {cls:=.type "tuple",data:=.seq #[.ref h.objs.size,.ref (zA t1 t2 h l1).objs.size]}
abbrev zD(t1 t2:aY)(h:cj)(l1 l2:iJ):cj:=(zC t1 t2 h l1 l2).push {cls:=.type "tuple",data:=.seq #[.none,.none]}
abbrev zE(t1 t2:aY)(h:cj)(l1 l2:iJ):cj:=(zD t1 t2 h l1 l2).push {cls:=.type "zip",data:=.fields #[.none,.bool false,.bool false,.ref (zB t1 t2 h l1 l2).objs.size,.ref (zC t1 t2 h l1 l2).objs.size]}
def K0(t1 t2:aY)(l1 l2:iJ)(xs ys:bM ae):
  Meets (Builtin.«zip.__new__» ⟨[.type "zip",.ref l1,.ref l2],[]⟩) (λ_ R s=>sr t1 s.heap l1 xs/\sr t2 s.heap l2 ys/\
   R (.ok (.ret (.ref (zD t1 t2 s.heap l1 l2).objs.size))) {s with heap:=zE t1 t2 s.heap l1 l2}):=
 .of_wp λa_ w A R s h=>by
  obtain⟨c,g,d,tk,os⟩:=s;obtain⟨e,f,h⟩:=h;have j:=sub_zip;have a:=e;have b:sr t2 (Shared.heap ⟨c.push {cls:=.type (KG t1),data:=.fields #[.ref l1,.int 0 0]},g,d,tk,os⟩) l2 ys:=by have⟨o,i,r⟩:=f;exact⟨o,ad _ i,r⟩
  wp_walk using BV a,BV b;exact⟨_,rfl,h⟩
def NF:AV->az (jy)
 |.lst l=>some l
 |.tup l=>some l
 |_=>none
def I_{v:ae}{a:AV}(r:kQ V F v a)(h:NF a=some l):∃tup x xs o,v=.ref x/\F x=some o/\o.cls=.type (Qb tup)/\(∃n,o.data=.seq xs n)/\jV V F xs.toList l:=by
 cases r with
 |tup e c d r=>cases h;exact⟨true,_,_,_,rfl,e,c,⟨_,d⟩,r⟩
 |lst e c d r=>cases h;exact⟨false,_,_,_,rfl,e,c,⟨_,d⟩,r⟩
 |_=>cases h
def NG{Q:nz}(b:sr t1 s.heap l1 xs)(c:sr t2 s.heap l2 ys)
  (h:Q (.ref (zD t1 t2 s.heap l1 l2).objs.size) {s with heap:=zE t1 t2 s.heap l1 l2}):kY S A (call (.type "zip") [.ref l1,.ref l2]) Q E s:=by
 refine callType_new F.called_zip (by decide) (F.typeCall_zip_2 _ _) (F.newCall_zip_2 _ _) (λa=>F.args_object_init_3 a _ _) F.entry_zip_new (K0 t1 t2 l1 l2 xs ys) ⟨b,c,?_⟩;exact⟨⟨_,am _ rfl,rfl⟩,h⟩
def uj:jy->jy->jy
 |a::l,b::m=>.tup [a,b]::uj l m
 |_,_=>[]
def K1{X Y:dq}{es:j5}{kk:Nat}{tp:Pos}(D:u7 z TI TO i1 i2 l1 l2)
  (f1:F l1=some X) (c1:X.cls=.type (Qb t1)) (d1:∃n,X.data=.seq xs n) (f2:F l2=some Y) (c2:Y.cls=.type (Qb t2)) (d2:∃n,Y.data=.seq ys n) (fT:F TI=some {cls:=.type "tuple",data:=.seq #[.ref i1,.ref i2]}):
  ∀(L w:jy) (k:Nat) (a b:ae) (h j:dq) (r:jj) (u:jn),j8 V r F u->jV r u (xs.toList.drop k) L->jV r u (ys.toList.drop k) w->h.cls=.type (KG t1)->h.data=.fields #[.ref l1,.int k 0]->j.cls=.type (KG t2)->j.data=.fields #[.ref l2,.int k 0]->
   ot S d (.Tuple es kk tp) (λ_=>True) (.ref z) (uj L w) r u [(z,{cls:=.type "zip",dict:=none,data:=.fields #[.none,.bool false,.bool false,.ref TI,.ref TO],slots:=#[]}),(TO,{cls:=.type "tuple",data:=.seq #[a,b]}),(i1,h),(i2,j)]:=by
 have st:∀{k:Nat}{a b:ae}{h j:dq}{r:jj}{u:jn}{J:jW}{fs:jS}{R:mO}{s:aj},j8 V r F u->h.cls=.type (KG t1)->h.data=.fields #[.ref l1,.int k 0]->j.cls=.type (KG t2)->j.data=.fields #[.ref l2,.int k 0]->
   j4 S r u J fs ([(z,{cls:=.type "zip",dict:=none,data:=.fields #[.none,.bool false,.bool false,.ref TI,.ref TO],slots:=#[]}),(TO,{cls:=.type "tuple",data:=.seq #[a,b]}),(i1,h),(i2,j)]++R) s->Xi t1 t2 s.heap z TI TO i1 i2 l1 l2 k .none a b xs ys:=
  λg GE C E f H=>⟨H.res _ (.head _),H.lw _ _ (g.fr fT),H.res _ (.tail _ (.head _)),⟨_,H.res _ (.tail _ (.tail _ (.head _))),GE,C⟩,⟨_,H.res _ (.tail _ (.tail _ (.tail _ (.head _)))),E,f⟩,⟨_,H.lw _ _ (g.fr f1),c1,d1⟩,⟨_,H.lw _ _ (g.fr f2),c2,d2⟩⟩
 intro L;induction L with
 |nil=>
  intro w k a b h j r u M T U GE C E f;intro B G J fs R s A l fa _ H;refine v7 (fa.calm rfl) D (st (M.trans l) GE C E f H) (.inl ?_) λh' N=>⟨rfl,B,G,.refl _ _,?_⟩
  .have:=T.length;rw[eV,aQ,bL]at this;exact fv (by omega)
  .exact H.I4 (t:=s.toks) (dr:=s.drawn) (iY:=s.gens) (λc o I e=>N c o I e) H.bare
 |cons x L ih=>
  intro w k a b h j r u M T U GE C E f;cases w with
  |nil=>
   intro B G J fs R s A l fa _ H;refine v7 (fa.calm rfl) D (st (M.trans l) GE C E f H) (.inr ?_) λh' N=>⟨rfl,B,G,.refl _ _,?_⟩
   .have:=U.length;rw[eV,aQ,bL]at this;exact fv (by omega)
   .exact H.I4 (t:=s.toks) (dr:=s.drawn) (iY:=s.gens) (λc o I e=>N c o I e) H.bare
  |cons y w=>
   intro B G J fs R s A l fa _ H;have⟨Z,O,rx⟩:=T.get (i:=0) rfl;have⟨vy,P,ry⟩:=U.get (i:=0) rfl;rw[c8,fc,ax]at O P;refine Bi D (st (M.trans l) GE C E f H) O P λh' n hn hz Xk h1 h2 hT N=>⟨_,rfl,?_⟩
   refine wpAny_letOwnedTupleGo_zip (s:={s with heap:=h'}) hz λHg hz' Q=>?_;obtain⟨Xz,g1,e1,PK⟩:=h1;obtain⟨XA,g2,e2,Iw⟩:=h2;have o8:∀p∈([(z,({cls:=.type "zip",dict:=none,data:=.fields #[.none,.bool false,.bool false,.ref TI,.ref TO],slots:=#[]}:dq)),(TO,{cls:=.type "tuple",data:=.seq #[a,b]}),(i1,h),(i2,j)]++R:mO),n≠p.1:=λp W q=>by have:=H.res p W;rw[<-q,hn]at this;cases this
   have nd:=D.nd;simp only[aL,af,bl,cI,eZ]at nd;have⟨⟨zTI,Qc,Pp,RG⟩,⟨TITO,TIi1,TIi2⟩,⟨jC,jD⟩,i12,_⟩:=nd;have⟨n1,n2,n3⟩:=H.fresh hn;have H1:j4 S B G J fs ([(z,{cls:=.type "zip",dict:=none,data:=.fields #[.none,.bool false,.bool false,.ref TI,.ref TO],slots:=#[]}),(TO,{cls:=.type "tuple",data:=.seq #[Z,vy]}),(i1,Xz),(i2,XA)]++R) {s with heap:=Hg}:=
    Holds.Nt (t:=s.toks) (dr:=s.drawn) (iY:=s.gens) H rfl (λc o I e=>Q.extBut _ _ (λq=>I (by rw[q];exact .head _)) (N c o (λq=>I (by simpa using q)) e)) (λp W=>by
     simp only[af,bl,cI]at W;rcases W with rfl|rfl|rfl|rfl
     .exact hz'
     .exact Q.extBut _ _ (bF Qc) Xk
     .exact Q.extBut _ _ (bF Pp) g1
     .exact Q.extBut _ _ (bF RG) g2) H.bare
   have hTn:=Q.extBut _ _ (o8 _ (.head _)) hT;have⟨H2,K⟩:=H1.adopt n1 n2 (λm=>n3 (by unfold kz at m⊢;simpa using m)) hTn;refine⟨B,G.put n {cls:=.type "tuple",data:=.seq #[Z,vy]},_,K,.tup (jn.lf ..) rfl rfl (.cons ((rx.mono l).mono K) (.cons ((ry.mono l).mono K) .nil)),H2,?_⟩;have Xc:xs.toList.drop (k+1)=(xs.toList.drop k).drop 1:=by rw[dS]
   have hy1:ys.toList.drop (k+1)=(ys.toList.drop k).drop 1:=by rw[dS]
   refine ih w (k+1) Z vy Xz XA B _ (M.trans (l.trans K)) ?_ ?_ e1 PK e2 Iw
   .rw[Xc];exact((T.drop 1).mono l).mono K
   .rw[hy1];exact((U.drop 1).mono l).mono K
def BW(b:l7 S d fE){args:j5}(t:pq args=true){KL:AV->jy->jW->Prop}{Q:nz}
  (h:fE c (.Name y yp) Y J (λg i=>oj (λe J K=>fE c e Y J K X) args i (KL g)) X) (fa:kj d c.calm (f::fs) A) (j:nC c f) (m:f.vars=Y) (H:j4 S V F J (f::fs) R s)
  (q:∀jF F' n a v g vs l,j8 V jF F F'->j4 S jF F' n (f::fs) R a->kQ jF F' v g->jV jF F' vs l->KL g l n->oq (p_ S) v a/\kY S A (call v vs) Q (oW S V F (f::fs) R X) a):
  kY S A (eval (.Call (.Name y yp) args [] pos) f.env) Q (oW S V F (f::fs) R X) s:=by
 refine eI (wp_mono (b c _ Y J _ X h V F f fs R s A fa j m H) λu w v av i x o z B C=>?_);refine mw (first:=[]) (ai (nj (X:=X) (λe J K q=>b c e Y J K X q) C u w f fs R x A fa j m z) (λvs e_ p=>?_) λ_ _ p=>p.grow o) (mx t);have⟨D,E,l,G,r,I,L,k⟩:=p;exact q D E G e_ v av vs l (o.trans r) I (B.mono r) L k
def K2(n l1 l2:Nat)(a:l1<n)(b:l2<n):u7 (n+4) (n+2) (n+3) n (n+1) l1 l2:=by
 refine⟨?_,?_,?_⟩
 .grind
 .grind
 .grind
def Fb (n:String):AV->Prop
 |.val (.type t)=>t=n
 |_=>False
def Fc{n:String}{g:AV}{v:ae}(r:kQ V F v g)(h:Fb n g):v=.type n:=by
 unfold Fb at h;split at h
 .subst h;cases r;rfl
 .exact h.elim
def TY:Expr->aY
 |.Tuple ..=>true
 |_=>false
def aam (K:jy->(jW->Prop)->jW->Prop):AV->jy->jW->Prop:=λg l J=>Fb "zip" g/\(match l with
 |[a,b]=>ky (NF a) λla=>ky (NF b) λlb=>K (uj la lb) (λ_=>True) J
 |_=>False)
def Di (fE:rT)(fI:D5):Rj:=λc tg e Y J K X=>match e with
 |.Call (.Name y yp) [e1,e2] [] pos=>if(y==("zip":Str))=true then TY tg=true/\pq [e1,e2]=true/\fE c (.Name y yp) Y J (λg iT=>oj (λe J K=>fE c e Y J K X) [e1,e2] iT (aam K g)) X
   else uT fE fI c tg (.Call (.Name y yp) [e1,e2] [] pos) Y J K X
 |e=>uT fE fI c tg e Y J K X
def Ff{G:D5}(q:l7 S d fE)(I:qO S d G):xF S d (Di fE G):=by
 intro c r e Y J K X h;unfold Di at h;split at h
 .rename_i y yp u w pos;split at h
  .intro V F f fs R s A fa U W Z H;obtain⟨ht,hs,h⟩:=h;refine BW q hs h (U▸fa) W Z H λz L iT i v g vs l jQ j kG m k=>?_;obtain⟨ty,k⟩:=k;split at k
   .rename_i a b;obtain⟨M,ea,k⟩:=jo k;obtain⟨N,eb,k⟩:=jo k;cases Fc kG ty;refine⟨nu,?_⟩;cases m with
    |cons ra m=>
    cases m with
    |cons rb m=>
    cases m;obtain⟨t1,l1,xs,o1,rfl,B,O,d1,rx⟩:=I_ ra ea;obtain⟨t2,l2,ys,o2,rfl,C,P,d2,ry⟩:=I_ rb eb;have GF:sr t1 i.heap l1 xs:=⟨_,j.lw _ _ B,O,d1⟩
    have A7:sr t2 i.heap l2 ys:=⟨_,j.lw _ _ C,P,d2⟩
    refine NG GF A7 ?_;have pu:∀(h:cj) (o:dq) b x,h.get? b=some x->(h.push o).get? b=some x:=λh o b x e=>ad _ e;have n:∀h:cj,h.get? h.objs.size=none:=λh=>aq (ao _);have Ha:=j.oU (t:=i.toks) (o:={cls:=.type (KG t1),data:=.fields #[.ref l1,.int 0 0]}) (pu i.heap _) (n _) (am _ rfl);have Hb:=Ha.oU (t:=i.toks) (o:={cls:=.type (KG t2),data:=.fields #[.ref l2,.int 0 0]}) (pu (zA t1 t2 i.heap l1) _) (n _) (am _ rfl);obtain⟨Hc,p⟩:=Hb.yi (t:=i.toks) (o:={cls:=.type "tuple",data:=.seq #[.ref i.heap.objs.size,.ref (zA t1 t2 i.heap l1).objs.size]}) (pu (zB t1 t2 i.heap l1 l2) _) (n _) (am _ rfl);have Hd:=Hc.oU (t:=i.toks) (o:={cls:=.type "tuple",data:=.seq #[.none,.none]}) (pu (zC t1 t2 i.heap l1 l2) _) (n _) (am _ rfl);have He:=Hd.oU (t:=i.toks) (o:={cls:=.type "zip",data:=.fields #[.none,.bool false,.bool false,.ref (zB t1 t2 i.heap l1 l2).objs.size,.ref (zC t1 t2 i.heap l1 l2).objs.size]}) (pu (zD t1 t2 i.heap l1 l2) _) (n _) (am _ rfl);have Q:=He.nw (iS:=[((zD t1 t2 i.heap l1 l2).objs.size,{cls:=.type "zip",data:=.fields #[.none,.bool false,.bool false,.ref (zB t1 t2 i.heap l1 l2).objs.size,.ref (zC t1 t2 i.heap l1 l2).objs.size]}),
     ((zC t1 t2 i.heap l1 l2).objs.size,{cls:=.type "tuple",data:=.seq #[.none,.none]}),(i.heap.objs.size,{cls:=.type (KG t1),data:=.fields #[.ref l1,.int 0 0]}),((zA t1 t2 i.heap l1).objs.size,{cls:=.type (KG t2),data:=.fields #[.ref l2,.int 0 0]})]++R)
     (.cons _ (.cons _ (.swap ..)))
    have fT:(L.put (zB t1 t2 i.heap l1 l2).objs.size {cls:=.type "tuple",data:=.seq #[.ref i.heap.objs.size,.ref (zA t1 t2 i.heap l1).objs.size]}) (zB t1 t2 i.heap l1 l2).objs.size=some {cls:=.type "tuple",data:=.seq #[.ref i.heap.objs.size,.ref (zA t1 t2 i.heap l1).objs.size]}:=jn.lf ..;have D:u7 (zD t1 t2 i.heap l1 l2).objs.size (zB t1 t2 i.heap l1 l2).objs.size (zC t1 t2 i.heap l1 l2).objs.size i.heap.objs.size (zA t1 t2 i.heap l1).objs.size l1 l2:=by
     have b1:=ck (j.lw _ _ B);have b2:=ck (j.lw _ _ C);have u:(zA t1 t2 i.heap l1).objs.size=i.heap.objs.size+1:=bY ..;have w:(zB t1 t2 i.heap l1 l2).objs.size=i.heap.objs.size+2:=by rw[bY,u]
     have T:(zC t1 t2 i.heap l1 l2).objs.size=i.heap.objs.size+3:=by rw[bY,w]
     have e4:(zD t1 t2 i.heap l1 l2).objs.size=i.heap.objs.size+4:=by rw[bY,T]
     rw[u,w,T,e4];exact K2 _ _ _ b1 b2
    refine wpAny_pyIter_zip (Q.res _ (.head _)) ⟨z,_,_,iT,uj M N,λ_=>True,jQ.trans p,Q,trivial,⟨?_,?_⟩,k⟩
    .intro jP ke jf Iv iS e_ PB PD PC g _ jN E;exact wpAny_pyIter_zip (jN.res _ (.head _)) E
    .cases r<;>try (cases ht)
     exact K1 (V:=z) (F:=L.put (zB t1 t2 i.heap l1 l2).objs.size _) D (p.fr B) O d1 (p.fr C) P d2 fT M N 0 _ _ _ _ z _ (.refl _ _) (rx.mono p) (ry.mono p) rfl rfl rfl rfl
   .exact k.elim
  .exact pG q I c r _ Y J K X h
 .exact pG q I c r e Y J K X h
abbrev t8:Arguments:=⟨[],[],.none,[],[],.none,[]⟩
def Fh (sc:dF):aY:=sc.kind==.function&&!sc.isGenerator&&!sc.isCoroutine&&sc.names.all λp=>p.2 !=.cell&&p.2 !=.free
def Ja (sc:dF)(code:ae):nW:={scope:=sc,code:=code,JT:=[],calm:=true,fn:=true}
def XB (tb:jj)(c:nW)(sc:dF)(b:Expr)(J:jW)(K:KV):Prop:=tJ tb c.code=true/\Fh sc=true/\K (.lam sc b) J
def Fi (fE:rT)(sc:dF)(b:Expr)(J:jW)(K:KV)(X:KX):Prop:=Fh sc=true/\∀code,fE (Ja sc code) b [] J K λx g_=>X ⟨x.name,true⟩ g_
section
variable {R:Result->aj->Prop}
def K3{e:Expr}
  (h:wpAny (model a_ w) (A.deeper env) (eval e env) (λv a=>R (.ok (.ret v)) a) (λd a=>wpAny (model a_ w) (A.deeper env) (leaving env d) (λ_ b=>R (.error d) b) (λc b=>R (.error c) b) a) s):
  codeAny (model a_ w) A (.expr e env) R s:=by
 apply bX;exact G (wpAny_point (G (eE (ai h (λv a h'=>ac h') λ_ _ h'=>h'))))
def LA{Q:List (Str×ae)->aj->Prop}(a:fd.params=t8)(b:fd.defaults=.none)(c:fd.kwdefaults=.none)(q:Q [] s):wpAny M A (bindArgs fd ⟨[],[]⟩) Q E s:=by unfold bindArgs;rw[a,b,c];exact ac q
def NH{c':iJ}{g:dq}{b:Expr}{q:Str}{t:Tok}(k:A.depth<recursionLimit)(l:s.heap.get? a=some o)(n:o.data=.func fd)(p:fd.scope.isCoroutine=false)(c:fd.scope.isGenerator=false)(r:fd.body=.expr b)
  (i:fd.code=.ref c') (d:s.heap.get? c'=some g) (f:g.data=.fields vs) (u:vs[1]?=some (.str q t)) (x:fd.params=t8) (y:fd.defaults=.none) (z:fd.kwdefaults=.none)
  (h:wpAny (model a_ w) A.in1 (newFunctionEnv fd.scope fd.globals fd.closure [] (q++".<locals>.") (some a) fd.code none fd.builtins)
    (λenv e_=>e_.heap.NoLimit/\codeAny (model a_ w) A (.expr b env) R e_) (λe B=>R (.error e) B) s):codeAny (model a_ w) A (.call (.ref a) ⟨[],[]⟩) R s:=by
 apply bX;show wpAny _ A.in1 (callAny (.ref a) ⟨[],[]⟩) _ _ s;simp only[callAny];refine G (dB l ?_);simp only[n,callFunction,p,c,r,i];rw[i]at h;refine G (m:=field (.ref c') 1) (ci d f u (G (ac ?_)));refine G (LA x y z (G (ai h (λenv e_ j=>?_) λ_ _ h'=>h')));exact G (wpAny_enterFrame j.1 k (ac (And.intro rfl j.2)))
end
def NI(hE:l7 S d fE){v:ae}{b:Expr}(h:Fi fE sc b J K X)(fa:kj (d+1) true fs A)(H:j4 S V F J fs R s)(r:kQ V F v (.lam sc b)):
  oq (p_ S) v s/\kY S A (call v []) (nP S V F fs R K) (oW S V F fs R X) s:=by
 obtain⟨P,h⟩:=h;cases r with
 |lam e c1 d1 m Q h3 h4 h5 h6 h7 h8 h9 SV UW=>
 rename_i a o fd c' oc vs q t;simp only[Fh,aJ,bJ,aZ,dC,iI,aG]at P;obtain⟨⟨⟨T,k2⟩,k3⟩,U⟩:=P;have l:=H.lw _ _ e;have u:∀x,mZ (fd.scope.names.lookup x)=false:=λx=>by
  cases w:fd.scope.names.lookup x with
  |none=>rfl
  |some k=>have:=U (x,k) (mem_of_lookup w);cases k<;>first|rfl|exact absurd rfl this.1|exact absurd rfl this.2
 refine⟨λA' Q' E' w=>?_,rE ?_⟩
 .unfold keeperOf;refine G (dB l ?_);rw[d1];exact ac (w _)
 apply NH fa.room l d1 k3 k2 m h6 (H.lw _ _ h7) h8 h9 h5 SV UW;rw[Q];refine gj T (λx hx=>by cases hx) λenv c jw x=>?_;refine⟨H.lim.keeps x.toInCall.keep,K3 ?_⟩;have hL:env.locals=s.heap.objs.size:=by rw[c];rfl
 have W:env.frame=some env.locals:=by rw[c];rfl
 have kk:∀y,env.kindOf y=fd.scope.names.lookup y:=λy=>by rw[c];rfl
 have Y:env.cells=[]:=by
  have:env.cells=cellsFrom (s.heap.objs.size+1) fd.scope.names []:=by rw[c];rfl
  rw[this];have B:∀(c_:List (Str×cF)) (n:Nat),(∀p∈c_,p.2≠.cell)->cellsFrom n c_ []=[]:=by
   intro c_;induction c_ with
   |nil=>intro n _;rfl
   |cons p c_ ih=>intro n Z;have⟨z,k⟩:=p;unfold cellsFrom;rw[aA (by simpa using Z (z,k) (.head _))];exact ih n λp C=>Z p (.tail _ C)
  exact B _ _ λp C=>(U p C).1
 obtain⟨lX,tk,rfl⟩:=x.toInCall.same;have HP:j4 S V F J (⟨env,[],[env.locals]⟩::fs) R {s with heap:=lX,toks:=tk}:=by
  refine H.push (t:=tk) x.toInCall.keep (λa D=>?_) (λa D=>?_) (aL.mpr ⟨λh=>(by cases h),List.nodup_nil⟩) ⟨⟨_,x.toInCall.ns,λy g=>?_⟩,λy g=>?_,.head _,λy a g=>?_,?_,⟨env.locals,.head _,W⟩,λy z a m Q=>?_⟩
  .rw[aN.mp D,hL];exact aq (ao _)
  .rw[aN.mp D];have⟨o,_,_,l,_⟩:=x.toInCall.ns;exact⟨o,l⟩
  .rw[zL _ _ _ _ g,iu];trivial
  .have i:=nV g;rw[kk,u]at i;cases i
  .have i:=g;rw[Y]at i;cases i
  .show env.scope.kind=_;rw[c];exact T
  .have j:=m;rw[Y]at j;cases j
 have E:ma.isFn ⟨env,[],[env.locals]⟩=true:=by unfold ma.isFn;rw[W];exact bW _
 have yk:=fa.deeper (f:=⟨env,[],[env.locals]⟩) E;have ff:nC (Ja fd.scope fd.code) ⟨env,[],[env.locals]⟩:=⟨by rw[c];rfl,by rw[c];exact h3,by rw[c];exact h4,by rw[c];rfl,λy g=>(by cases g),λ_=>E⟩
 refine ai (hE (Ja fd.scope fd.code) b [] J K _ (h fd.code) V F ⟨env,[],[env.locals]⟩ fs R _ _ yk ff rfl HP) (λv e_ p=>?_) λe e_ p=>?_
 .have⟨I,L,av,M,N,jN,my,O⟩:=p;exact⟨I,L,av,M,N,jN.pop,my,O⟩
 .have⟨I,L,k,M,N,vS,O⟩:=p;refine zc (f:=⟨env,[],[env.locals]⟩) yk.frames E vS λmr EC=>?_;exact⟨I,L,⟨k.name,true⟩,M,N,EC,O⟩
def Fj(l:sF S.B){h P:iJ}{m n p:Str}{r:Nat}{je:Arguments}{b_:dF}{a:FuncBody}{Q:nz}(i:(h,P,m)∈S.B.tabs)(j:env.code=.ref h)(H:j4 S V F J fs R s)
  (q:∀c' k vs b t F' h' tk,j8 V V F F'->j4 S V F' J fs R {s with heap:=h',toks:=tk}->F' c'=some k->k.data=.fields vs->vs[1]?=some (.str b t)->Q (.ref c') {s with heap:=h',toks:=tk}):kY S A (functionCode env pos r n p je b_ a) Q E s:=by
 have⟨⟨ps,i1,i2,u⟩,y2,y3,y4,y5⟩:=H.tabs _ i;cases c:codeAmong pos ps.toList with
 |some w=>obtain⟨c',o,vs,b,t,rfl,d,e,f⟩:=u pos w c;exact wpAny_functionCode_hit j i1 c (q c' o vs b t F s.heap s.toks (.refl _ _) (H.tok _) d e f)
 |none=>refine wpAny_functionCodeX j i1 i2 c λc' h' tk x y I z C D _=>?_;obtain⟨o,vs,t,d,e,G,g,f⟩:=H.Ix l (tk:=tk) i i1 i2 x y z C D;exact q c' o vs _ t _ h' tk g G f d e
def Fk(a:tj S.B)(H:j4 S V F J fs R s)(x:Str)(q:∀v,Q v s):wpAny M A (nsGet mainGlobals x) Q E s:=by have⟨o,es,n,bm,f,b,c,d,e,g,h,i,j,k,l⟩:=a.ex;exact wpAny_nsGet (m:=nsFind es) ⟨o,es,n,H.lw _ _ (H.base _ _ b c),d,e,λ_=>rfl⟩ (q _)
def uM.yi{o:dq}{a:AV}{tk:Nat}{h:cj}(H:j4 S V F J fs R {s with heap:=h,toks:=tk})(d:o.isFreed=false)(r:∀F',F' h.objs.size=some o->j8 V V F F'->kQ V F' (.ref h.objs.size) a)(k:K a J):
  nP S V F fs R K (.ref h.objs.size) {s with heap:=h.push o,toks:=tk}:=by
 have⟨f,c⟩:=H.yi (t:=tk) (h':=h.push o) (a:=h.objs.size) (o:=o) (λb o e=>ad _ e) (aq (ao _)) (am _ d);exact⟨V,_,_,J,c,f,r _ (jn.lf ..) c,k⟩
def NJ(D:sF S.B)(w:tj S.B){tb:jj}(E:KM S.B tb){b:Expr}(h:XB tb c sc b J K):pD S d (eval (.Lambda t8 b sc pos)) c Y J K X:=by
 intro V F f fs R s A fa y hv H;have⟨j,m,k⟩:=h;have KW:=m;simp only[Fh,aJ,bJ,aZ,dC,iI,aG]at m;have⟨⟨⟨k1,k2⟩,k3⟩,z⟩:=m;have I:∃e P l,f.env.code=.ref e/\(e,P,l)∈S.B.tabs:=by
  unfold tJ at j;split at j
  .rename_i e n;have⟨P,l,i⟩:=E e (by simpa using j);exact⟨e,P,l,y.2.2.2.1.trans n,i⟩
  .cases j
 have⟨e,P,l,n,L⟩:=I;have M:closureFor sc f.env=pure (kR sc.names f.env []):=qQ λq i N=>absurd N (z q i).2;have O:kR sc.names f.env []=[]:=by
  cases i:kR sc.names f.env []with
  |nil=>rfl
  |cons p r=>
   rcases qb (c_:=sc.names) (env:=f.env) (f_:=[]) (x:=p.1) (a:=p.2) (by rw[i];exact .head _)with h|⟨h,_⟩
   .cases h
   .exact absurd rfl (z _ h).2
 rw[arm_eval_Lambda];show wpAny _ A (do let C <-evalAll [];let o <-holding C (evalAllOpt []);makeFunction "<lambda>" (f.env.qual++"<lambda>") t8 (.expr b) sc f.env C o [] pos pos.line) _ _ s;refine G (ac (G (aF (ac ?_))));rw[makeFunction_eq];simp only[List.zip_nil_right,List.filterMap_nil,cC,dR,pure_bind];unfold makeTail;rw[M,O];refine G (ac ?_);simp only[cC,dR];refine G (ac ?_);refine G (Fj D L n H λc' oc vs q' t jL lX tk g u Q T U=>?_);rw[y.2.1];refine G (E8 w u ?_);refine G (Fk w u _ λv=>?_);refine G (ac (br ?_ (by size_fits)));exact uM.grow g (uM.yi u rfl (λke W Z=>.lam W rfl rfl rfl rfl rfl rfl rfl rfl (Z.fr Q) T U rfl rfl) k)
def tN (K:Frag)(D C:iJ):aY:=(clsIn K D).isSome&&mroIn K C (.ref D)==some true&&makesIn K C&&(match findIn K (.ref C) "__init__" with|some (some _)=>true|_=>false)&&
 (match clsIn K C with|some cd=>!cd.mro.isEmpty&&alongIn K "__new__" ((cd.mro.dropWhile (· !=.ref D)).drop 1)==some (some (.builtin "object.__new__"))|none=>false)
def Qo:typeOf (.builtin "object.__new__")=pure (.type "builtin_function_or_method"):=by show builtinType _=_;rw[builtinType_eq_fast];kernel_rfl
def Qp:typeLookup (.type "builtin_function_or_method") "__get__"=pure none:=by rw[dK,cV];kernel_rfl
def Fl:handedOut (.builtin "object.__new__")=pure (.builtin "object.__new__"):=by kernel_rfl
abbrev v8(D C:iJ):dq:={cls:=.type "super",dict:=none,data:=.fields #[.ref D,.ref C,.ref C],slots:=#[]}
section
variable {h:cj}{g:bM GenState}{d:Drawn}{t:Nat}{os:OsState}{K:Frag}
def Ah{q r:dq}{i j:ClassData}{Q:nz}(s:h.get? D=some q)(a:q.data=.cls i)(z:h.get? C=some r)(l:r.data=.cls j)
  (B:Looks (model a_ w) h (isSubtype (.ref C) (.ref D)) true)
  (u:∀h',h'.get? h.objs.size=some (v8 D C)->(∀y o,h.get? y=some o->h'.get? y=some o)->Q (.ref h.objs.size) ⟨h',g,d,t,os⟩):
  wpAny (model a_ w) A (call (.type "super") [.ref D,.ref C]) Q E ⟨h,g,d,t,os⟩:=by
 refine ks_callType_codesW (Q₁:=λb x=>b=.ref h.objs.size/\x=⟨h.push {cls:=.type "super",data:=.fields #[.none,.none,.none]},g,d,t,os⟩) F.ks_called_super (ks_wpAny_checkTypeCall_super s a) F.ks_entry_super_init
  (ks_code_super_new _ _ ⟨rfl,rfl⟩) λb x G=>?_
 obtain⟨rfl,rfl⟩:=G;have c:∀y o,h.get? y=some o->(h.push {cls:=.type "super",data:=.fields #[.none,.none,.none]}).get? y=some o:=λy o e=>ad _ e;have m:(h.push {cls:=.type "super",data:=.fields #[.none,.none,.none]}).get? h.objs.size=some {cls:=.type "super",dict:=none,data:=.fields #[.none,.none,.none],slots:=#[]}:=Heap.get?_push_at rfl rfl;have n:=c _ _ s;have p:=c _ _ z;have H:=B.keeps c;refine⟨⟨_,m,rfl⟩,F.ks_initArgs_super _ _ _,?_⟩;unfold Builtin.«super.__init__» noKeywords
 repeat (first|(with_reducible refine ks_wpAny_isType_cls n a ?_)|(with_reducible refine ks_wpAny_isType_cls p l ?_)|(with_reducible refine Looks.at H ?_)|(with_reducible refine ks_wpAny_super_set3 m ?_)|wp_step)
 all_goals first
  |(intro h' e k;exact⟨rfl,u h' e λy o f=>k y o (dM (ck f)) (c y o f)⟩)
  |(refine ks_wpAny_super_set3 m ?_;intro h' e k;exact⟨rfl,u h' e λy o f=>k y o (dM (ck f)) (c y o f)⟩)
def NK{l:jr}{tk:Tok}{Q:PySem.Fin->aj->Prop}
  (a:h.get? so=some (v8 D C)) (c:Looks (model a_ w) h (opaqueClassAbove (.ref C)) none) (e:Looks (model a_ w) h (mroOf (.ref C)) Qm) (f:(Qm.dropWhile (· !=.ref D)).drop 1=l) (X:K.In h)
  (i:alongIn K "__new__" l=some (some (.builtin "object.__new__"))) (j:Q (.done (.ret (.builtin "object.__new__"))) ⟨h,g,d,t,os⟩):
  wpAny (model a_ w) A (Builtin.«super.__getattribute__» ⟨[.ref so,.str "__new__" tk],[]⟩) Q E ⟨h,g,d,t,os⟩:=by
 have b:(v8 D C).data=.fields #[.ref D,.ref C,.ref C]:=rfl;have k:(#[.ref D,.ref C,.ref C]:bM ae)[0]?=some (.ref D):=rfl;have m:(#[.ref D,.ref C,.ref C]:bM ae)[1]?=some (.ref C):=rfl;have n:(#[.ref D,.ref C,.ref C]:bM ae)[2]?=some (.ref C):=rfl;unfold Builtin.«super.__getattribute__»
 repeat (first
  |(with_reducible refine ci a b k ?_)|(with_reducible refine ci a b m ?_)|(with_reducible refine ci a b n ?_)
  |(with_reducible refine ks_wpAny_notOpaque c ?_)
  |(with_reducible refine Looks.at e ?_;rw[f])
  |(refine ks_forIn_along X (λ_ _=>rfl) rfl ?_ i)
  |(with_reducible refine bC Qo ?_)
  |(with_reducible refine bC Qp ?_)
  |(with_reducible refine bC Fl ?_)
  |(with_reducible refine⟨_,rfl,?_⟩)
  |wp_step
  |dsimp only)
 all_goals exact j
def yw{l:jr}{i:Sem aY}{Q:ae×jr->aj->Prop}
  (c:h.get? so=some (v8 D C)) (j:Looks (model a_ w) h (opaqueClassAbove (.ref C)) none) (k:Looks (model a_ w) h (mroOf (.ref C)) Qm) (m:(Qm.dropWhile (· !=.ref D)).drop 1=l) (X:K.In h)
  (n:alongIn K "__new__" l=some (some (.builtin "object.__new__"))) (o:Q (.builtin "object.__new__",[]) ⟨h,g,d,t+1,os⟩):
  wpAny (model a_ w) A (getMethod (.ref so) "__new__" i) Q E ⟨h,g,d,t,os⟩:=by
 have e:=F.ks_slot_super_ga.lookup;have a:=F.ks_canon_super_ga;have b:∀t',(⟨h,g,d,t',os⟩:aj).TypeIs (.ref so) "super":=λ_=>⟨_,c,rfl⟩
 unfold getMethod;refine G (cA (b _) e ?_);show wpAny _ _ (if(Manifest.canonical "super.__getattribute__" !="object.__getattribute__")=true then _ else _) _ _ _;rw[aB a];unfold getAttr getAttrBy;refine G (G (iE (aF (G (cX (b _) (G (bC e ?_)))))));unfold getAttrByItsOwn hookBefore callGetattribute boundAndCalled;refine G (bC (show(if onTheHeap (.type "super")then typeLookup (.type "super") "__getattr__" else pure none)=pure none from rfl) ?_);refine G (eF (aF ?_));refine G (bC (F.ks_slot_super_ga.bind _) ?_);refine ai (Q:=λv f=>v=.builtin "object.__new__"/\f=⟨h,g,d,t+1,os⟩) (E:=λ_ _=>False)
  (bn F.ks_slot_super_ga (b _) F.ks_entry_super_ga (NK c j k m X n ⟨_,rfl,rfl,rfl⟩) (F.ks_gaArgs_super _ _)) (λv f p=>?_) λ_ _ z=>z.elim
 obtain⟨rfl,rfl⟩:=p;exact ac (ac o)
end
def xd:jy->az (iJ×iJ)
 |[.val (.ref D),.val (.ref C)]=>some (D,C)
 |_=>none
def Dj:jy->az iJ
 |[.val (.ref C)]=>some C
 |_=>none
def NL (Kf:Frag)(fE:rT)(c:nW)(y:Str)(yp:Pos)(qC:j5)(apos:Pos)(tO:j5)(pos:Pos)(Y:j9)(J:jW)(K:KV)(X:KX):Prop:=
 c.calm=true/\pq qC=true/\pq tO=true/\tO.length<30/\qC≠[]/\(apos.endLine==pos.line)=true/\
  fE c (.Name y yp) Y J (λg iT=>oj (λe J K=>fE c e Y J K X) qC iT λl jf=>Fb "super" g/\ky (xd l) λp=>tN Kf p.1 p.2=true/\
   oj (λe J K=>fE c e Y J K X) tO jf λl2 j1=>ky (Dj l2) λC2=>C2=p.2/\K (.ref (j1.length+1)) (j1++[.dict [],.inst p.2 j1.length])) X
def BX{vs:jr}{p:iJ×iJ}(h:xd l=some p)(a:jV V F vs l):vs=[.ref p.1,.ref p.2]:=by
 unfold xd at h;split at h
 .cases h;cases a with
  |cons b a=>
  cases a with
  |cons c a=>
  cases a;cases b;cases c;rfl
 .cases h
def K4{vs:jr}(h:Dj l=some C)(a:jV V F vs l):vs=[.ref C]:=by
 unfold Dj at h;split at h
 .cases h;cases a with
  |cons b a=>
  cases a;cases b;rfl
 .cases h
def Fm(na:z6 S.B)(I:kJ S.B Kf)(hE:l7 S d fE){u b:Pos}{j m:j5}(h:NL Kf fE c y yp j b m pos Y J K X):
  pD S d (eval (.Call (.Attribute (.Call (.Name y yp) j [] u) "__new__" b) m [] pos)) c Y J K X:=by
 have⟨hc,Q,x,hn,o8,hp,h⟩:=h;intro V F f fs R s A fa ff hv H;rw[gM];have zP:attributeBase (.Call (.Name y yp) j [] u) "__new__" f.env (eval (.Call (.Name y yp) j [] u) f.env)=eval (.Call (.Name y yp) j [] u) f.env:=by
  cases j with
  |nil=>exact absurd rfl o8
  |cons a r=>rfl
 rw[zP];refine G (BW hE Q (KL:=λg l jf=>Fb "super" g/\ky (xd l) λp=>tN Kf p.1 p.2=true/\oj (λe J K=>fE c e Y J K X) m jf λl2 L=>ky (Dj l2) λN=>N=p.2/\K (.ref (L.length+1)) (L++[.dict [],.inst p.2 L.length])) h fa ff hv H λjq jL iT jw v g vs l jQ T kG rs k=>?_);have⟨ty,k⟩:=k;have⟨⟨D,C⟩,el,k⟩:=jo k;have⟨n,k⟩:=k;cases Fc kG ty;cases BX el rs;refine⟨nu,?_⟩;unfold tN at n;simp only[aJ,aG]at n;have⟨⟨⟨⟨n1,n2⟩,n3⟩,n4⟩,z⟩:=n;have XK:=I.here T;have⟨cdD,eD⟩:=bH.mp n1;have i:∀{a:iJ}{cd:ClassData},clsIn Kf a=some cd->∃o,Kf.lookup a=some o/\o.data=.cls cd:=λ{a cd} e=>by
  unfold clsIn at e
  grind
 have⟨oD,U,W⟩:=i eD;cases O:clsIn Kf C with
 |none=>rw[O]at z;cases z
 |some Z=>
 rw[O]at z;simp only[aJ,bJ,aG]at z;have⟨oC,eC1,eC2⟩:=i O;have⟨hh,gg,dr,t,os⟩:=jw;refine Ah (XK _ _ U) W (XK _ _ eC1) eC2 (looks_mroIn XK n2) λh' GH up=>?_;refine G (bR ?_);unfold methodCall;have iP:∀(l:j5) (env:Env),(backTo pos (starEach l env)).all (!·.1)=true↔(backTo pos (starEach l env)).any (·.1)=false:=λl env=>by simp[aZ,dh]
 have Tt:methodCallForm (m.length+([]:List Keyword).length) (backTo pos (starEach m f.env)) (backToKw pos (keywordEach [] f.env))=true:=by unfold methodCallForm;rw[(iP m f.env).mpr (mx x)];show(true&&true&&decide (m.length+0+0<30))=true;simpa using hn
 rw[Tt];have jN:=T.keep (t:=t+1) up;have XF:=T.keep (t:=t) up;have E:=I.here jN;have hm:Looks (p_ S) h' (mroOf (.ref C)) Z.mro:=(looks_clsIn E O).andThen .now;refine G (aF ?_);apply yw GH (uD na XF) hm rfl E z.2;have Ho:methodCallPos true (.Call (.Name y yp) j [] u) f.env b pos=pure pos:=by unfold methodCallPos;rw[hp];rfl
 rw[Ho];refine G (ac ?_);refine mw (first:=[]) (ai (nj (X:=X) (λe J K q=>hE c e Y J K X q) k jq jL f fs R _ A fa ff hv jN) (λvs mr p=>?_) λ_ _ p=>p.grow jQ) (mx x);have⟨mq,nA,l2,L,lL,kK,rs2,kk⟩:=p;have⟨N,e2,k2⟩:=jo kk;obtain⟨rfl,k2⟩:=k2;cases K4 e2 rs2;refine⟨md,?_⟩;have qz:=makes_of (M:=model S.prog S.w) (I.here kK) n3;have Nd:∃P,findIn Kf (.ref N) "__init__"=some (some P):=by
  split at n4
  .rename_i P e;exact⟨P,e⟩
  .cases n4
 have⟨P,hiv⟩:=Nd;have hi:=c6 (M:=model S.prog S.w) (I.here kK) hiv;have⟨mt,nD,hx⟩:=kK.IW N;have⟨h3,g3,d3,t3,o3⟩:=mr;refine dQ (new_K qz hi (.inr ⟨rfl,rfl⟩) ?_);exact⟨_,nA,_,_,(jQ.trans lL).trans nD,mt,.ref hx,k2⟩
def xe:∀{vs:jr}{ss:jK},jV V F vs (ss.map .str)->StrsAre vs ss
 |_,[],.nil=>.nil
 |_,_::_,.cons (.str s t) r=>.cons s t (xe r)
def BY:∀{vs:jr}{ss:jK},StrsAre vs ss->jV V F vs (ss.map .str)
 |_,_,.nil=>.nil
 |_,_,.cons s t r=>.cons (.str s t) (BY r)
def Jb (l:jy)(J:jW)(K:KV):Prop:=ky (nF l) λss=>ss.length<64/\∀XG:jK,XG.Perm ss->sortedS XG=true->K (.lst (XG.map .str)) J
def Fo{v:ae}(H:j4 S V F J fs R s)(r:kQ V F v (.tup l))(h:Jb l J K):kY S A (call (.builtin "sorted") [v]) (nP S V F fs R K) E s:=by
 have⟨ss,e,w,k⟩:=jo h;rw[oB e]at r;cases r with
 |tup x y d1 i=>
 rename_i a o vs n;have d:=xe i;have j:vs.toList.length<64:=by rw[i.length,ah];exact w
 apply gu kind_sorted plain_sorted entry_sorted (args_sorted1 _);unfold Builtin.«sorted»;refine G (m:=checkCount "sorted" 1 1 _) (ac ?_);refine G (wpAny_collect_seq a (.inr rfl) (H.lw _ _ x) y d1 (λc p=>?_) (by rw[aQ]at j;rw[dz];omega));refine G (wpAny_newList ?_);have f:(c.push (seqObj "list" vs.toList.toArray 0)).get? c.objs.size=some (seqObj "list" vs.toList.toArray 0):=am _ rfl;refine G (aF (bn slot_list_sort ⟨_,f,rfl⟩ entry_list_sort (list_sort_treeK strKind_oneLt f d.keysOf (λz B iN e=>keyKind_strs (by rw[<-e];exact d)) j λu C D=>⟨_,rfl,?_⟩) (args_list_sort _)));have⟨I,q1,L,M⟩:=sorted_out_str d C D;refine ac ⟨_,rfl,?_⟩;have⟨U,N⟩:=sortedHeap_at (out:=(arrOf u).map (·.2)) f;have O:∀b o,s.heap.get? b=some o->(sortedHeap (c.push (seqObj "list" vs.toList.toArray 0)) c.objs.size vs.toList ((arrOf u).map (·.2))).get? b=some o:=λb o q=>by have g:=p b o q;rw[sortedHeap_old (dM (ck g)) (by rw[bY];exact gy (ck g))];exact ad _ g
 have P:s.heap.get? c.objs.size=none:=by
  cases q:s.heap.get? c.objs.size with
  |none=>rfl
  |some o=>exact absurd (ck (p _ _ q)) (eB _)
 have⟨Q,T⟩:=H.yi (t:=s.toks) O P N;exact⟨V,_,_,J,T,Q,.lst (jn.lf ..) rfl rfl (BY q1),k I L M⟩
def oM:Slot "set_iterator" "__next__" "set_iterator.__next__":=
 .of (owner:="set_iterator") (n:="__next__") (by rw[dK,cV];kernel_rfl) (by tm_at"d") (by tm_at"d") (by tm_at"d")
  (by first|exact .inl (by tm_at"d")|exact .inr (by tm_at"d")) (by rw[b5];kernel_rfl)
def v9:Slot "set_iterator" "__iter__" "set_iterator.__iter__":=
 .of (owner:="set_iterator") (n:="__iter__") (by rw[dK,cV];kernel_rfl) (by tm_at"d") (by tm_at"d") (by tm_at"d")
  (by first|exact .inl (by tm_at"d")|exact .inr (by tm_at"d")) (by rw[b5];kernel_rfl)
def Bj:entryFor table "set_iterator.__next__"=some Builtin.«set_iterator.__next__»:=fK (by kernel_rfl)
def Bk:entryFor table "set_iterator.__iter__"=some Builtin.«dict_keyiterator.__iter__»:=gi (id':="dict_keyiterator.__iter__") (by kernel_rfl) (by first|rfl|tm_at"d"|(unfold String.splitOn;simp+decide [String.splitOnAux])) (by tm_at"d") (by kernel_rfl)
def Ai:entryFor table "set.__iter__"=some Builtin.«frozenset.__iter__»:=gi (id':="frozenset.__iter__") (by kernel_rfl) (by first|rfl|tm_at"d"|(unfold String.splitOn;simp+decide [String.splitOnAux])) (by tm_at"d") (by kernel_rfl)
def Dk(a:ae):argsOk "set_iterator.__next__" ⟨[a],[]⟩:=by unfold argsOk;kernel_rfl
def Dl(a:ae):argsOk "set_iterator.__iter__" ⟨[a],[]⟩:=by unfold argsOk;kernel_rfl
abbrev oN(first:ae)(i:Int)(a:ae)(n ep:Nat):dq:={cls:=.type "set_iterator",dict:=none,data:=.fields #[first,.int i 0,a,.int n 0,.int ep 0],slots:=#[]}
def Jc{first:ae}(j:s.heap.get? I=some (oN first i (.ref a) es.size ep))
  (h:wpAny (model a_ w) A.in1 (Builtin.«set_iterator.__next__» ⟨[.ref I],[]⟩) (λd c=>∃v,d=.done (.ret v)/\Q (some v) c) (λe c=>∃x f,e=.ref x/\c.heap.get? x=some f/\f.cls=.type "StopIteration"/\Q none c) s):
  wpAny (model a_ w) A (pyNext (.ref I)) Q E s:=by
 have g:s.TypeIs (.ref I) "set_iterator":=⟨_,j,rfl⟩
 unfold pyNext;refine G (eF (b8 (name:=Str.ofString "__next__") g oM
  (bn oM g Bj (ai h (λd c p=>?_) λe c p=>?_) (Dk _))))
 .obtain⟨v,rfl,q⟩:=p;exact⟨v,rfl,ac q⟩
 .obtain⟨x,f,rfl,k,l,q⟩:=p;exact G (bN (T:="StopIteration") (b:=true) ⟨f,k,l⟩ ix (ac q))
def xW{Q:PySem.Fin->aj->Prop}(d:A.handled=none)(h:∀h' x c,(∀b o,s.heap.get? b=some o->h'.get? b=some o)->h'.get? x=some c->c.cls=.type "StopIteration"->E (.ref x) {s with heap:=h'}):
  wpAny (model a_ w) A (newExc (.type "StopIteration") []>>=λx=>(raiseNew x:Sem PySem.Fin)) Q E s:=by
 apply G;simp only[newExc,newTuple];refine G (br ?_ (by size_fits));refine G (m:=firstArgMember _ _) (bC (a:=Value.none) (by first|rfl|(simp only[firstArgMember];rfl)) ?_);refine br ?_ (by size_fits);simp only[raiseNew];refine G (gI ?_);rw[d];exact G (ac (gB (h _ _ _ (λb o e=>ad _ (ad _ e)) (am _ rfl) rfl)))
def Jd{r:az (ae×Nat)}(l:A.handled=none)(c:s.heap.get? I=some (oN (.int slot 0) i (.ref a) es.size ep))(m:s.heap.get? a=some o)(n:o.data=.set es ep t)(q:t.fits es.size=true)
  (u:∀(y:bO) (z:ae->aj->Prop) (h:az (ae×Nat)->aj->Prop),h r s->wpAny (model a_ w) y (setNext a slot i ep) h z s)
  (q1:∀x next,r=some (x,next)->∀h',h'.get? I=some (oN (.int next 0) (i+1:Nat) (.ref a) es.size ep)->Heap.SameBut I s.heap h'->Q (some x) {s with heap:=h'})
  (B:r=none->∀h',Heap.ExtBut I s.heap h'->Q none {s with heap:=h'}):wpAny (model a_ w) A (pyNext (.ref I)) Q E s:=by
 apply Jc c;have d:(oN (.int slot 0) i (.ref a) es.size ep).data=.fields #[.int slot 0,.int i 0,.ref a,.int es.size 0,.int ep 0]:=rfl;show wpAny _ _ (fieldsOf (.ref I)>>=_) _ _ s;refine G (wpAny_fieldsOf c d ?_);unfold setEntries;refine G (G (aP m n q (ac ?_)));rw[aA (by simp)];refine G (u _ _ _ ?_);cases r with
 |some p=>obtain⟨x,next⟩:=p;refine G (b6 c (by simp) λC j f=>?_);refine G (b6 j (by simp) λD g F=>?_);refine ac ⟨x,rfl,q1 x next rfl D ?_ (f.trans F)⟩;simpa [rawInt]using g
 |none=>refine G (b6 c (by simp) λC j f=>?_);refine xW l λh' x H k g J=>⟨x,H,rfl,g,J,B rfl h' λb o K e=>k _ _ (f.extBut b o K e)⟩
def Fp{T:iJ}{l:dq}{c:bM ae}{nT:Nat}(z:A.handled=none)(d:s.heap.get? I=some (oN (.ref T) i (.ref a) es.size ep))(m:s.heap.get? a=some o)(n:o.data=.set es ep t)(q:t.fits es.size=true)
  (B:s.heap.get? T=some l) (C:l.data=.seq c nT)
  (q1:∀(p:Nat) (e:Int×ae),c[i]?=some (.int p 0)->es[p]?=some e->∀h',h'.get? I=some (oN (.ref T) (i+1:Nat) (.ref a) es.size ep)->Heap.SameBut I s.heap h'->Q (some e.2) {s with heap:=h'})
  (D:∀v,c[i]?=some v->∃(p:Nat) (e:Int×ae),v=.int p 0/\es[p]?=some e)
  (F:c[i]?=none->∀h',Heap.ExtBut I s.heap h'->Q none {s with heap:=h'}):wpAny (model a_ w) A (pyNext (.ref I)) Q E s:=by
 apply Jc d;have f:(oN (.ref T) i (.ref a) es.size ep).data=.fields #[.ref T,.int i 0,.ref a,.int es.size 0,.int ep 0]:=rfl;show wpAny _ _ (fieldsOf (.ref I)>>=_) _ _ s;refine G (wpAny_fieldsOf d f ?_);unfold setEntries;refine G (G (aP m n q (ac ?_)));rw[aA (by simp)];refine G (cB B C ?_);dsimp only;rw[dm];cases g:c[i]? with
 |none=>dsimp only;refine G (b6 d (by simp) λr h j=>?_);refine G (b6 h (by simp) λM N H=>?_);refine xW z λh' x J k K L=>⟨x,J,rfl,K,L,F g h' λb o u e=>k _ _ (H.extBut b o u (j.extBut b o u e))⟩
 |some v=>obtain⟨p,e,rfl,y⟩:=D v g;dsimp only;rw[dm,dm];apply G;unfold setNextDrawn;refine G (aP m n q ?_);dsimp only;rw[aA (by simp),y];apply ac;refine G (b6 d (by simp) λr h j=>?_);refine ac ⟨_,rfl,q1 p e g y r ?_ j⟩;simpa [rawInt]using h
def Qq{Q:nz}(b:s.heap.get? I=some o)(c:o.cls=.type "set_iterator")(h:Q (.ref I) s):wpAny (model a_ w) A (pyIter (.ref I)) Q E s:=by
 have a:s.TypeIs (.ref I) "set_iterator":=⟨_,b,c⟩
 refine wpAny_pyIter_slot a v9 (bn v9 a Bk ?_ (Dl _));exact ac ⟨_,rfl,"set_iterator",_,a,oM.lookup,h⟩
def BZ{vs b:jr}(p:vs.Perm b):∀{els:kr},jV V F vs (els.map p7)->∃a:kr,a.Perm els/\jV V F b (a.map p7):=by
 induction p with
 |nil=>intro els r;exact⟨els,.refl _,r⟩
 |cons v p c=>
  intro els r;cases els with
  |nil=>cases r
  |cons e els=>
   rw[bg]at r;cases r with
   |cons h t=>have⟨a,q,d⟩:=c t;exact⟨e::a,q.cons e,.cons h d⟩
 |swap v w l=>
  intro els r;cases els with
  |nil=>cases r
  |cons e els=>
   rw[bg]at r;cases r with
   |cons h t=>
    cases els with
    |nil=>cases t
    |cons f els=>
     rw[bg]at t;cases t with
     |cons h' t=>exact⟨f::e::els,.swap ..,.cons h' (.cons h t)⟩
 |trans p q g i=>intro els r;have⟨o,q1,j⟩:=g r;have⟨k,m,n⟩:=i j;exact⟨k,m.trans q1,n⟩
def Holds.v_(H:j4 S V F J fs R s)(b:V[k]?=some a)(c:J[k]?=some (.mP els o)):s.heap.get? a=some o:=by have⟨vs,l',h,_⟩:=H.cells k a _ b c;exact h
def tQ{ord:List (Int×ae)}{c:Nat->Nat}(w:o.data=.set es ep t)(y:t.fits es.size=true)(z:V[k]?=some a)
  (B:∀(i:Nat) (s:aj),s.heap.get? a=some o->∀(O:bO) (P:ae->aj->Prop) (K:az (ae×Nat)->aj->Prop),K ((ord[i]?).map λe=>(e.2,c (i+1))) s->kY S O (setNext a (c i) i ep) K P s):
  ∀(l:jy) (i:Nat) (f:jj) (h:jn),j8 V f F h->jV f h ((ord.drop i).map (·.2)) l->mj S 0 (λJ=>J[k]?=some (.mP els o)) (.ref I) l f h [(I,oN (.int (c i) 0) i (.ref a) es.size ep)]
 |[],i,f,h,m,r=>by
  intro n p J fs R s A g fa C H;have D:=H.res _ (.head _);have j:=H.v_ ((m.trans g).th z) C;have d:ord[i]?=none:=by
   have L:=r.length
   grind
  refine Jd (fa.calm rfl) D j w y (B i s j) (λx next e=>?_) λ_ h' e=>⟨rfl,n,p,.refl _ _,H.GO (t:=s.toks) λb x E Q=>e b x E Q⟩
  rw[d]at e;cases e
 |av::l,i,f,h,m,r=>by
  intro n p J fs R s A g fa C H;have D:=H.res _ (.head _);have j:=H.v_ ((m.trans g).th z) C;cases d:ord[i]? with
  |none=>have L:=r.length;have:=dI.mp d;rw[ah,eV,aI]at L;omega
  |some M=>
   have T:ord.drop i=M::ord.drop (i+1):=by have⟨U,W⟩:=aC.mp d;rw[gx U,W]
   rw[T,bg]at r;cases r with
   |cons X Y=>
    refine Jd (fa.calm rfl) D j w y (B i s j) (λx next e h' G Z=>?_) λe=>?_
    .rw[d]at e;cases e;have H':=H.uL (t:=s.toks) (λb x E e=>Z.extBut b x E e) G;refine⟨M.2,n,p,[(I,oN (.int (c (i+1)) 0) (i+1:Nat) (.ref a) es.size ep)],rfl,.refl _ _,X.mono g,H',λmq nA j1 XJ aau mr aav aaw aax u lL N q=>nX rfl (N.res (I,oN (.int (c (i+1)) 0) (i+1:Nat) (.ref a) es.size ep) (.head _)) "set_iterator" rfl (by tm_at"d") (q _ N),?_⟩;exact tQ w y z B l (i+1) n p (m.trans g) (Y.mono g)
    .rw[d]at e;cases e
def sM{T:iJ}{P:dq}{c:bM ae}{nT:Nat}(z:o.data=.set es ep t)(B:t.fits es.size=true)(C:V[k]?=some a)(D:F T=some P)(E:P.data=.seq c nT)
  (G:∀(i:Nat) v,c[i]?=some v->∃(p:Nat) (e:Int×ae),v=.int p 0/\es[p]?=some e):
  ∀(l:jy) (i:Nat) (f:jj) (h:jn),j8 V f F h->(c.toList.drop i).length=l.length->(∀(j p:Nat) (e:Int×ae),c[i+j]?=some (.int p 0)->es[p]?=some e->∃av,l[j]?=some av/\kQ f h e.2 av)->mj S 0 (λJ=>J[k]?=some (.mP els o)) (.ref I) l f h [(I,oN (.ref T) i (.ref a) es.size ep)]
 |[],i,f,h,d,U,r=>by
  intro u w J fs R s A g fa K H;have L:=H.res _ (.head _);have M:=H.v_ ((d.trans g).th C) K;have W:c[i]?=none:=by grind
  refine Fp (fa.calm rfl) L M z B (H.lw _ _ ((d.trans g).fr D)) E (λp e m=>?_) (G i) λ_ h' e=>⟨rfl,u,w,.refl _ _,H.GO (t:=s.toks) λb x N X=>e b x N X⟩
  rw[W]at m;cases m
 |av::l,i,f,h,d,U,r=>by
  intro u w J fs R s A g fa K H;have L:=H.res _ (.head _);have M:=H.v_ ((d.trans g).th C) K;refine Fp (fa.calm rfl) L M z B (H.lw _ _ ((d.trans g).fr D)) E (λp e m Y h' O Z=>?_) (G i) λm=>?_
  .have⟨n,GR,rv⟩:=r 0 p e m Y;cases GR;have H':=H.uL (t:=s.toks) (λb x N e=>Z.extBut b x N e) O;refine⟨e.2,u,w,[(I,oN (.ref T) (i+1:Nat) (.ref a) es.size ep)],rfl,.refl _ _,rv.mono g,H',λmq nA j1 XJ aau mr aav aaw aax y lL Q q=>nX rfl (Q.res (I,oN (.ref T) (i+1:Nat) (.ref a) es.size ep) (.head _)) "set_iterator" rfl (by tm_at"d") (q _ Q),?_⟩;refine sM z B C D E G l (i+1) u w (d.trans g) ?_ λj p e q1 q2=>?_
   .grind
   .have⟨n,q3,q4⟩:=r (j+1) p e (by rw[show i+(j+1)=i+1+j by omega];exact q1) q2;exact⟨n,q3,q4.mono g⟩
  .grind
def Dn(b:w.params.followText "set-order"=true)(c:s.heap.get? a=some o)(d:o.data=.set es ep t)(f:t.fits es.size=true){Q:az (ae×Nat)->aj->Prop}
  (q:Q (((pickOrder (w.params.setOrder a ep) es).toList[i]?).map λe=>(e.2,0)) s):wpAny (model a_ w) A (setNext a 0 i ep) Q E s:=by
 unfold setNext setWalk setsByText;refine G (aP c d f ?_);refine G (G (bU (ac ?_)));show wpAny _ _ (if w.params.followText "set-order"=true then _ else _) _ _ _;rw[aB b,aA (by simp)];apply G;refine G (aP c d f ?_);refine G (G (bU (ac ?_)));show wpAny _ _ (if w.params.followText "set-order"=true then _ else _) _ _ _;rw[aB b];refine G (bU (ac ?_));apply ac;rw[<-ax];exact q
def Bl(b:w.params.followText "set-order"=false)(c:s.heap.get? a=some o)(d:o.data=.set es ep t)(e:t.fits es.size=true)(g:es.size<=1)(f:t.led=true){Q:az (ae×Nat)->aj->Prop}
  (q:Q (match es[SetTable.below t.place slot]?,t.place[SetTable.below t.place slot]? with|some (_,x),some j=>some (x,j+1)|_,_=>none) s):wpAny (model a_ w) A (setNext a slot i ep) Q E s:=by
 unfold setNext setsByText;refine G (aP c d e ?_);refine G (G (bU (ac ?_)));show wpAny _ _ (if w.params.followText "set-order"=true then _ else _) _ _ _;rw[aA (by rw[b];decide)];show wpAny _ _ (if(!t.plain&&decide (es.size>1))=true then _ else _) _ _ _;rw[aA (by simp;omega)];show wpAny _ _ ((if(!t.led&&!es.isEmpty)=true then unsupported "set:maker-not-led" else pure ())>>=_) _ _ _;rw[aA (by simp[f])];exact G (ac (ac q))
def Fq(b:s.heap.get? a=some o)(c:o.data=.set es ep t)(d:t.fits es.size=true){Q:aY->aj->Prop}(q:Q (!w.params.followText "set-order"&&(!t.plain&&decide (es.size>1))) s):wpAny (model a_ w) A (setDrawn a) Q E s:=by unfold setDrawn setsByText;refine G (aP b c d ?_);refine G (G (bU (ac ?_)));exact ac q
def NM (k:Nat)(els:kr)(o:dq)(J:jW)(K:jy->(jW->Prop)->jW->Prop):Prop:=∀l':kr,l'.Perm els->K (l'.map p7) (λg_=>g_[k]?=some (.mP els o)) J
def Fr(ok:ml S){v:ae}{K:jy->(jW->Prop)->jW->Prop}(H:j4 S V F J fs R s)(r:kQ V F v (.ref k))(M:J[k]?=some (.mP els o))(h:NM k els o J K):
  kY S A (pyIter v) (wQ S d V F fs R K) E s:=by
 cases r with
 |ref N=>
 rename_i a;have⟨vs,l',f,Ex,hp,O⟩:=H.cells k a _ N M;unfold ml at ok;rw[ok]at Ex;have⟨hex,es,ep,t,l,P,hh,u,XL,sK,PL,NN,J9⟩:=Ex;subst P;have hT:s.TypeIs (.ref a) "set":=⟨o,f,hex.1⟩
 have T:qd S.prog S.w s.heap es t l':=⟨u,XL,sK,G6 (λa o e=>H.lw a o e) hh O,PL,NN,J9⟩
 have m:=T.fits;refine wpAny_pyIter_slot hT PySem.F.slot_set_iter (bn PySem.F.slot_set_iter hT Ai ?_ (PySem.F.args_set_iter_1 _));show wpAny _ _ (do
  let n <-Frozenset.sizeOf a
  let first <-if <-setDrawn a then newTuple ((<-drawOrder n (List.range n)).map λ(i:Nat)=>rawInt i)else pure (rawInt 0)
  ret (<-newFields "set_iterator" [first,rawInt 0,.ref a,rawInt n,rawInt (<-setEpoch a)])) _ _ s
 unfold Frozenset.sizeOf setEntries;refine G (G (G (aP f l m (ac (ac ?_)))));refine G (Fq f l m ?_);have self:∀{mG:jj}{mQ:jn}{first:ae}{n:Nat}{I:iJ}{els:kr}{o:dq}{k:Nat},∀(jF:jj) (F':jn) (J:jW) (fs:jS) (R:mO) (s:aj) (A:bO) (Q:nz) (E:nz),j8 mG jF mQ F'->J[k]?=some (.mP els o)->j4 S jF F' J fs ([(I,oN first 0 (.ref a) n ep)]++R) s->Q (.ref I) s->kY S A (pyIter (.ref I)) Q E s:=λjF F' J fs R s A Q E g hc H q=>Qq (H.res _ (.head _)) rfl q
 have XM:∀(ord:List (Int×ae)) (c:Nat->Nat),c 0=0->ord.Perm es.toList->
   (∀(i:Nat) (s:aj),s.heap.get? a=some o->∀(U:bO) (W:ae->aj->Prop) (D:az (ae×Nat)->aj->Prop),D ((ord[i]?).map λe=>(e.2,c (i+1))) s->kY S U (setNext a (c i) i ep) D W s)->
   kY S A.in1 (pure (rawInt 0)>>=λfirst=>do ret (<-newFields "set_iterator" [first,rawInt 0,.ref a,rawInt es.size,rawInt (<-setEpoch a)])) (λr s'=>∃v,r=.done (.ret v)/\∃T' r',s'.TypeIs v T'/\typeLookup (.type T') "__next__"=pure (some r')/\wQ S d V F fs R K v s') E s:=by
  intro ord c h0 Eg zF;refine G (ac ?_);unfold setEpoch;refine G (G (aP f l m (ac ?_)));refine G (br (ac ⟨_,rfl,"set_iterator",_,⟨_,am _ rfl,rfl⟩,oM.lookup,?_⟩));have X:=am s.heap (o:=oN (.int 0 0) 0 (.ref a) es.size ep) rfl;have H':=H.oU (t:=s.toks) (λb o e=>ad _ e) (aq (ao _)) X;have⟨l2,Y,L⟩:=BZ (Eg.symm.map (·.2)) O;refine⟨V,F,[(s.heap.objs.size,oN (.int 0 0) 0 (.ref a) es.size ep)],J,l2.map p7,_,.refl _ _,H',M,⟨self,mj.up ?_⟩,h l2 (Y.trans hp)⟩;have:=tQ (S:=S) (V:=V) (F:=F) (I:=s.heap.objs.size) (k:=k) (els:=els) l m N zF (l2.map p7) 0 V F (.refl _ _) (by simpa using L);rw[h0]at this;exact this
 cases Z:S.w.params.followText "set-order" with
 |true=>rw[aA (by simp)];refine XM _ (λ_=>0) rfl (tz (S.w.params.setOrder a ep) es) λi s f U W D q=>Dn Z f l m q
 |false=>
  have XN:t.led=true:=by rw[J9];unfold zr;rw[Z];rfl
  by_cases uA:es.size<=1
  .rw[aA (by simp;omega)];have YS:=u.size;refine XM es.toList (λi=>if i=0 then 0 else t.place.getD 0 0+1) rfl (.refl _) λi s f U W D q=>Bl Z f l m uA XN ?_;have⟨b1,b2,b3⟩:=uU t.place (if i=0 then 0 else t.place.getD 0 0+1) u.inc;generalize hb:SetTable.below t.place (if i=0 then 0 else t.place.getD 0 0+1)=b at *;by_cases x:es.size=1
   .have YE:t.place.size=1:=by omega
    by_cases hi:i=0
    .subst hi;simp only[dR]at b2 b3 q;have Xs:b=0:=by
      rcases Nat.lt_or_ge 0 b with wK|hle
      .have:=b2 0 wK;omega
      .omega
     subst Xs;rw[ax]at q;have e1:es[0]?=some es[0]:=cO (by omega);have e2:t.place[0]?=some t.place[0]:=cO (by omega);rw[e1]at q;rw[e1,e2];have e3:t.place.getD 0 0=t.place[0]:=by rw[cG,e2];rfl
     simp only[fR,fj,aA (Nat.one_ne_zero),e3]at q;exact q
    .grind
   .grind
  .have wS:=NN λz=>by have:=T.len;rw[z,bL]at this;omega
   rw[aB (by simp[wS];omega)];apply G;refine r_ es.size (List.range es.size) s (by simp) λys dr Wv=>?_;refine G (wpAny_newTuple ?_ (by rw[ah,Wv.length_eq,gD];exact T.small));unfold setEpoch;have hoT:=am s.heap (o:={cls:=.type "tuple",data:=.seq (ys.map λ(i:Nat)=>rawInt i).toArray}) rfl;refine G (G (aP (ad _ f) l m (ac ?_)));refine G (br (ac ⟨_,rfl,"set_iterator",_,⟨_,am _ rfl,rfl⟩,oM.lookup,?_⟩));have H0:j4 S V F J fs R {s with drawn:=dr}:=H.drawn;have⟨H1,g1⟩:=H0.yi (t:=s.toks) (a:=s.heap.objs.size) (h':=s.heap.push _) (λb o e=>ad _ e) (aq (ao _)) hoT;have X:=am (s.heap.push {cls:=.type "tuple",data:=.seq (ys.map λ(i:Nat)=>rawInt i).toArray}) (o:=oN (.ref s.heap.objs.size) 0 (.ref a) es.size ep) rfl;have H2:=H1.oU (t:=s.toks) (h':=(s.heap.push {cls:=.type "tuple",data:=.seq (ys.map λ(i:Nat)=>rawInt i).toArray}).push (oN (.ref s.heap.objs.size) 0 (.ref a) es.size ep)) (λb o e=>ad _ e) (aq (ao _)) X;have te:∀y∈ys,y<es.size:=λy B=>by simpa using Wv.mem_iff.mp B
   have aay:(ys.map λy=>es.getD y (0,.none)).Perm es.toList:=by
    have x:=Wv.map λy=>es.getD y (0,.none);have C:(List.range es.size).map (λy=>es.getD y (0,.none))=es.toList:=by
     apply gT
     .simp
     .intro i x C;have h3:i<es.size:=by simpa using C
      simp[h3]
    rw[C]at x;exact x
   have⟨l2,Y,L⟩:=BZ (aay.symm.map (·.2)) O;refine⟨V,_,[((s.heap.push {cls:=.type "tuple",data:=.seq (ys.map λ(i:Nat)=>rawInt i).toArray}).objs.size,oN (.ref s.heap.objs.size) 0 (.ref a) es.size ep)],J,l2.map p7,_,g1,H2,M,⟨self,mj.up ?_⟩,h l2 (Y.trans hp)⟩;refine sM (k:=k) (els:=els) (nT:=0) l m N (jn.lf ..) rfl (λi v hv=>?_) _ 0 V _ (.refl _ _) ?_ λj p e q1 q2=>?_
   .rw[<-ax]at hv;simp only[bP,ay]at hv;obtain⟨y,B,rfl⟩:=hv;have wK:=te y (bv B);exact⟨y,es[y],rfl,cO wK⟩
   .have x:=L.length
    grind
   .rw[<-ax]at q1;simp only[bP,ay,fj]at q1;have⟨y,B,he⟩:=q1;have hyp:y=p:=by
     have:(y:Int)=(p:Int):=by injection he
     omega
    subst hyp;have⟨av,x,C⟩:=jV.get' (i:=j) (v:=e.2) L (by
     rw[bP,bP,B];have:es.getD y (0,.none)=e:=by rw[cG,q2];rfl
     simp only[fR,this])
    exact⟨av,x,C.mono g1⟩
end
section
open PySem PySem.W PySem.Calls PyProof.Rows PySem.SeqAt PySem.Builtin PySem.Builtin.Str
open Sem (wp)
variable {E:nz}{A:bO}{s:aj}{fE:rT}
section
variable {a_:c5}{w:cy}
def NO (a_:c5)(w:cy)(A:bO)(s:aj)(v:ae):Prop:=∃T:PySem.Str,T.length<=1000/\∀(E:nz) (Q:nz),
 (∀h' u tk,(∀b o,s.heap.get? b=some o->h'.get? b=some o)->Q (.str T u) {s with heap:=h',toks:=tk})->wpAny (model a_ w) A (pyReprObj v) Q E s
def K5{x:PySem.Str}{t:Tok}(h:(reprText x).length<=1000):NO a_ w A s (.str x t):=⟨reprText x,h,λE Q q=>wpAny_pyReprObj_str (q _ _ _ λ_ _ e=>e) (by rw[dz];omega)⟩
def HT{a:iJ}{o:dq}{vs:bM ae}{n:Nat}{ss:List PySem.Str}(p:s.heap.get? a=some o)(B:o.cls=.type "list")(C:o.data=.seq vs n)(f:StrsAre vs.toList ss)(D:ss≠[])(F:(listText (ss.map reprText)).length<=1000)
  (G:A.guards=some []) (J:A.units+5<cLine):NO a_ w A s (.ref a):=by
 refine⟨listText (ss.map reprText),F,λE Q q=>?_⟩;obtain⟨x,l,c⟩:∃x l,vs=(x::l).toArray:=by
  cases ss with
  |nil=>exact absurd rfl D
  |cons z r=>
   cases j:vs.toList with
   |nil=>rw[j]at f;cases f
   |cons x l=>exact⟨x,l,by rw[<-j]⟩
 have H:vs.size=ss.length:=by
  have:∀{vs:jr}{ss:List PySem.Str},StrsAre vs ss->vs.length=ss.length:=by
   intro vs ss h;induction h with
   |nil=>rfl
   |cons y t h g=>rw[aI,aI,g]
  rw[<-this f,aQ]
 refine wpAny_pyReprObj_listK (as:=[]) (h₀:=s.heap) (d:=0) (oa:=o) (na:=n) (x:=x) (l:=l) p B (C.trans (by rw[c])) (λh=>by cases h) (by rw[<-c,H,ah]) (λi y k=>?_) G (λb K=>?_) (by omega) (λ_ _ e=>e) (λh' u tk I=>q h' u tk I) (by rw[dz];omega)
 .rw[<-c,<-ax]at k;have:∀{vs:jr}{ss:List PySem.Str},StrsAre vs ss->∀(i:Nat) (y:ae),vs[i]?=some y->∃z t,ss[i]?=some z/\y=.str z t:=by
   intro vs ss h;induction h with
   |nil=>intro i y e;cases e
   |cons z t h g=>
    intro i y e;cases i with
    |zero=>cases e;exact⟨z,t,rfl,rfl⟩
    |succ i=>exact g i y e
  obtain⟨z,t,m,rfl⟩:=this f i y k;refine⟨reprText z,by rw[bP,m];rfl,.of_is (ReprIs.str z t ?_) _ _ _⟩;have L:=(textFrom_len (ss.map reprText) 0 "[").2.1 (reprText z) (bz (bv m));have M:(textFrom 0 "[" (ss.map reprText)).length<=(listText (ss.map reprText)).length:=by unfold listText;rw[ed];omega
  rw[dz];omega
 .exact Clear.nil b
end
def Do:AV->Prop
 |.str y=>(reprText y).length<=1000
 |.lst l=>ky (nF l) λss=>ss≠[]/\(listText (ss.map reprText)).length<=1000
 |_=>False
def Dp (fE:rT)(c:nW)(e:Expr)(Y:j9)(J:jW)(K:jW->Prop)(X:KX):Prop:=match e with
 |.Constant (.str z) _ _=>z.length<=1000/\K J
 |.FormattedValue (.Name x xp) 114 Option.none _=>fE c (.Name x xp) Y J (λa g_=>Do a/\K g_) X
 |_=>False
def Dq (fE:rT)(c:nW)(l:j5)(Y:j9)(J:jW)(K:KV)(X:KX):Prop:=match l with
 |[e1,e2]=>c.calm=true/\Dp fE c e1 Y J (λiT=>Dp fE c e2 Y iT (λjf=>∀y,K (.str y) jf) X) X
 |_=>False
def RQ:Operator->AV->AV->jW->KV->KX->Prop:=λ_ _ _ _ _ _=>False
section
variable {S:Sys}{P:tD}{d:Nat}{V jF:jj}{F F':jn}{J:jW}{f:ma}{fs:jS}{R:mO}{c:nW}{Y:j9}{K:KV}{X:KX}{Kf:Frag}{fn:sY}
def NP{v:ae}{x:AV}(fa:kj d true fs A)(H:j4 S V F J fs R s)(r:kQ V F v x)(h:Do x):NO S.prog S.w A s v:=by
 cases r with
 |str z t=>exact K5 h
 |lst e c d r=>have⟨ss,a,b,f⟩:=jo h;rw[oB a]at r;exact HT (H.lw _ _ e) c d (xe r) b f fa.guards (by have:=fa.units;show A.units+5<9900;omega)
 |_=>exact h.elim
def Qr:∀op a b J K X,RQ op a b J K X->∀(V:jj) (F:jn) (fs:jS) (R:mO) (s:aj) (A:bO) (c e:ae),kj (d+1) true fs A->j4 S V F J fs R s->kQ V F c a->kQ V F e b->
  kY S A (binaryOp op c e) (nP S V F fs R K) (oW S V F fs R X) s:=λ_ _ _ _ _ _ h=>h.elim
def xX(i:l7 S d fE){e:Expr}{KS:jW->Prop}(j:c.calm=true)(h:Dp fE c e Y J KS X)(fa:kj d c.calm (f::fs) A)(l:nC c f)(m:f.vars=Y)(H:j4 S V F J (f::fs) R s):
  kY S A (eval e f.env) (λv n=>∃y t jF F' b,v=.str y t/\y.length<=1000/\j8 V jF F F'/\j4 S jF F' b (f::fs) R n/\KS b) (oW S V F (f::fs) R X) s:=by
 unfold Dp at h;split at h
 .rename_i z u p;exact λ_ _ _=>⟨_,_,V,F,J,rfl,h.1,.refl _ _,H.keep λ_ _ e=>e,h.2⟩
 .rename_i x I p;apply wpAny_FormattedValue_repr;refine ai (i c _ Y J _ X h V F f fs R s A fa l m H) (λv K q=>?_) λ_ _ e=>e;have⟨o,r,a,w,B,g,C,sh,k⟩:=q;rw[j]at fa;have⟨T,D,run⟩:=NP fa g C sh;refine run _ _ λh' u tk E=>?_;exact formatField_str (λt' G=>⟨_,_,o,r,w,rfl,D,B,g.keep E,k⟩) (by rw[dz];omega)
 .exact h.elim
def Dr(a:l7 S d fE){l:j5}{pos:Pos}(h:Dq fE c l Y J K X):pD S d (eval (.JoinedStr l pos)) c Y J K X:=by
 intro V F f fs R s A fa b i H;unfold Dq at h;split at h
 .rename_i B C;have⟨j,h⟩:=h;apply JoinedStr_many (rest:=[]);refine joinParts_cons (ai (xX a j h fa b i H) (λv D q=>?_) λ_ _ e=>e);obtain⟨y1,E,G,I,L,rfl,M,m,o,h⟩:=q;refine⟨by rw[ed,dz];show 0+_<=_;omega,?_⟩;refine joinParts_cons (ai (xX a j h fa b i o) (λv e_ q=>?_) λx N e=>?_)
  .obtain⟨y2,O,p,r,t,rfl,P,u,w,k⟩:=q;have n:((Str.empty++y1)++y2).length<=sizeLine:=by rw[ed,ed,dz];show 0+_+_<=_;omega
   refine⟨n,?_⟩;exact joinParts_nil ⟨p,r,.str _,t,m.trans u,w.keep λ_ _ e=>e,.str _ _,k _⟩ n
  .have⟨jF,F',y,z,g,fl,k⟩:=e;exact⟨jF,F',y,z,m.trans g,fl,k⟩
 .exact h.elim
end
end
section
open PySem PySem.W PySem.Builtin PySem.Builtin.ObjectAttr
def Je:Slot "method_descriptor" "__get__" "method_descriptor.__get__":=
 .of (owner:="method_descriptor") (n:="__get__") (by rw[dK,cV];kernel_rfl) (by tm_at"d") (by tm_at"d") (by tm_at"d")
  (by first|exact .inl (by tm_at"d")|exact .inr (by tm_at"d")) (by rw[b5];kernel_rfl)
def NQ:entryFor table "method_descriptor.__get__"=some Builtin.«method_descriptor.__get__»:=fK (by kernel_rfl)
def Qs(a b c:ae):argsOk "method_descriptor.__get__" ⟨[a,b,c],[]⟩:=by unfold argsOk;kernel_rfl
def K6:entryFor table "set.__getattribute__"=some Builtin.«object.__getattribute__»:=gi (id':="object.__getattribute__") (by kernel_rfl) rfl (by tm_at"d") (by kernel_rfl)
def NR:typeLookup (.type "method_descriptor") "__set__"=pure none:=by rw[dK,cV];kernel_rfl
def NS:typeLookup (.type "method_descriptor") "__delete__"=pure none:=by rw[dK,cV];kernel_rfl
def NT:Manifest.toldItsClass.contains "set.add"=false:=by tm_at"d"
section
variable {a_:c5}{w:cy}{A:bO}{E:nz}{s:aj}{a:iJ}{o:dq}
def rc{v:ae}{T:ae}{name:Str}{r:az ae}{M:fL}{Q:az ae->aj->Prop}(a:typeOf v=pure T)(b:typeLookup T name=pure r)(q:Q r s):wpAny M A (specialOf v name) Q E s:=by unfold specialOf;refine G (bC a ?_);exact bC b q
def Ft{b:aY}(d:s.heap.get? a=some o)(f:o.cls=.type "set")(g:o.dict=none){es:bM (Int×ae)}{h:Nat}{t:bZ}(e:o.data=.set es h t){Q:nz}
  (q:Q (.ref s.heap.objs.size) {s with heap:=s.heap.push {cls:=.type "builtin_function_or_method",data:=.fields #[.builtin "set.add",.ref a]},toks:=s.toks+1}):wpAny (model a_ w) A (getAttr (.ref a) "add" b) Q E s:=by
 have c:s.TypeIs (.ref a) "set":=⟨o,d,f⟩
 unfold getAttr getAttrBy;refine G (iE (aF (G (cX (s:={s with toks:=s.toks+1}) c ?_))));refine G (bC eq.lookup ?_)
 try dsimp only
 rw[aA (by simp[onTheHeap])];unfold getAttrByItsOwn;refine G (bC (a:=none) rfl ?_);refine G (eF (aF ?_));unfold callGetattribute;rw[aA (by simp[onTheHeap])];unfold boundAndCalled;refine G (bC (eq.bind _) ?_);refine bn (s:={s with toks:=s.toks+1}) eq c K6 ?_ (PySem.F.args_set_getattribute_2 _ _);unfold Builtin.«object.__getattribute__» slotArgs;simp only[cC];refine G (G (ac (G (ac (ac ?_)))))
 try dsimp only
 unfold attrName;refine G (ac ?_);refine G (cX (s:={s with toks:=s.toks+1}) c ?_);unfold find;refine G (G (bC eP.lookup ?_));unfold getOf;refine G (rc dN Je.lookup ?_);unfold dataDescriptor? takesStores
 try dsimp only
 refine G (G (G (rc dN NR ?_)));simp only[gd,au,bD];refine G (rc dN NS (ac ?_));simp only[gd,au,bD];apply ac
 try dsimp only
 unfold ownThenClass inOwnDict ObjectAttr.ownDict loadHead;refine G (G (G (eQ d ?_)));rw[e]
 try dsimp only
 unfold instanceDict;refine G (eQ d ?_);rw[f]
 try dsimp only
 rw[g]
 try dsimp only
 simp only[Bool.not_false,Bool.true_or,dR];apply ac;unfold inDict;apply ac
 try dsimp only
 unfold copiedAttributeGuard
 try dsimp only
 rw[aA (by tm_at"d")];refine G (ac ?_);unfold byTheClass;refine G (b9 (ac ?_))
 try dsimp only
 unfold bindTo
 try dsimp only
 refine G (aF ?_);refine bn (s:={s with toks:=s.toks+1}) Je dN NQ ?_ (Qs _ _ _);unfold Builtin.«method_descriptor.__get__»;refine G (bC (a:=(Value.builtin "set.add",some (Value.ref a),some (Value.type "set"))) (by kernel_rfl) ?_)
 try dsimp only
 rw[NT];simp only[au,bD];apply G;refine G (bC (a:=(Str.ofString "add",Value.type "set")) (by kernel_rfl) ?_)
 try dsimp only
 refine G (bN (s:={s with toks:=s.toks+1}) c eT ?_);simp only[dy,au,bD];apply ac;unfold newFields;refine G (br ?_ (by size_fits));refine ac ⟨_,rfl,?_⟩;refine ac ⟨_,rfl,?_⟩
 try dsimp only
 rw[iD rfl];exact ac q
end
end
section
open PySem PySem.W PySem.Calls PyProof.Rows PySem.SeqAt PySem.Builtin
open Sem (wp)
variable {E:nz}{vs:jr}{V jF:jj}{fs:jS}{l:j5}{F F':jn}{s:aj}{A:bO}{f:ma}{Y:j9}{v:ae}{S:Sys}{d:Nat}{J:jW}{R:mO}{c:nW}{fn:sY}{name:Str}{fE:rT}{pY:Bh}{o:Expr}{K:KV}{X:KX}{pos apos:Pos}{P:tD}{Kf:Frag}{a:AV}
@[irreducible] def pg (Kf:Frag) (fn:sY) (ov:AV) (name:Str) (J:jW) (K:KV):Prop:=match ov with
 |.ref k=>(match J[k]? with
  |some (.inst C dl)=>(match J[dl]? with
   |some (.dict m)=>if mz Kf C name=true then ky (m.lookup name) λa=>yg a=false/\K a J
     else if(name==("__class__":Str))=true then wJ Kf C=true/\K (.val (.ref C)) J
     else ky (u5 Kf C name) λf=>fn f [.ref k] J (λa jf=>yg a=false/\K a jf) wW
   |_=>False)
  |some (.set _)=>(name==("add":Str))=true/\K (.bm .setAdd k) J
  |_=>False)
 |_=>False
def Fv (Kf:Frag)(fn:sY)(fE:rT)(c:nW)(o:Expr)(name:Str)(Y:j9)(J:jW)(K:KV)(X:KX):Prop:=rG o=true/\c.calm=true/\fE c o Y J (λov iT=>pg Kf fn ov name iT K) X
def Ds(ok:ml S)(l:kJ S.B Kf)(w:ka S d fn){p:AV}{f:aY}(fa:kj (d+1) true fs A)(H:j4 S V F J fs R s)(r:kQ V F v p)(h:pg Kf fn p name J K):
  kY S A (getAttr v name f) (nP S V F fs R K) E s:=by
 unfold pg at h;split at h
 .rename_i k;split at h
  .rename_i C dl i;split at h
   .rename_i m n;split at h
    .rename_i x;have⟨a,y,z,j⟩:=jo h;exact BI l H r i n x y (CT z) j
    .split at h
     .rename_i c;have c:=aG.mp c;subst c;exact E5 l H r (by unfold lG;rw[i];dsimp only;rw[n]) h.1 h.2
     .have⟨M,D,j⟩:=jo h;exact Hn l w fa H r i n D j
   .exact h.elim
  .rename_i els i;have⟨c,j⟩:=h;have c:=aG.mp c;subst c;cases r with
   |ref q=>
   rename_i a;have G:=H.setAt ok q i;have⟨o,es,N,t,O,I,u,L,_⟩:=G;apply Ft I u.1 u.2.1 L;exact uM.yi (s:=s) (tk:=s.toks+1) (h:=s.heap) (H.tok _) rfl (λP e g=>kQ.bm (b:=.setAdd) e q) j
  .exact h.elim
 .exact h.elim
def Fw(ok:ml S)(a:kJ S.B Kf)(b:ka S d fn)(e:l7 S (d+1) fE)(h:Fv Kf fn fE c o name Y J K X):pD S (d+1) (eval (.Attribute o name pos)) c Y J K X:=by
 intro V F f fs R s A fa g i H;have⟨j,k,h⟩:=h;have l:eval (.Attribute o name pos) f.env=(do
   let o' <-eval o f.env
   standAt pos.atName
   let r <-holding [o'] (getAttr o' name true)
   letTemporaryGo o o' r
   pure r):=by
  rw[arm_eval_Attribute];cases o<;>first|rfl|cases j
 refine Attribute_any_ (wp_mono (e c o Y J _ X h V F f fs R s A fa g i H) λu w x av y z m n q t=>?_) l;exact ai (Ds (E:=oW S V F (f::fs) R X) ok a b (k▸fa) n q t) (λ_ _ p=>p.grow m) λ_ _ p=>p
def Jf (Kf:Frag)(D C:iJ):az aY:=if(instIn Kf (.ref D) (.type "type")==some true&&(clsIn Kf C).isSome)=true then subIn Kf (.ref C) (.ref D)else none
@[irreducible] def pZ (Kf:Frag) (fn:sY) (fE:rT) (c:nW) (ov:AV) (name:Str) (args:j5) (Y:j9) (J:jW) (K:KV) (X:KX):Prop:=match ov with
 |.val (.ref D)=>ky (z4 Kf D name) λf=>oj (λe J K=>fE c e Y J K X) args J λl jf=>fn f l jf K X
 |.val (.type t)=>t="type"/\(name==("__subclasscheck__":Str))=true/\oj (λe J K=>fE c e Y J K X) args J λl jf=>ky (xd l) λp=>ky (Jf Kf p.1 p.2) λb=>K (.bool b) jf
 |_=>False
def Aj (Kf:Frag)(fn:sY)(fE:rT)(c:nW)(o:Expr)(name:Str)(apos:Pos)(args:j5)(pos:Pos)(Y:j9)(J:jW)(K:KV)(X:KX):Prop:=rG o=true/\pq args=true/\args.length<30/\(apos.endLine==pos.line)=true/\c.calm=true/\fE c o Y J (λov iT=>pZ Kf fn fE c ov name args Y iT K X) X
def Bm(na:z6 S.B)(i:kJ S.B Kf)(y:ka S d fn)(z:l7 S d fE){args:j5}(h:Aj Kf fn fE c o name apos args pos Y J K X):
  pD S d (eval (.Call (.Attribute o name apos) args [] pos)) c Y J K X:=by
 have⟨C,E,F,G,H,h⟩:=h;refine BK z C E F G h λr s v Q u T f fs R A U fa j w a=>?_;rw[H]at fa;unfold pZ at a;split at a
 .rename_i D;have⟨V,x,a⟩:=jo a;cases w;refine Bc na i j x λtk=>⟨r,s,u,_,.refl _ _,j.tok tk,a,λl I e L M N vs O g m=>?_⟩
  exact⟨CS i g (Nf x),y.wp e fa g m⟩
 .rename_i t;obtain⟨rfl,n,a⟩:=a;have n:=aG.mp n;subst n;cases w;refine Bd i j λtk=>⟨r,s,u,_,.refl _ _,j.tok tk,a,λl I e L M N vs O g m=>?_⟩
  have⟨p,P,e⟩:=jo e;have⟨b,k,e⟩:=jo e;cases BX P m;unfold Jf at k;split at k
  .rename_i q;simp only[aJ,aG]at q;exact⟨md,Nk i g q.1 q.2 k (.here g (.bool b) e)⟩
  .cases k
 .exact a.elim
abbrev HU:=dF->Expr->jW->KV->KX->Prop
variable {lam:HU}
def NU (S:Sys)(d:Nat)(lam:HU):Prop:=∀sc b J K X,lam sc b J K X->∀(V:jj) (F:jn) (fs:jS) (R:mO) (s:aj) (A:bO) (v:ae),kj d true fs A->j4 S V F J fs R s->kQ V F v (.lam sc b)->
 oq (p_ S) v s/\kY S A (call v []) (nP S V F fs R K) (oW S V F fs R X) s
def HV:AV->az (jy)
 |.lst l=>some l
 |.tup l=>some l
 |_=>none
noncomputable def tR(Kf:Frag)(fn:sY)(id:String)(l:jy)(J:jW)(K:KV)(X:KX):Prop:=
 if id="isinstance" then(match l with|[a,.val cv]=>C6 Kf fn a cv J K X|_=>False)
 else if id="issubclass" then(match l with|[.val (.ref C),.tup l']=>(clsIn Kf C).isSome=true/\qy Kf C l'=true/\K (.bool false) J|_=>False)
 else if id="any" then(match l with|[.lst l']=>ky (ur l') λbs=>K (.bool (bs.any _root_.id)) J|_=>False)
 else if id="iter" then(match l with|[.ref k]=>ky (listAt J k) λ_=>K (.ref J.length) (J++[.iter k 0])|_=>False)
 else if id="sorted" then(match l with|[.tup l']=>Jb l' J K|_=>False)
 else if id="len" then(match l with
  |[.tup l']=>l'.length<=100000/\K (.int l'.length) J
  |[.ref k]=>on (lG J k) (λC=>ky (lq Kf C "__len__") λf=>fn f [.ref k] J (Hz λn g_=>K (.int n) g_) X) (rF (.builtin id) [.ref k] J K)
  |l=>rF (.builtin id) l J K)
 else False
noncomputable def Ak(Kf:Frag)(fn:sY)(pY:Bh)(t:String)(l:jy)(J:jW)(K:KV)(X:KX):Prop:=
 if t="tuple" then(match l with
  |[.ref k]=>I1 Kf fn k J (λl g_=>l.length<=100000/\K (.tup l) g_)
  |l=>rF (.type t) l J K)
 else if t="set" then(match l with
  |[]=>K (.ref J.length) (J++[.set []])
  |[a]=>ky (HV a) λl'=>ky (xb l') λes=>es.length<=31/\∀o,K (.ref J.length) (J++[.mP (ku [] es) o])
  |_=>False)
 else if t="list" then(match l with|[.ref k]=>Ag Kf pY k J K|_=>False)
 else if t="type" then(match l with|[.ref k]=>ky (lG J k) λC=>K (.val (.ref C)) J|_=>False)
 else rF (.type t) l J K
def Jg (Kf:Frag)(fn:sY)(pY:Bh)(lam:HU)(g:AV)(l:jy)(J:jW)(K:KV)(X:KX):Prop:=match g with
 |.val (.ref a)=>if fnIn Kf a=true then fn a l J K X else W8 Kf fn a l J K X
 |.val (.builtin nm)=>tR Kf fn nm l J K X
 |.val (.type t)=>Ak Kf fn pY t l J K X
 |.bm .setAdd k=>wN .setAdd k l J K X
 |.lam sc b=>(match l with|[]=>lam sc b J K X|_=>False)
 |_=>False
def wa(h:jV V F vs [a]):∃v,vs=[v]/\kQ V F v a:=by
 cases h with
 |cons r t=>cases t;exact⟨_,rfl,r⟩
def RR{b:AV}(h:jV V F vs [a,b]):∃v w,vs=[v,w]/\kQ V F v a/\kQ V F w b:=by
 cases h with
 |cons r t=>
  cases t with
  |cons c t=>cases t;exact⟨_,_,rfl,r,c⟩
def RS(h:jV V F vs []):vs=[]:=by cases h;rfl
def AX{w:ae}(h:kQ V F v (.val w)):v=w:=by cases h;rfl
def wb(ok:ml S)(g:kJ S.B Kf)(m:ka S d fn){id:String}{l:jy}(fa:kj (d+2) true fs A)(H:j4 S V F J fs R s)(c:jV V F vs l)(h:tR Kf fn id l J K X):
  kY S A (call (.builtin id) vs) (nP S V F fs R K) (oW S V F fs R X) s:=by
 have i:kj (d+1) true fs A:=fa.less (by omega);unfold tR at h;split at h
 .rename_i e;subst e;split at h
  .rename_i a r;obtain⟨v,w,rfl,b,j⟩:=RR c;cases AX j;exact C7 g m i H b h
  .exact h.elim
 .split at h
  .rename_i e;subst e;split at h
   .rename_i C l';obtain⟨v,w,rfl,b,j⟩:=RR c;cases AX b;exact HH g (by have:=fa.units;show A.units+5<9900;omega) H j h.1 h.2.1 h.2.2
   .exact h.elim
  .split at h
   .rename_i e;subst e;split at h
    .rename_i l';obtain⟨v,rfl,b⟩:=wa c;have⟨t,e,k⟩:=jo h;exact M_ i H b e k
    .exact h.elim
   .split at h
    .rename_i e;subst e;split at h
     .rename_i k;obtain⟨v,rfl,b⟩:=wa c;have⟨l',e,n⟩:=jo h;have o:J[k]?=some (.list l'):=by
       unfold listAt at e;split at e
       .rename_i q;cases e;exact q
       .cases e
      exact Ku (Kv H b o n)
     .exact h.elim
    .split at h
     .rename_i e;subst e;split at h
      .rename_i l';obtain⟨v,rfl,b⟩:=wa c;exact Fo H b h
      .exact h.elim
     .split at h
      .rename_i e;subst e;split at h
       .obtain⟨v,rfl,b⟩:=wa c;exact len_tuple H b h.1 h.2
       .rename_i k;rcases o0 h with⟨C,e,h⟩|h
        .obtain⟨v,rfl,b⟩:=wa c;have⟨f,p,h⟩:=jo h;exact ER g m i H b e p h
        .exact(pA h H c).2
       .exact(pA h H c).2
      .exact h.elim
def Al(ok:ml S)(g:kJ S.B Kf)(j:ka S d fn)(m:Af S d pY){t:String}{l:jy}(fa:kj (d+2) true fs A)(H:j4 S V F J fs R s)(b:jV V F vs l)(h:Ak Kf fn pY t l J K X):
  kY S A (call (.type t) vs) (nP S V F fs R K) (oW S V F fs R X) s:=by
 have i:kj (d+1) true fs A:=fa.less (by omega);unfold Ak at h;split at h
 .rename_i e;subst e;split at h
  .rename_i k;obtain⟨v,rfl,c⟩:=wa b;exact HE g j fa H c h
  .exact(pA h H b).2
 .split at h
  .rename_i e;subst e;split at h
   .cases RS b;exact TD ok H h
   .rename_i a;obtain⟨v,rfl,c⟩:=wa b;have⟨l',f,h⟩:=jo h;have⟨es,n,h⟩:=jo h;refine Pg ok i H c ?_ n h.1 h.2;unfold HV at f;split at f<;>cases f
    .exact .inl rfl
    .exact .inr rfl
   .exact h.elim
  .split at h
   .rename_i e;subst e;split at h
    .rename_i k;obtain⟨v,rfl,c⟩:=wa b;exact NE g m i H c h
    .exact h.elim
   .split at h
    .rename_i e;subst e;split at h
     .rename_i k;obtain⟨v,rfl,c⟩:=wa b;have⟨C,e,o⟩:=jo h;exact KC H c e o
     .exact h.elim
    .exact(pA h H b).2
def Fy(ok:ml S)(e:kJ S.B Kf)(f:ka S d fn)(j:Af S d pY)(k:NU S d lam):∀g l J K X,Jg Kf fn pY lam g l J K X->∀(V:jj) (F:jn) (fs:jS) (R:mO) (s:aj) (A:bO) (v:ae) (vs:jr),kj (d+2) true fs A->j4 S V F J fs R s->kQ V F v g->jV V F vs l->
  oq (p_ S) v s/\kY S A (call v vs) (nP S V F fs R K) (oW S V F fs R X) s:=by
 intro g l J K X h V F fs R s A v vs fa H r c;have m:kj (d+1) true fs A:=fa.less (by omega);have i:kj d true fs A:=fa.less (by omega);unfold Jg at h;split at h
 .rename_i a;cases AX r;split at h
  .rename_i n;exact⟨CS e H n,f.wp h i H c⟩
  .exact Kq e f m H c h
 .cases AX r;exact⟨md,wb ok e f fa H c h⟩
 .cases AX r;exact⟨nu,Al ok e f j fa H c h⟩
 .exact Nc ok fa H r c h
 .rename_i sc b;split at h
  .cases RS c;exact k sc b J K X h V F fs R s A v i H r
  .exact h.elim
 .exact h.elim
structure GP where
 u:Str
 v:Str
 pu:Pos
 pv:Pos
 kt:Nat
 pt:Pos
 x:Str
 px:Pos
 iter:Expr
 scope:dF
 zR:Pos
def GP.args(g:GP):j5:=[.GeneratorExp (.Tuple [.Name g.u g.pu,.Name g.v g.pv] g.kt g.pt) [⟨.Name g.x g.px,g.iter,[],0⟩] g.scope g.zR]
def T_:j5->az GP
 |[.GeneratorExp (.Tuple [.Name u pu,.Name v pv] kt pt) [⟨.Name x px,iter,[],0⟩] b_ zR]=>some ⟨u,v,pu,pv,kt,pt,x,px,iter,b_,zR⟩
 |_=>none
def Qt{g:GP}(h:T_ l=some g):l=g.args:=by
 unfold T_ at h;split at h
 .cases h;rfl
 .cases h
structure GC extends GP where
 w:Str
 pw:Pos
 pc:Pos
def GC.args(g:GC):j5:=[.GeneratorExp (.Compare (.Tuple [.Name g.u g.pu,.Name g.v g.pv] g.kt g.pt) [.In] [.Name g.w g.pw] g.pc) [⟨.Name g.x g.px,g.iter,[],0⟩] g.scope g.zR]
def Ua:j5->az GC
 |[.GeneratorExp (.Compare (.Tuple [.Name u pu,.Name v pv] kt pt) [.In] [.Name w pw] pc) [⟨.Name x px,iter,[],0⟩] b_ zR]=>some ⟨⟨u,v,pu,pv,kt,pt,x,px,iter,b_,zR⟩,w,pw,pc⟩
 |_=>none
def Qu{g:GC}(h:Ua l=some g):l=g.args:=by
 unfold Ua at h;split at h
 .cases h;rfl
 .cases h
structure DV where
 dp:Pos
 nm:Str
 ap:Pos
 cp:Pos
def DV.args(g:DV):j5:=[.Call (.Attribute (.Dict [] [] g.dp) g.nm g.ap) [] [] g.cp]
def Ub:j5->az DV
 |[.Call (.Attribute (.Dict [] [] dp) nm ap) [] [] cp]=>some ⟨dp,nm,ap,cp⟩
 |_=>none
def Qv{g:DV}(h:Ub l=some g):l=g.args:=by
 unfold Ub at h;split at h
 .cases h;rfl
 .cases h
structure Dt where
 Kf:Frag
 tb:jj
 glob:Str->az AV
 fns:iJ->az (Fn×aY)
 Du:iJ->az (Fn×Str×j5)
variable {L:Dt}
def B0 (L:Dt)(fn:sY)(fE:rT)(c:nW)(y:Str)(yp:Pos)(args:j5)(Y:j9)(J:jW)(K:KV)(X:KX):Prop:=
 match Ua args with
 |some g=>I9 L.Kf fn L.tb fE c y yp g.u g.v g.w g.x g.iter g.scope Y J K X
 |none=>ky (Ub args) λg=>BO fE c y yp g.nm g.ap g.cp Y J K X
def xf (L:Dt)(fn:sY)(fE:rT)(c:nW)(o:Expr)(name:Str)(apos:Pos)(args:j5)(pos:Pos)(Y:j9)(J:jW)(K:KV)(X:KX):Prop:=
 match T_ args with
 |some g=>I8 L.Kf fn L.tb fE c o name apos g.u g.v g.x g.iter g.scope pos Y J K X
 |none=>match o with
  |.Call (.Name y yp) qC [] _=>(name==("__new__":Str))=true/\NL L.Kf fE c y yp qC apos args pos Y J K X
  |o=>if(name==("_abc_kind":Str)||name==("__subclasscheck__":Str))=true then Aj L.Kf fn fE c o name apos args pos Y J K X else EH L.Kf fn fE c o name apos args pos Y J K X
noncomputable def Qw(L:Dt)(fn:sY)(fI:D5)(fE:rT)(fT:GB):rT:=λc e Y J K X=>match e with
 |.Subscript value slice _=>Hm (zT L.Kf fn) fE c value slice Y J K X
 |.Attribute o name _=>Fv L.Kf fn fE c o name Y J K X
 |.ListComp iV iO b_ _=>firstAsync iO=false/\uf fE fT (Di fE fI) c iV iO b_ Y J (λl g_=>K (.lst l) g_) X
 |.SetComp iV iO b_ _=>firstAsync iO=false/\BC true fE fT (Di fE fI) c iV iO b_ Y J (λl g_=>ky (zn l) λels=>K (.ref g_.length) (g_++[.set (ku [] els)])) X
 |.JoinedStr l _=>Dq fE c l Y J K X
 |.Lambda ju b sc _=>ju=t8/\XB L.tb c sc b J K
 |.Call (.Name y yp) args [] _=>B0 L fn fE c y yp args Y J K X
 |.Call (.Attribute o name apos) args [] pos=>xf L fn fE c o name apos args pos Y J K X
 |_=>False
def B1 (L:Dt)(fn:sY):D5:=λit J K=>match it with
 |.ref k=>(match J[k]? with
  |some (.mP els o)=>NM k els o J K
  |_=>q9 L.Kf fn it J K)
 |it=>q9 L.Kf fn it J K
structure Am (S:Sys) (L:Dt):Prop where
 sys:ml S
 An:kJ S.B L.Kf
 fnk:∀f,typeIn L.Kf (.ref f)=some (.type "function")->fnIn L.Kf f=true
 any:z6 S.B
 tabs:sF S.B
 gl:tj S.B
 tb:KM S.B L.tb
 glob:M8 S L.glob
 fns:∀f I b,L.fns f=some (I,b)->P0 S f I∨IU S f I
 Du:∀f I x es,L.Du f=some (I,x,es)->yL S f I x es
def Fz(LO:Am S L)(b:ka S d fn):qO S (d+1) (B1 L fn):=by
 intro c J K h V F fs R s A v E fa H r;have a:=EL (Kf:=L.Kf) LO.An b;unfold B1 at h;split at h
 .rename_i k;split at h
  .rename_i els o e;exact Fr LO.sys H r e h
  .exact a _ J K h V F fs R s A v E fa H r
 .exact a _ J K h V F fs R s A v E fa H r
def yx(LO:Am S L)(b:ka S d fn)(a:l7 S (d+1) fE){args:j5}(h:xf L fn fE c o name apos args pos Y J K X):
  pD S (d+1) (eval (.Call (.Attribute o name apos) args [] pos)) c Y J K X:=by
 unfold xf at h;split at h
 .rename_i g e;rw[Qt e];exact Da LO.sys LO.tabs LO.gl LO.An b LO.tb a h
 .split at h
  .rename_i y i j k;have⟨f,h⟩:=h;rw[aG.mp f];exact Fm LO.any LO.An a h
  .split at h
   .exact Bm LO.any LO.An (b.less (eo d)) a h
   .exact EK LO.sys LO.An (b.less (eo d)) LO.fnk a h
def HW(LO:Am S L)(b:ka S d fn){i:D5}(m:qO S (d+1) i){j:GB}(a:l7 S (d+1) fE)(k:rn S (d+1) j):l7 S (d+1) (Qw L fn i fE j):=by
 intro c e Y J K X h;have l:=Ff a m;unfold Qw at h;split at h
 .exact Ko (CZ LO.An b) a h
 .exact Fw LO.sys LO.An b a h
 .exact zG a k l h.1 h.2
 .exact A_ LO.sys a k l h.1 h.2
 .exact Dr a h
 .obtain⟨rfl,h⟩:=h;exact NJ LO.tabs LO.gl LO.tb h
 .rename_i y n args pos;unfold B0 at h;split at h
  .rename_i g f;rw[Qu f];exact Dc LO.sys LO.tabs LO.gl LO.An b LO.tb a h
  .have⟨g,f,h⟩:=jo h;rw[Qv f];exact z8 a h
 .exact yx LO b a h
 .exact h.elim
def Qx:aY->KV->KV
 |false,K=>K
 |true,K=>λa J=>match a with
  |.ref k=>ky (listAt J k) λl=>K (.lst l) (J.set k .dead)
  |_=>False
@[irreducible] def ny (L:Dt) (fn:sY) (pY:Bh) (lam:HU):AV->jy->jW->KV->KX->Prop:=Jg L.Kf fn pY lam
@[irreducible] def NV (L:Dt) (fn:sY):CmpOp->AV->AV->jW->KV->KX->Prop:=IY L.Kf fn
@[irreducible] def binI:Operator->AV->AV->jW->KV->KX->Prop:=RQ
@[irreducible] def rI (L:Dt) (fn:sY):D5:=B1 L fn
@[irreducible] def NW (L:Dt) (fn:sY):rT->GB->rT:=Qw L fn (rI L fn)
@[irreducible] def FA (L:Dt) (fn:sY) (fE:rT) (fT:GB) (fB:PZ):WR:=M7 L.Kf L.glob fn (rI L fn) fE fT fB
def RU (L:Dt)(fn:sY)(pY:Bh)(lam:HU):tD where
 glob:=L.glob
 call:=ny L fn pY lam
 cmp:=NV L fn
 bin:=binI
 ext:=NW L fn
 iter:=rI L fn
 MO:=λfE fT _ fB=>FA L fn fE fT fB
structure Lv where
 fn:sY
 pY:Bh
 lam:HU
def Lv.par(L:Dt)(v:Lv):tD:=RU L v.fn v.pY v.lam
def lv (L:Dt):Nat->Lv
 |0=>⟨λ_ _ _ _ _=>False,λ_ _ _ _=>False,λ_ _ _ _ _=>False⟩
 |n+1=>⟨λf l J K X=>ky (L.fns f) λI=>yI ((lv L n).par L) I.1 l J (Qx I.2 K) X,λf a J KL=>ky (L.Du f) λt=>TV ((lv L n).par L) t.1 t.2.1 t.2.2 a J KL,λsc b J K X=>Fi (aE ((lv L n).par L).toPar 100) sc b J K X⟩
def NX{b:aY}(h:nP S V F fs R (Qx b K) v s):nP S V F fs R K v s:=by
 cases b with
 |false=>exact h
 |true=>
  have⟨jF,F',av,f,g,H,r,k⟩:=h;cases av<;>first|exact k.elim|skip
  rename_i i;have⟨l,e,k⟩:=jo k;have a:f[i]?=some (.list l):=by
   unfold listAt at e;split at e
   .rename_i q;cases e;exact q
   .cases e
  cases r with
  |ref c=>
  have⟨vs,n,j,m⟩:=H.cells _ _ _ c a;have⟨o,d⟩:=H.Zb c a (by intro h;cases h) j;exact⟨jF,_,_,_,g.trans d,o,.lst (jn.lf ..) rfl rfl (m.mono d),k⟩
def Uc(LO:Am S L)(j:ka S d fn)(m:Af S d pY)(n:NU S d lam):u0 S (RU L fn pY lam) (d+2):=by
 have c:=j.less (eo d);have f:qO S (d+1+1) (rI L fn):=by unfold rI;exact Fz LO c
 refine⟨⟨LO.glob,?_,?_,?_,λfE e h i=>?_⟩,f,λfE e p k h i q o=>?_⟩
 .show GL S _ _;unfold GL;show ∀g l J K X,ny L fn pY lam g l J K X->_;unfold ny;exact Fy LO.sys LO.An j m n
 .show DZ S _ _;unfold DZ;show ∀op a b J K X,NV L fn op a b J K X->_;unfold NV;exact P7 LO.sys LO.An c
 .show L5 S _ _;unfold L5;show ∀op a b J K X,binI op a b J K X->_;unfold binI;exact Qr
 .show l7 S _ (NW L fn fE e);unfold NW;exact HW LO c f h i
 .show IS S _ (FA L fn fE e k);unfold FA;exact Hy LO.sys LO.An c LO.glob f fE e k h i o
def RV(LO:Am S L):∀n,ka S (3*n) (lv L n).fn/\Af S (3*n) (lv L n).pY/\NU S (3*n) (lv L n).lam
 |0=>⟨λ_ _ _ _ _ h=>h.elim,λ_ _ _ _ h=>h.elim,λ_ _ _ _ _ h=>h.elim⟩
 |n+1=>by
  obtain⟨i,j,k⟩:=RV LO n;have a:=Uc LO i j k;refine⟨?_,?_,?_⟩
  .intro f l J K X h V F fs R s A vs fa H g;obtain⟨I,e,h⟩:=jo h;have c:codeAny (p_ S) A (.call (.ref f) ⟨vs,[]⟩) (vR S V F fs R (Qx I.2 K) X) s:=by
    rcases LO.fns f I.1 I.2 e with q|q
    .exact EB (d:=3*n+2) q a h fa H g
    .exact CU (d:=3*n+2) q a h fa H g
   refine b7 c λr m p=>?_;rcases r with e|(_|_|_|v)
   .exact p
   .exact p
   .exact p
   .exact p
   .exact NX p
  .exact TX (λf I x es e=>LO.Du f I x es e) a
  .intro sc b J K X h V F fs R s A v fa H r;exact NI (Hk a.par 100) h fa H r
end
namespace H
open PySem PySem.W PyProof.Rows
def FB (fd:f7)(dflt:jy):Fn:={fd:=fd,body:=(match fd.body with|.stmts b=>b|_=>[]),names:=fd.params.args.map (·.arg),dflt:=dflt}
def qD (x:Stmt)(q:String)(m:ae)(c:Nat):Fn:=FB (Fg x q m c) []
def XO:Fn:=qD (sc 5 0) "_ABCLike.__instancecheck__" Ma 71
def RW:Fn:=qD (sc 20 1) "Set.__le__" Ma 272
def RX:Fn:=qD (sc 20 5) "Set.__eq__" Ma 300
def RY:Fn:=qD (sc 20 17) "Set._abc_kind" Ma 366
def NY:Fn:=qD (sc 22 3) "MutableSet.remove" Ma 402
def NZ:Fn:=qD (sc 22 6) "MutableSet.__ior__" Ma 423
def N4:Fn:=FB (F (sc 25 0) "Unique._fromargs" 3 [((S "__class__"),463)] N N N (s "concepts.tools" 826) (r 474) (r 468) (some 478) 0) []
def Jh:Fn:=FB (Fe (sc 25 1) "Unique.__init__" Mt 484 (r 480)) [.tup []]
def RZ:Fn:=qD (sc 25 2) "Unique.copy" Mt 491
def R0:Fn:=qD (sc 25 3) "Unique.__iter__" Mt 498
def R2:Fn:=qD (sc 25 4) "Unique.__len__" Mt 505
def R3:Fn:=qD (sc 25 5) "Unique.__contains__" Mt 512
def R4:Fn:=qD (sc 25 7) "Unique.add" Mt 526
def R5:Fn:=qD (sc 25 8) "Unique.discard" Mt 533
def R6:Fn:=qD (sc 25 9) "Unique.replace" Mt 540
def R7:Fn:=qD (sc 25 10) "Unique.move" Mt 547
def N5:Fn:=FB (F (sc 27 0) "Triple._fromargs" 3 [((S "__class__"),573)] N N N (s "concepts.definitions" 968) (r 584) (r 578) (some 588) 0) []
def xY:Fn:=FB (Fe (sc 27 1) "Triple.__init__" Md 596 (r 592)) [.tup [],.tup [],.tup []]
def R8:Fn:=qD (sc 27 2) "Triple.copy" Md 603
def N6:Fn:=qD (sc 27 3) "Triple.__eq__" Md 610
def R9:Fn:=qD (sc 27 4) "Triple.__ne__" Md 617
def N7:Fn:=qD (sc 27 6) "Triple.__getitem__" Md 631
def R_:Fn:=qD (sc 27 7) "Triple.objects" Md 638
def Sc:Fn:=qD (sc 27 8) "Triple.properties" Md 646
def Sd:Fn:=qD (sc 27 9) "Triple.bools" Md 652
def Se:Fn:=qD (sc 30 0) "Definition.rename_object" Md 711
def Sf:Fn:=qD (sc 30 1) "Definition.rename_property" Md 716
def Sg:Fn:=qD (sc 30 2) "Definition.move_object" Md 723
def Sh:Fn:=qD (sc 30 3) "Definition.move_property" Md 730
def N8:Fn:=qD (sc 30 4) "Definition.__setitem__" Md 737
def FC:Fn:=FB (Fe (sc 30 5) "Definition.add_object" Md 746 (r 740)) [.tup []]
def FD:Fn:=FB (Fe (sc 30 6) "Definition.add_property" Md 755 (r 749)) [.tup []]
def Si:Fn:=qD (sc 30 7) "Definition.remove_object" Md 762
def Sj:Fn:=qD (sc 30 8) "Definition.remove_property" Md 769
def Sk:Fn:=qD (sc 30 9) "Definition.set_object" Md 776
def Sm:Fn:=qD (sc 30 10) "Definition.set_property" Md 783
def sN:Fn:=qD (st 34) "_law_some" Ml 841
def B2:Fn:=qD (st 35) "_law_moved" Ml 846
def qE:Fn:=qD (st 36) "_law_with" Ml 853
def xZ:Fn:=qD (st 37) "_law_few" Ml 858
def pQ:Fn:=qD (st 38) "_law_deed" Ml 863
def pR:Fn:=qD (st 39) "_law_do" Ml 870
def B3:Fn:=qD (st 40) "_law_refusal" Ml 877
def B4:Fn:=qD (st 41) "_law_rows" Ml 882
def wc:Fn:=qD (st 42) "_law_is" Ml 889
def Ao:Fn:=qD (st 43) "_law_told" Ml 896
def B5:Fn:=qD (st 44) "_law_refused" Ml 903
def sO:Fn:=qD (st 45) "_law_unlike" Ml 908
def sP:Fn:=qD (st 46) "_law_first" Ml 913
def kZ:Fn:=qD (st 47) "law" Ml 918
def Sn:f7:=Fg (sc 27 5) "Triple.__iter__" Md 624
def Ji:Fn:=FB Sn []
noncomputable def rJ:List (iJ×Fn×aY):=[(72,XO,false),(273,RW,false),(301,RX,false),(367,RY,false),(403,NY,false),(424,NZ,false),(475,N4,false),(485,Jh,false),(492,RZ,false),(499,R0,false),(506,R2,false),(513,R3,false),(527,R4,false),(534,R5,false),(541,R6,false),(548,R7,false),(585,N5,false),(597,xY,false),(604,R8,false),(611,N6,false),(618,R9,false),(632,N7,false),(639,R_,false),(647,Sc,false),(653,Sd,false),(712,Se,false),(717,Sf,false),(724,Sg,false),(731,Sh,false),(738,N8,false),(747,FC,false),(756,FD,false),(763,Si,false),(770,Sj,false),(777,Sk,false),(784,Sm,false),(842,sN,false),(847,B2,false),(854,qE,true),(859,xZ,false),(864,pQ,false),(871,pR,false),(878,B3,false),(883,B4,false),(890,wc,false),(897,Ao,false),(904,B5,false),(909,sO,false),(914,sP,false),(919,kZ,false)]
def gb (x:String):PySem.Str×AV:=(PySem.Str.ofString x,.val (.builtin x))
def gt (x:String):PySem.Str×AV:=(PySem.Str.ofString x,.val (.type x))
def gr (x:String)(a:Nat):PySem.Str×AV:=(PySem.Str.ofString x,.val (.ref a))
noncomputable def yM:List (PySem.Str×AV):=[gb "len",
 gb "isinstance",
 gb "issubclass",
 gb "iter",
 gb "any",
 gb "sorted",
 gt "range",
 gt "tuple",
 gt "set",
 gt "list",
 gt "type",
 gt "zip",
 gt "super",
 gt "int",
 gt "frozenset",
 gt "KeyError",
 gt "ValueError",
 gr "Unique" 565,
 gr "Triple" 682,
 gr "Definition" 833,
 gr "Set" 371,
 gr "_law_some" 842,
 gr "_law_moved" 847,
 gr "_law_with" 854,
 gr "_law_few" 859,
 gr "_law_deed" 864,
 gr "_law_do" 871,
 gr "_law_refusal" 878,
 gr "_law_rows" 883,
 gr "_law_is" 890,
 gr "_law_told" 897,
 gr "_law_refused" 904,
 gr "_law_unlike" 909,
 gr "_law_first" 914,
 ("_law_objects",.lst [.str "a",.str "b",.str "c",.str "d",.str "e"]),
 ("_law_properties",.lst [.str "p",.str "q",.str "r",.str "s"])]
def B6 (x:PySem.Str):az AV:=yM.lookup x
def HX (a:iJ):az (Fn×aY):=rJ.lookup a
def Jj (a:iJ):az (Fn×PySem.Str×j5):=if a=625 then some (Ji,"self",(tM Ji.body).getD [])else none
def XQ:jj:=[652,746,755,762,769,913]
end H
section
open PySem PySem.W
variable {xs iQ ys:kd}{ps os ss ms ji je c_ there jl tt O N:jK}{J g_:jW}{L:Dt}{KI:jy->(jW->Prop)->jW->Prop}{n k t dl c dt cp:Nat}{K:KV}{X:KX}{l:jy}{x one i_ fst snd z y s name:Str}{num bits:Int}{Y:j9}{iK:aY}{KL:jy->jW->Prop}{P:Par}{b v b3 b1 b2:AV}{m:List (Str×AV)}{els k8:kr}{α β:Type}{fn:sY}{M:List Nat}{pY:Bh}{lam:HU}{i0:D5}{sc:dF}{f:Str->Str×Str}{KN:AV->Prop}{e:El}{HD:jW->Prop}{D C:iJ}{args:j5}{tb:ae}{o:dq}{is nums:List Int}{fE:rT}{op:CmpOp}{c':j3}{Kf:Frag}{N9:Lv}{bm:BM}{I:Fn}
section
variable {c:nW}{a:AV}
def jO{x:az α}{a:α}{K:α->Prop}(h:x=some a)(k:K a):ky x K:=by unfold ky;subst h;exact k
def ly{x:az α}{a:α}{K:α->Prop}{D:Prop}(h:x=some a)(k:K a):on x K D:=by unfold on;subst h;exact k
def ph{x:az α}{K:α->Prop}{D:Prop}(h:x=none)(k:D):on x K D:=by unfold on;subst h;exact k
def So (c:nW)(x:Str):aY:=!((x==("__debug__":Str))||(x==("__classdict__":Str))||(x==("__class__":Str)))&&uN (c.scope.names.lookup x)
def N_ (c:nW)(x:Str):aY:=!((x==("__debug__":Str))||(x==("__classdict__":Str))||(x==("__class__":Str)))&&(match c.scope.names.lookup x with|some .globalImplicit=>true|_=>false)
def rd(h:So c x=true)(e:Y.lookup x=some a)(k:KN a):wH P c x Y KN:=by unfold So at h;simp only[aJ,bJ,eM]at h;unfold wH;rw[aA (by rw[h.1.1.1,h.1.1.2,h.1.2];simp)];have b:=h.2;rw[e];unfold uN at b;split at b<;>first|(rename_i q;rw[q];exact k)|cases b
def Oa(h:N_ c x=true)(e:P.glob x=some a)(k:KN a):wH P c x Y KN:=by
 unfold N_ at h;simp only[aJ,bJ,eM]at h;unfold wH;rw[aA (by rw[h.1.1.1,h.1.1.2,h.1.2];simp)];have b:=h.2;split at b
 .rename_i q;rw[q,e];exact k
 .cases b
end
section
variable {fT:GB}{fB:PZ}{c:nW}{e:Expr}{st:Stmt}{HD:KS}{XS:wM}{g a:AV}{bop:Operator}
def kX(h:Jg L.Kf fn pY lam g l J K X):ny L fn pY lam g l J K X:=by unfold ny;exact h
def oO(h:IY L.Kf fn op a b J K X):NV L fn op a b J K X:=by unfold NV;exact h
def Ap(h:B1 L fn a J KI):rI L fn a J KI:=by unfold rI;exact h
def sx(h:Qw L fn (rI L fn) fE fT c e Y J K X):NW L fn fE fT c e Y J K X:=by unfold NW;exact h
def Ob(h:M7 L.Kf L.glob fn (rI L fn) fE fT fB c st Y J HD XS):FA L fn fE fT fB c st Y J HD XS:=by unfold FA;exact h
def Aq(k:KI l (λ_=>True) J):oX i0 (.lst l) J KI:=by unfold oX;exact ly rfl k
def Oc(k:KI l (λ_=>True) J):oX i0 (.tup l) J KI:=by unfold oX;exact ly rfl k
def Od(h:n<=1000000)(k:KI (rW 0 n) (λ_=>True) J):oX i0 (.LD n) J KI:=by unfold oX;exact ly (by show(if n<=1000000 then _ else _)=_;rw[aB h]) k
def Oe{i:Nat}(h:J[i]?=some (.list l))(k:KI l (λg_=>g_[i]?=some (.list l)) J):oX i0 (.ref i) J KI:=by unfold oX;exact ly (by show(match J[i]? with|some (j3.list l)=>some (l,λ(g_:jW)=>g_[i]?=some (j3.list l))|_=>none)=_;rw[h]) k
def HY(h:rX a J=none)(k:i0 a J KI):oX i0 a J KI:=by unfold oX;exact ph h k
end
abbrev VL(Y:j9)(x:Str)(a:AV):Prop:=Y.lookup x=some a
def we{step:Er}{cond:jW->Prop}{K:j9->jW->jy->Prop}(Inv:jy->j9->jW->jy->Prop)(d:∀l Y J f_,Inv l Y J f_->cond J)
  (e:∀a l Y J f_ (f:j9->jW->jy->Prop),Inv (a::l) Y J f_->(∀b g_ c,Inv l b g_ c->f b g_ c)->step a Y J f_ f) (g:∀Y J f_,Inv [] Y J f_->K Y J f_):
  ∀l Y J f_,Inv l Y J f_->xK step cond l Y J f_ K
 |[],Y,J,f_,h=>⟨d _ _ _ _ h,g _ _ _ h⟩
 |a::l,Y,J,f_,h=>⟨d _ _ _ _ h,e a l Y J f_ _ h λb g_ c h'=>we Inv d e g l b g_ c h'⟩
def nN{c:j9->jW->KS->Prop}{bind:AV->j9->az j9}{cond:jW->Prop}{f:j9->jW->KS->Prop}{K:KS}(Inv:jy->j9->jW->Prop)(e:∀l Y J,Inv l Y J->cond J)
  (g:∀a l Y J (d:KS),Inv (a::l) Y J->(∀b g_,Inv l b g_->d .next b g_/\d .cont b g_)->(∀b g_,K .next b g_->d .brk b g_)->(∀v b g_,K (.ret v) b g_->d (.ret v) b g_)->ky (bind a Y) λm=>c m J d) (i:∀Y J,Inv [] Y J->f Y J K):
  ∀l Y J,Inv l Y J->Kj c bind cond f l Y J K
 |[],Y,J,h=>⟨e _ _ _ h,i _ _ h⟩
 |a::l,Y,J,h=>⟨e _ _ _ h,by
   have:=g a l Y J (λfl j k=>match fl with
    |.next|.cont=>Kj c bind cond f l j k K
    |.brk=>K .next j k
    |.ret a=>K (.ret a) j k) h (λb g_ h'=>⟨nN Inv e g i l b g_ h',nN Inv e g i l b g_ h'⟩) (λ_ _ h=>h) (λ_ _ _ h=>h)
   exact this⟩
mutual
def pS:AV->aY
 |.none=>true
 |.bool _=>true
 |.str s=>PyData.strOk s
 |.tup l=>mR l
 |.lst l=>mR l
 |_=>false
def mR:jy->aY
 |[]=>true
 |a::l=>pS a&&mR l
end
mutual
def rK:AV->Nat
 |.tup l=>mM l+1
 |.lst l=>mM l+1
 |_=>0
def mM:jy->Nat
 |[]=>0
 |a::l=>max (rK a) (mM l)
end
def jU{a:AV}:mR (a::l)=true↔pS a=true/\mR l=true:=by rw[show mR (a::l)=(pS a&&mR l) by simp only[mR],aJ]
def FE:∀{l m:jy},mR (l++m)=true↔mR l=true/\mR m=true
 |[],m=>by simp[mR]
 |a::l,m=>by rw[eS,jU,jU,FE,and_assoc]
def rL:∀{l:jy},mR l=true↔∀a∈l,pS a=true
 |[]=>by simp[mR]
 |a::l=>by rw[jU,rL];simp
def nH{n:Nat}:∀{l:jy},(∀a∈l,rK a<=n)->mM l<=n
 |[],_=>by simp[mM]
 |a::l,h=>by unfold mM;have d:=h a (.head _);have e:=nH λb c=>h b (.tail _ c);omega
mutual
def wf:∀{a:AV},pS a=true->∃x,a.pd=some x/\x.canLay0=true/\x.depth=rK a
 |.none,_=>⟨.none,rfl,rfl,rfl⟩
 |.bool b,_=>⟨.bool b,rfl,rfl,rfl⟩
 |.int _,h=>by unfold pS at h;cases h
 |.str s,h=>⟨.str s,rfl,by unfold pS at h;simpa [PyData.canLay0]using h,by simp[PyData.depth,rK]⟩
 |.tup l,h=>by have⟨xs,c,d,e⟩:=sy (l:=l) (by unfold pS at h;exact h);exact⟨.tuple xs,by unfold AV.pd;rw[c];rfl,by simpa [PyData.canLay0]using d,by simp[PyData.depth,rK,e]⟩
 |.lst l,h=>by have⟨xs,c,d,e⟩:=sy (l:=l) (by unfold pS at h;exact h);exact⟨.list xs,by unfold AV.pd;rw[c];rfl,by simpa [PyData.canLay0]using d,by simp[PyData.depth,rK,e]⟩
 |.LD _,h=>by unfold pS at h;cases h
 |.ref _,h=>by unfold pS at h;cases h
 |.val _,h=>by unfold pS at h;cases h
 |.bm _ _,h=>by unfold pS at h;cases h
 |.lam _ _,h=>by unfold pS at h;cases h
def sy:∀{l:jy},mR l=true->∃xs,AV.A1 l=some xs/\PyData.canLayAll0 xs=true/\PyData.depthAll xs=mM l
 |[],_=>⟨[],rfl,rfl,rfl⟩
 |a::l,h=>by have⟨b,c⟩:=jU.mp h;have⟨x,d,e,f⟩:=wf b;have⟨xs,b1,b2,b3⟩:=sy c;exact⟨x::xs,by unfold AV.A1;rw[d,b1],by simp[PyData.canLayAll0,e,b2],by simp[PyData.depthAll,mM,f,b3]⟩
end
mutual
def HZ:∀{a b:AV}{x y:iG},pS a=true->pS b=true->a.pd=some x->b.pd=some y->(PyData.eqv x y=true↔a=b)
 |.none,b,x,y,_,d,e,c=>by
  cases e;cases b<;>(unfold pS at d;try (cases d))<;>(unfold AV.pd at c)<;>first
   |(cases c;simp[PyData.eqv])
   |(obtain⟨l,_,rfl⟩:=ay.mp c;simp[PyData.eqv])
 |.bool v,b,x,y,_,d,e,c=>by
  cases e;cases b<;>(unfold pS at d;try (cases d))<;>(unfold AV.pd at c)<;>first
   |(cases c;simp[PyData.eqv])
   |(obtain⟨l,_,rfl⟩:=ay.mp c;simp[PyData.eqv])
 |.str v,b,x,y,_,d,e,c=>by
  cases e;cases b<;>(unfold pS at d;try (cases d))<;>(unfold AV.pd at c)<;>first
   |(cases c;simp[PyData.eqv])
   |(obtain⟨l,_,rfl⟩:=ay.mp c;simp[PyData.eqv])
 |.tup l,b,x,y,f,d,e,c=>by
  unfold AV.pd at e;obtain⟨xs,g,rfl⟩:=ay.mp e;unfold pS at f;cases b<;>(unfold pS at d;try (cases d))<;>(unfold AV.pd at c)<;>first
   |(cases c;simp[PyData.eqv])
   |(obtain⟨ys,i,rfl⟩:=ay.mp c;first|(simp only[PyData.eqv,AV.tup.injEq];exact Dv f d g i)|simp[PyData.eqv])
 |.lst l,b,x,y,f,d,e,c=>by
  unfold AV.pd at e;obtain⟨xs,g,rfl⟩:=ay.mp e;unfold pS at f;cases b<;>(unfold pS at d;try (cases d))<;>(unfold AV.pd at c)<;>first
   |(cases c;simp[PyData.eqv])
   |(obtain⟨ys,i,rfl⟩:=ay.mp c;first|(simp only[PyData.eqv,AV.lst.injEq];exact Dv f d g i)|simp[PyData.eqv])
 |.int _,_,_,_,h,_,_,_=>by unfold pS at h;cases h
 |.LD _,_,_,_,h,_,_,_=>by unfold pS at h;cases h
 |.ref _,_,_,_,h,_,_,_=>by unfold pS at h;cases h
 |.val _,_,_,_,h,_,_,_=>by unfold pS at h;cases h
 |.bm _ _,_,_,_,h,_,_,_=>by unfold pS at h;cases h
 |.lam _ _,_,_,_,h,_,_,_=>by unfold pS at h;cases h
def Dv:∀{l m:jy}{xs ys:List iG},mR l=true->mR m=true->AV.A1 l=some xs->AV.A1 m=some ys->(PyData.eqvAll xs ys=true↔l=m)
 |[],[],xs,ys,_,_,c,d=>by cases c;cases d;simp[PyData.eqvAll]
 |[],b::m,xs,ys,_,e,c,d=>by cases c;have⟨x,g,_⟩:=wf (jU.mp e).1;have⟨h,b1,_⟩:=sy (jU.mp e).2;unfold AV.A1 at d;rw[g,b1]at d;cases d;simp[PyData.eqvAll]
 |a::l,[],xs,ys,f,_,c,d=>by cases d;have⟨x,g,_⟩:=wf (jU.mp f).1;have⟨h,b1,_⟩:=sy (jU.mp f).2;unfold AV.A1 at c;rw[g,b1]at c;cases c;simp[PyData.eqvAll]
 |a::l,b::m,xs,ys,f,e,c,d=>by have⟨x,g,_⟩:=wf (jU.mp f).1;have⟨h,b1,_⟩:=sy (jU.mp f).2;have⟨y,i,_⟩:=wf (jU.mp e).1;have⟨j,b2,_⟩:=sy (jU.mp e).2;unfold AV.A1 at c d;rw[g,b1]at c;cases c;rw[i,b2]at d;cases d;simp only[PyData.eqvAll,aJ,List.cons.injEq];rw[HZ (jU.mp f).1 (jU.mp e).1 g i,Dv (jU.mp f).2 (jU.mp e).2 b1 b2]
end
def Jk{a:AV}(c:pS a=true)(d:pS b=true)(g:rK a<=20):∃v,wP a b=some v/\(v=true↔a=b):=by have⟨x,e,f,h⟩:=wf c;have⟨y,b1,b2,b3⟩:=wf d;refine⟨PyData.eqv x y,?_,HZ c d e b1⟩;unfold wP;rw[e,b1];dsimp only;rw[aB ⟨by omega,f,b2⟩]
def wg{a:AV}(c:pS a=true)(d:mR l=true)(k:rK a<=20):∃v,qN a (.lst l)=some v/\(v=true↔a∈l):=by
 have⟨x,f,m,n⟩:=wf c;have⟨ys,b1,b2,b3⟩:=sy d;refine⟨ys.any λy=>PyData.eqv y x,?_,?_⟩
 .unfold qN;rw[f];unfold AV.pd
  grind
 .have:∀{l:jy}{ys:List iG},mR l=true->AV.A1 l=some ys->(ys.any (λy=>PyData.eqv y x)=true↔a∈l):=by
   intro l;induction l with
   |nil=>intro ys _ e;cases e;simp
   |cons b l j=>
    intro ys h e;have⟨y,g,_⟩:=wf (jU.mp h).1;have⟨o,i,_⟩:=sy (jU.mp h).2;unfold AV.A1 at e;rw[g,i]at e;cases e;rw[iy,cz,HZ (jU.mp h).1 c g f,j (jU.mp h).2 i,af];constructor
    .rintro(h|h)
     .exact .inl h.symm
     .exact .inr h
    .rintro(h|h)
     .exact .inl h.symm
     .exact .inr h
  exact this d b1
def FF(i j:Int):wP (.int i) (.int j)=some (decide (i=j)):=by show(if(PyData.int i).depth<=20/\(PyData.int i).canLay0=true/\(PyData.int j).canLay0=true then some (PyData.eqv (.int i) (.int j))else none)=_;rw[aB ⟨cg _,rfl,rfl⟩];simp only[PyData.eqv];by_cases h:i=j<;>simp[h]
section
variable {a:AV}{i j:Int}
def u9(c:pS a=true)(d:pS b=true)(f:rK a<=20)(k:∀v:aY,(v=true↔a=b)->K (.bool v) J):lF P iK .Eq a b J K X:=by have⟨v,e,h⟩:=Jk c d f;unfold lF;exact ly e (k v h)
def nE(c:pS a=true)(d:pS b=true)(f:rK a<=20)(k:∀v:aY,(v=true↔a≠b)->K (.bool v) J):lF P iK .NotEq a b J K X:=by have⟨v,e,h⟩:=Jk c d f;unfold lF;exact ly e (k (!v) (by cases v<;>simp_all))
def Dw(b:pS a=true)(c:mR l=true)(d:rK a<=20)(k:∀v:aY,(v=true↔a∈l)->K (.bool v) J):lF P iK .In a (.lst l) J K X:=by have⟨v,e,h⟩:=wg b c d;unfold lF;exact ly e (k v h)
def Jl(b:pS a=true)(c:mR l=true)(d:rK a<=20)(k:∀v:aY,(v=true↔a∉l)->K (.bool v) J):lF P iK .NotIn a (.lst l) J K X:=by have⟨v,e,h⟩:=wg b c d;unfold lF;exact ly e (k (!v) (by cases v<;>simp_all))
def Dx(k:K (.bool (decide (i=j))) J):lF P iK .Eq (.int i) (.int j) J K X:=by unfold lF;exact ly (FF i j) k
def Qz(k:K (.bool (!decide (i=j))) J):lF P iK .NotEq (.int i) (.int j) J K X:=by unfold lF;exact ly (FF i j) k
def xg{v:aY}(h:Py a b=some v)(k:K (.bool v) J):lF P iK .Is a b J K X:=by unfold lF;exact ly h k
def FG(h:wP a b=none)(c:iK=true)(k:P.cmp .Eq a b J K X):lF P iK .Eq a b J K X:=by unfold lF;exact ph h ⟨c,k⟩
def Of(h:wP a b=none)(c:iK=true)(k:P.cmp .NotEq a b J K X):lF P iK .NotEq a b J K X:=by unfold lF;exact ph h ⟨c,k⟩
def FH(h:qN a b=none)(c:iK=true)(k:P.cmp .In a b J K X):lF P iK .In a b J K X:=by unfold lF;exact ph h ⟨c,k⟩
def xh(h:qN a b=none)(c:iK=true)(k:P.cmp .NotIn a b J K X):lF P iK .NotIn a b J K X:=by unfold lF;exact ph h ⟨c,k⟩
def Og(h:Py a b=none)(c:iK=true)(k:P.cmp .Is a b J K X):lF P iK .Is a b J K X:=by unfold lF;exact ph h ⟨c,k⟩
def K7(h:Py a b=none)(c:iK=true)(k:P.cmp .IsNot a b J K X):lF P iK .IsNot a b J K X:=by unfold lF;exact ph h ⟨c,k⟩
def UT(c:iK=true)(k:P.cmp .Gt a b J K X):lF P iK .Gt a b J K X:=by unfold lF;exact⟨c,k⟩
def Ar:wP (.ref k) b=none:=by unfold wP;simp only[AV.pd]
def tT:qN a (.ref k)=none:=by unfold qN;cases a.pd<;>simp only[AV.pd]
end
def rf{α β:Type}(f:α->β):∀(l:List α) (j:Nat),(l.map f).eraseIdx j=(l.eraseIdx j).map f
 |[],_=>rfl
 |a::l,0=>rfl
 |a::l,j+1=>by rw[bg,hH,hH,bg,rf f l j]
section
variable {c:nW}{KB:aY->jW->Prop}{j:Nat}{f:iJ}{a x:AV}{qm:jy}
def k9(a:J[k]?=some (.inst C dl))(b:J[dl]?=some (.dict m)):lG J k=some C:=by unfold lG;rw[a];dsimp only;rw[b]
def xi(a:J[k]?=some (.list l)):listAt J k=some l:=by unfold listAt;rw[a]
def As(a:J[k]?=some (.set els)):listAt J k=none:=by unfold listAt;rw[a]
def FI(a:J[k]?=some (.mP els o)):listAt J k=none:=by unfold listAt;rw[a]
def FJ(a:J[k]?=some (.inst C dl)):listAt J k=none:=by unfold listAt;rw[a]
def FK(a:J[k]?=some (.inst C dl)):rX (.ref k) J=none:=by show(match J[k]? with|some (j3.list l)=>some (l,λ(g_:jW)=>g_[k]?=some (j3.list l))|_=>none)=_;rw[a]
def FL(a:J[k]?=some (.mP els o)):rX (.ref k) J=none:=by show(match J[k]? with|some (j3.list l)=>some (l,λ(g_:jW)=>g_[k]?=some (j3.list l))|_=>none)=_;rw[a]
def mA(b:J[k]?=some (.inst C dl))(c:J[dl]?=some (.dict m))(d:mz Kf C name=true)(e:m.lookup name=some a)(f:yg a=false)(q:K a J):pg Kf fn (.ref k) name J K:=by unfold pg;dsimp only;rw[b];dsimp only;rw[c];dsimp only;rw[aB d];exact jO e ⟨f,q⟩
def Oh(a:J[k]?=some (.inst C dl))(b:J[dl]?=some (.dict m))(c:mz Kf C "__class__"=false)(d:wJ Kf C=true)(q:K (.val (.ref C)) J):pg Kf fn (.ref k) "__class__" J K:=by unfold pg;dsimp only;rw[a];dsimp only;rw[b];dsimp only;rw[aA (by rw[c];decide),aB (bW _)];exact⟨d,q⟩
def mi(b:J[k]?=some (.inst C dl))(c:J[dl]?=some (.dict m))(d:mz Kf C name=false)(e:(name==("__class__":Str))=false)(g:u5 Kf C name=some f)(q:fn f [.ref k] J (λa h=>yg a=false/\K a h) wW):pg Kf fn (.ref k) name J K:=by unfold pg;dsimp only;rw[b];dsimp only;rw[c];dsimp only;rw[aA (by rw[d];decide),aA (by rw[e];decide)];exact jO g q
def Oi(a:J[k]?=some (.set els))(q:K (.bm .setAdd k) J):pg Kf fn (.ref k) "add" J K:=by unfold pg;dsimp only;rw[a];exact⟨bW _,q⟩
def aaB(b:J[k]?=some (.inst C dl))(c:J[dl]?=some (.dict m))(d:mz Kf C name=true)(e:m.lookup name=some a)(f:yg a=false)(q:K a J):zU Kf (.ref k) name J K:=by unfold zU;dsimp only;rw[b];dsimp only;rw[c];exact⟨d,jO e ⟨f,q⟩⟩
def aaC(b:J[k]?=some (.inst C dl))(c:J[dl]?=some (.dict m))(d:yh Kf C name=true)(e:m.length<=100)(q:HD (J.set dl (.dict (u6 name a m)))):oK Kf (.ref k) name a J HD:=by unfold oK;dsimp only;rw[b];dsimp only;rw[c];exact⟨d,e,q⟩
def QA(a:J[k]?=some (.inst C dl))(b:J[dl]?=some (.dict m))(d:m.lookup name=none)(g:mf Kf C name=some f)(q:oj (λe J K=>fE c e Y J K X) args J λl h=>fn f (.ref k::l) h K X):pK Kf fn fE c (.ref k) name args Y J K X:=by unfold pK;dsimp only;rw[a];dsimp only;rw[b];dsimp only;rw[g];exact⟨d,q⟩
def QB(a:J[k]?=some (.inst C dl))(b:J[dl]?=some (.dict m))(d:m.lookup name=none)(g:mf Kf C name=none)(h:M0 Kf C name=some f)(q:oj (λe J K=>fE c e Y J K X) args J λl i=>fn f (.val (.ref C)::l) i K X):pK Kf fn fE c (.ref k) name args Y J K X:=by unfold pK;dsimp only;rw[a];dsimp only;rw[b];dsimp only;rw[g];exact⟨d,jO h q⟩
def Oj(a:J[k]?=some (.set els))(b:IV name=some bm)(q:oj (λe J K=>fE c e Y J K X) args J λl d=>wN bm k l d K X):pK Kf fn fE c (.ref k) name args Y J K X:=by unfold pK;dsimp only;rw[a];exact jO b q
def K8(a:J[k]?=some (.list l))(b:CX name=some bm)(q:oj (λe J K=>fE c e Y J K X) args J λl d=>wN bm k l d K X):pK Kf fn fE c (.ref k) name args Y J K X:=by unfold pK;dsimp only;rw[a];exact jO b q
def Ud(a:z4 Kf D name=some f)(q:oj (λe J K=>fE c e Y J K X) args J λl b=>fn f l b K X):pZ Kf fn fE c (.val (.ref D)) name args Y J K X:=by unfold pZ;exact jO a q
def QC(q:oj (λe J K=>fE c e Y J K X) args J λl a=>ky (xd l) λp=>ky (Jf Kf p.1 p.2) λb=>K (.bool b) a):pZ Kf fn fE c (.val (.type "type")) "__subclasscheck__" args Y J K X:=by unfold pZ;exact⟨rfl,bW _,q⟩
def xj(a:J[k]?=some (.set els))(b:qW x=some e)(c:∀f∈els,f.jJ=e.jJ)(d:e≠.many [])(g:els.length<31)(q:K .none (J.set k (.set (lj els e)))):wN .setAdd k [x] J K X:=by unfold wN;rw[a];exact jO b ⟨c,d,g,q⟩
def u_(a:J[k]?=some (.set els))(b:qW x=some e)(c:∀f∈els,f.jJ=e.jJ)(q:K .none (J.set k (.set (els.erase e)))):wN .setDiscard k [x] J K X:=by unfold wN;rw[a];exact jO b ⟨c,q⟩
def uk(a:J[k]?=some (.set els))(b:qW x=some e)(c:∀f∈els,f.jJ=e.jJ)(d:e∈els)(q:K .none (J.set k (.set (els.erase e)))):wN .t_ k [x] J K X:=by unfold wN;rw[a];exact jO b ⟨c,d,q⟩
def Jm(a:J[k]?=some (.set els))(c:∃b,∀f∈els,f.jJ=b)(d:∀f∈els,f≠.many [])(e:els.length<=31)(q:K (.ref J.length) (J++[.set els])):wN .yB k [] J K X:=by unfold wN;rw[a];exact⟨c,d,e,q⟩
def pj(a:J[k]?=some (.list qm))(b:qm.length<=100000)(q:K .none (J.set k (.list (qm++[x])))):wN .yC k [x] J K X:=by unfold wN;rw[a];exact⟨b,q⟩
def FM(a:J[k]?=some (.list (ss.map .str)))(b:ss.length<=1000)(c:CW z)(q1:∀j,ss.findIdx? (·==z)=some j->K (.int j) J)(d:ss.findIdx? (·==z)=none->X ⟨"ValueError",false⟩ J):wN .Co k [.str z] J K X:=by
 unfold wN;rw[a];refine⟨by rw[ah];exact b,c,jO (lQ ss) ?_⟩;split
 .rename_i j e;exact q1 j e
 .rename_i e;exact d e
def H4(a:J[k]?=some (.list (ss.map .str)))(b:ss.length<=1000)(c:ss.findIdx? (·==z)=some j)(q:K .none (J.set k (.list ((ss.eraseIdx j).map .str)))):wN .yD k [.str z] J K X:=by unfold wN;rw[a];refine⟨by rw[ah];exact b,jO (lQ ss) (jO c ?_)⟩;rw[rf];exact q
def Ue{i:Int}(b:J[k]?=some (.list qm))(c:0<=i)(d:qm.length<=1000)(e:qm[i.toNat]?=some a)(q:K a (J.set k (.list (qm.eraseIdx i.toNat)))):wN .Px k [.int i] J K X:=by unfold wN;rw[b];exact⟨c,d,jO e q⟩
def K9{i:Int}(a:J[k]?=some (.list qm))(b:qm.length<=1000)(c:-1000<=i)(d:i<=1000)(q:K .none (J.set k (.list (rH qm i x)))):wN .yE k [.int i,x] J K X:=by unfold wN;rw[a];exact⟨b,c,d,q⟩
def K_{i:Int}(a:J[k]?=some (.list qm))(b:0<=i)(c:i<qm.length)(d:qm.length<=1000)(q:HD (J.set k (.list (qm.set i.toNat x)))):qh Kf fn (.ref k) (.int i) x J HD X:=by unfold qh;dsimp only;rw[a];exact⟨b,c,d,q⟩
def xk(a:J[k]?=some (.inst C dl))(c:J[dl]?=some (.dict m))(d:noSeq Kf C=true)(e:lq Kf C "__setitem__"=some f)(q:fn f [.ref k,b,x] J (λ_ g_=>HD g_) X):qh Kf fn (.ref k) b x J HD X:=by unfold qh;dsimp only;rw[a];exact⟨k9 a c,d,jO e q⟩
def Jn(a:J[k]?=some (.set els))(b:k≠j)(c:J[j]?=some (.set k8))(d:∀f∈els,f.jJ=false)(e:∀f∈k8,f.jJ=false)(g:∀f∈k8,f≠.many [])(h:els.length+k8.length<=31)(q:K (.ref k) (J.set k (.set (ku els k8)))):EM Kf fn (.ref k) (.ref j) J K X:=by unfold EM;dsimp only;rw[a];dsimp only;refine⟨b,?_⟩;rw[c];exact⟨d,e,g,h,q⟩
def wh(a:J[k]?=some (.inst C dl))(c:J[dl]?=some (.dict m))(d:selfFirst Kf C=true)(e:lq Kf C "__ior__"=some f)(q:fn f [.ref k,b] J (λr g_=>match r with|.ref j=>K (.ref j) g_|_=>False) X):EM Kf fn (.ref k) b J K X:=by unfold EM;dsimp only;rw[a];exact⟨k9 a c,d,jO e q⟩
def Ok(b:J[k]?=some (.set els))(c:qW a=some e)(d:∀f∈els,f.jJ=e.jJ)(q:KB (decide (e∈els)) J):Po Kf fn a k J KB X:=by unfold Po;rw[b];exact jO c ⟨d,q⟩
def QD(b:J[k]?=some (.mP els o))(c:qW a=some e)(d:∀f∈els,f.jJ=e.jJ)(q:KB (decide (e∈els)) J):Po Kf fn a k J KB X:=by unfold Po;rw[b];exact jO c ⟨d,q⟩
def QE(b:J[k]?=some (.inst C dl))(c:J[dl]?=some (.dict m))(d:lq Kf C "__contains__"=some f)(q:fn f [.ref k,a] J (q8 KB) X):Po Kf fn a k J KB X:=by unfold Po;rw[b];exact⟨k9 b c,jO d q⟩
def Uf(a:J[k]?=some (.set els))(b:J[j]?=some (.set k8))(c:∀f∈els,f.jJ=false)(d:∀f∈k8,f.jJ=false)(q:∀v,(v=true↔els.Perm k8)->K (.bool v) J):xR Kf fn .Eq k (.ref j) J K X:=by unfold xR;rw[a];dsimp only;refine⟨rfl,?_⟩;rw[b];exact⟨c,d,q⟩
def FN{a:Str}(c:J[k]?=some (.inst C dl))(d:J[dl]?=some (.dict m))(e:Hs op=some a)(g:lq Kf C a=some f)(h:Hr J b=some tb)(i:notFirst Kf C tb=true)(q:fn f [.ref k,b] J (q8 λv g_=>K (.bool v) g_) X):xR Kf fn op k b J K X:=by unfold xR;rw[c];exact⟨k9 c d,jO e (jO g (jO h ⟨i,q⟩))⟩
def Dy{t:AV}{lo hi st:az Int}(c:xP a=some lo)(d:xP b=some hi)(e:xP t=some st)(f:st≠some 0)(g:¬(lo=none/\hi=none/\st=none))(h:l.length<=100000)(q:K (.lst (uC l lo hi st)) J):oJ (.lst l) a b t J K:=by unfold oJ;refine jO c (jO d (jO e ⟨f,h,?_⟩));cases lo<;>cases hi<;>cases st<;>first|exact q|exact absurd ⟨rfl,rfl,rfl⟩ g
def Ol(a:l.length<=100000)(q:K (.ref J.length) (J++[.list l])):oJ (.lst l) .none .none .none J K:=by unfold oJ;exact jO rfl (jO rfl (jO rfl ⟨by simp,a,q⟩))
def Om(a:J[k]?=some (.list l))(b:l.length<=100000)(q:K (.ref J.length) (J++[.list l])):oJ (.ref k) .none .none .none J K:=by unfold oJ;refine jO rfl (jO rfl (jO rfl ⟨by simp,?_⟩));dsimp only;rw[a];exact⟨b,q⟩
def On(a:l.length<=100000)(q:K (.tup l.reverse) J):oJ (.tup l) .none .none (.int (-1)) J K:=by unfold oJ;exact jO rfl (jO rfl (jO rfl ⟨by simp,a,rfl,rfl,rfl,q⟩))
def vd(a:J[k]?=some (.inst C dl))(b:J[dl]?=some (.dict m))(c:lq Kf C "__iter__"=some f)(q:fn f [.ref k] J (λr g_=>match r with
   |.ref j=>(match g_[j]? with
    |some (.iter i 0)=>(match g_[i]? with
     |some (.list l)=>KI l (λd=>d[i]?=some (.list l)) (g_.set j .dead)
     |_=>False)
    |_=>False)
   |_=>False) wW):q9 Kf fn (.ref k) J KI:=by
 unfold q9;dsimp only;rw[a];exact⟨k9 a b,jO c q⟩
end
def H5(a:J[k]?=some (.inst C dl))(q:q9 L.Kf fn (.ref k) J KI):rI L fn (.ref k) J KI:=by refine Ap ?_;unfold B1;dsimp only;rw[a];exact q
def H6(a:J[k]?=some (.mP els o))(q:∀l':kr,l'.Perm els->KI (l'.map p7) (λg_=>g_[k]?=some (.mP els o)) J):rI L fn (.ref k) J KI:=by refine Ap ?_;unfold B1;dsimp only;rw[a];exact q
structure Fx (L:Dt):Prop where
 glob:L.glob=H.B6
 fns:L.fns=H.HX
 Du:L.Du=H.Jj
 tb:L.tb=H.XQ
 QF:mf L.Kf 565 "add"=some 527
 FO:mf L.Kf 565 "discard"=some 534
 Oo:mf L.Kf 565 "copy"=some 492
 FP:mf L.Kf 565 "replace"=some 541
 Op:mf L.Kf 565 "move"=some 548
 H7:mf L.Kf 565 "remove"=some 403
 Ug:mf L.Kf 565 "__le__"=some 273
 Oq:mf L.Kf 565 "_fromargs"=none
 Os:M0 L.Kf 565 "_fromargs"=some 475
 Uh:mz L.Kf 565 "_seen"=true
 QG:mz L.Kf 565 "_items"=true
 Ui:yh L.Kf 565 "_seen"=true
 QH:yh L.Kf 565 "_items"=true
 sz:lq L.Kf 565 "__contains__"=some 513
 QI:lq L.Kf 565 "__len__"=some 506
 Ot:lq L.Kf 565 "__iter__"=some 499
 H8:lq L.Kf 565 "__eq__"=some 301
 wi:lq L.Kf 565 "__ior__"=some 424
 wj:selfFirst L.Kf 565=true
 Ou:notFirst L.Kf 565 (.ref 565)=true
 xl:AW L.Kf 565=some 485
 Sp:tN L.Kf 565 565=true
 B7:fnIn L.Kf 565=false
 B8:fnIn L.Kf 833=false
 At:mf L.Kf 833 "add_object"=some 747
 xm:mf L.Kf 833 "add_property"=some 756
 wk:mf L.Kf 833 "remove_object"=some 763
 uw:mf L.Kf 833 "remove_property"=some 770
 wl:mf L.Kf 833 "rename_object"=some 712
 ux:mf L.Kf 833 "rename_property"=some 717
 yy:mf L.Kf 833 "move_object"=some 724
 wm:mf L.Kf 833 "move_property"=some 731
 Au:mf L.Kf 833 "set_object"=some 777
 xn:mf L.Kf 833 "set_property"=some 784
 Ov:mf L.Kf 833 "copy"=some 604
 Ow:mf L.Kf 833 "_fromargs"=none
 Ox:M0 L.Kf 833 "_fromargs"=some 585
 B9:mz L.Kf 833 "_objects"=true
 La:yh L.Kf 833 "_objects"=true
 wn:mz L.Kf 833 "_properties"=true
 Dz:yh L.Kf 833 "_properties"=true
 sA:mz L.Kf 833 "_pairs"=true
 QJ:yh L.Kf 833 "_pairs"=true
 pn:mz L.Kf 833 "objects"=false
 p0:u5 L.Kf 833 "objects"=some 639
 mX:mz L.Kf 833 "properties"=false
 nv:u5 L.Kf 833 "properties"=some 647
 wo:mz L.Kf 833 "bools"=false
 yN:u5 L.Kf 833 "bools"=some 653
 tU:lq L.Kf 833 "__eq__"=some 611
 Av:lq L.Kf 833 "__ne__"=some 618
 nh:lq L.Kf 833 "__getitem__"=some 632
 qF:lq L.Kf 833 "__setitem__"=some 738
 FQ:lq L.Kf 833 "__iter__"=some 625
 yO:noSeq L.Kf 833=true
 uF:notFirst L.Kf 833 (.ref 833)=true
 Oy:notFirst L.Kf 833 (.type "tuple")=true
 xo:AW L.Kf 833=some 597
 Sq:tN L.Kf 682 833=true
 Jo:findIn L.Kf (.ref 833) "__len__"=some none
 FR:findIn L.Kf (.ref 833) "__length_hint__"=some none
 Sr:isIn L.Kf (.ref 833) 682=true
 Ss:isIn L.Kf (.ref 833) 833=true
 Jp:isNotIn L.Kf "tuple" 682=true
 H9:isIn L.Kf (.ref 565) 371=false
 H_:C5 L.Kf 371=some 72
 St:wJ L.Kf 565=true
 FS:mz L.Kf 565 "__class__"=false
 Oz:z4 L.Kf 371 "_abc_kind"=some 367
 OA:Jf L.Kf 371 565=some true
 FT:(clsIn L.Kf 565).isSome=true
 OB:qy L.Kf 565 [.val (.type "frozenset"),.val (.type "set"),.val (.type "dict_keys"),.val (.type "dict_items")]=true
 Uj:tE L.Kf 565=true
 Uk:tE L.Kf 371=true
 sN:fnIn L.Kf 842=true
 B2:fnIn L.Kf 847=true
 qE:fnIn L.Kf 854=true
 xZ:fnIn L.Kf 859=true
 pQ:fnIn L.Kf 864=true
 pR:fnIn L.Kf 871=true
 B3:fnIn L.Kf 878=true
 B4:fnIn L.Kf 883=true
 wc:fnIn L.Kf 890=true
 Ao:fnIn L.Kf 897=true
 B5:fnIn L.Kf 904=true
 sO:fnIn L.Kf 909=true
 sP:fnIn L.Kf 914=true
section
variable {c:nW}{a:AV}{D:Prop}{u:az α}{KA:α->Prop}
def XR(h:ky u KA):ky u KA:=h
def Ul(h:on u KA D):on u KA D:=h
def Um(h:wH P c x Y KN):wH P c x Y KN:=h
def Un(h:oX i0 a J KI):oX i0 a J KI:=h
def Uo(h:pg Kf fn a name J K):pg Kf fn a name J K:=h
def Up(h:pK Kf fn fE c a name args Y J K X):pK Kf fn fE c a name args Y J K X:=h
def Uq(h:zU Kf a name J K):zU Kf a name J K:=h
def Ur(h:oK Kf a name v J HD):oK Kf a name v J HD:=h
end
structure jp (M:List Nat) (J g_:jW):Prop where
 len:J.length<=g_.length
 get:∀{k:Nat}{c:j3},k∉M->J[k]?=some c->g_[k]?=some c
section
variable {N:List Nat}{l8 τ:jW}{j:Nat}{c:j3}
def jp.refl(M:List Nat)(J:jW):jp M J J:=⟨ao _,λ_ e=>e⟩
def jp.trans(x:jp M J g_)(y:jp M g_ l8):jp M J l8:=⟨bq x.len y.len,λm e=>y.get m (x.get m e)⟩
def jp.mono(x:jp M J g_)(h:∀k∈M,k∈N):jp N J g_:=⟨x.len,λm e=>x.get (λh'=>m (h _ h')) e⟩
def jp.more(x:jp [] J g_):jp N J g_:=x.mono (by simp)
def jp.app(M:List Nat)(J τ:jW):jp M J (J++τ):=⟨by simp,λ_ e=>by rw[cx];exact e;exact(aC.mp e).1⟩
def jp.put(h:k∈M):jp M J (J.set k c):=⟨by simp,λ{j c'} m e=>by rw[ce (by rintro rfl;exact m h)];exact e⟩
def jp.same(h:J[k]?=some c):jp M J (J.set k c):=⟨by simp,λ{j c'} m e=>by
 by_cases a:k=j
 .grind
 .rw[ce a];exact e⟩
def kH(h:J[k]?=some c):k<J.length:=(aC.mp h).1
def jp.fresh(x:jp M J g_)(y:jp N g_ l8)(h:∀k∈N,k∈M∨J.length<=k):jp M J l8:=⟨bq x.len y.len,λ{k c} m e=>y.get (λq=>by
 rcases h k q with h|h
 .exact m h
 .exact absurd (kH e) (by omega)) (x.get m e)⟩
def mH:(J++[c])[J.length]?=some c:=by rw[aR (ao _),cM];rfl
def mV:(J++[c,c'])[J.length]?=some c:=by rw[aR (ao _),cM];rfl
def mW:(J++[c,c'])[J.length+1]?=some c':=by rw[aR (by omega),Nat.add_sub_cancel_left];rfl
def mI(h:J[k]?=some c):(J++τ)[k]?=some c:=by rw[cx (aC.mp h).1];exact h
def k_(h:J[k]?=some c'):(J.set k c)[k]?=some c:=cK (kH h)
def kn(h:J[j]?=some c')(n:k≠j):(J.set k c)[j]?=some c':=by rw[ce n];exact h
end
def ul{l:List α}{j:Nat}{a:α}(h:l[j]?=some a):(oh l.length (j:Int)).bind (λj=>l[j]?)=some a:=by have b:=(aC.mp h).1;unfold oh;rw[aB (Int.natCast_nonneg _),aB (by omega)];exact h
def XT{f_:jy}{K:jy->Prop}(h:f_.length<=100000)(k:K (f_++[v])):Tj false f_ v K:=⟨h,k⟩
def Lb{a:AV}:VL ((x,a)::Y) x a:=by show List.lookup x ((x,a)::Y)=_;rw[cZ,bW]
def rM{a:AV}(n:(x==y)=false)(h:VL Y x a):VL ((y,b)::Y) x a:=by show List.lookup x ((y,b)::Y)=_;rw[cZ,n];exact h
def j6{f:iJ}{b:aY}(g:c+1<=n)(a:Fx L)(h:H.HX f=some (I,b))(d:(rC I l).map List.reverse=some Y)(k:∀m,c<=m->rS ((lv L m).par L) 200 (oV I) I.body Y J (RD (Qx b K)) λx _ g_=>X ⟨x.name,true⟩ g_):(lv L n).fn f l J K X:=by
 obtain⟨m,rfl⟩:∃m,n=m+1:=⟨n-1,by omega⟩
 show ky (L.fns f) _;rw[a.fns];apply jO h;obtain⟨i,e,rfl⟩:=ay.mp d;exact jO e (k m (by omega))
def Jq{f:Lv}{a:AV}(b:Fx L)(h:H.B6 x=some a):(f.par L).toPar.glob x=some a:=by show L.glob x=_;rw[b.glob];exact h
def p5{α:Type}{step:Er}{cond:jW->Prop}{K:j9->jW->jy->Prop}(f:α->AV)(g:α->jy)(P:j9->jW->Prop)(B:Nat)(c:∀Y J,P Y J->cond J):
  ∀(xs:List α) (Y:j9) (J:jW) (f_:jy),f_.length+(xs.flatMap g).length<=B->P Y J->
   (∀x∈xs,∀Y J f_ (e:j9->jW->jy->Prop),P Y J->f_.length+(g x).length<=B->(∀a g_,P a g_->e a g_ (f_++g x))->step (f x) Y J f_ e)->
   (∀a g_,P a g_->K a g_ (f_++xs.flatMap g))->xK step cond (xs.map f) Y J f_ K
 |[],Y,J,f_,h,b,d,i=>⟨c _ _ b,by have:=i _ _ b;rwa [List.flatMap_nil,bh]at this⟩
 |x::xs,Y,J,f_,h,b,d,i=>by
  rw[cR,bk]at h;refine⟨c _ _ b,d x (.head _) _ _ _ _ b (by omega) λa g_ j=>?_⟩;refine p5 f g P B c xs a g_ _ (by rw[bk];omega) j (λy k=>d y (.tail _ k)) λa g_ l=>?_
  grind
abbrev j_{α:Type}{step:Er}{K:j9->jW->jy->Prop}(f:α->AV)(g:α->jy)(P:j9->jW->Prop):=@p5 α step (λ_=>True) K f g P 1000 (λ_ _ _=>trivial)
def DA{α β:Type}(p:α->Prop)[DecidablePred p](v:α->β):∀l:List α,l.flatMap (λx=>if p x then[v x]else[])=(l.filter λx=>decide (p x)).map v
 |[]=>rfl
 |a::l=>by rw[cR,DA p v l,cL];by_cases h:p a<;>simp[h]
def kW{α β:Type}(v:α->β):∀l:List α,l.flatMap (λx=>[v x])=l.map v
 |[]=>rfl
 |a::l=>by rw[cR,kW v l];rfl
def li{α β:Type}{g:α->List β}(h:∀x,(g x).length<=1):∀l:List α,(l.flatMap g).length<=l.length
 |[]=>ao _
 |a::l=>by rw[cR,bk,aI];have:=li h l;have:=h a;omega
def x0:∀(m i:Nat),rW i m=(List.range' i m).map λ(k:Nat)=>AV.int (k:Int)
 |0,_=>rfl
 |m+1,i=>by show AV.int i::rW (i+1) m=_;rw[x0 m (i+1)];rfl
def QK(m:Nat):rW 0 m=(List.range m).map λ(k:Nat)=>AV.int (k:Int):=by rw[x0,List.range_eq_range']
def Su{a:AV}(h:VL Y x a)(c:sc.names.lookup x=some .free):VL (qr sc Y) x a:=by
 show List.lookup x (sc.names.filterMap _)=some a;generalize sc.names=l at c;induction l with
 |nil=>cases c
 |cons p l d=>
  have⟨y,q⟩:=p;rw[cZ]at c;rw[bQ];cases e:x==y with
  |true=>rw[e]at c;cases c;cases aG.mp e;rw[aB (show(NameKind.free==NameKind.free)=true by decide),show Y.lookup x=some a from h];dsimp only [Option.map];rw[cZ,bW]
  |false=>
   rw[e]at c;by_cases f:(q==NameKind.free)=true
   .rw[aB f];cases Y.lookup y with
    |none=>exact d c
    |some b=>dsimp only [Option.map];rw[cZ,e];exact d c
   .rw[aA f];exact d c
def XU{p:Prop}[Decidable p]{Q:aY->Prop}(h:∀v,(v=true↔p)->Q v):Q (decide p):=h _ (by simp)
def yP{i j:Int}(h:∀v,(v=true↔i=j)->K (.bool v) J):lF P iK .Eq (.int i) (.int j) J K X:=Dx (XU (Q:=λv=>K (.bool v) J) h)
def um{i j:Int}(h:∀v,(v=true↔i≠j)->K (.bool v) J):lF P iK .NotEq (.int i) (.int j) J K X:=Qz (h _ (by simp))
def nI:jK:=["a","b","c","d","e","p","q","r","s","z"]
def lm (s:Str):Prop:=s∈nI
def Us(h:lm s):PyData.strOk s=true:=by
 have:∀s∈nI,PyData.strOk s=true:=by tm_at"d"
 exact this s h
def sQ(h:lm s):pS (.str s)=true:=Us h
def ve:∀{l:jK},(∀s∈l,lm s)->mR (l.map .str)=true:=by intro l h;rw[rL];intro a m;obtain⟨s,b,rfl⟩:=aM.mp m;exact sQ (h s b)
def rN(l:jK):mM (l.map .str)<=0:=nH λa m=>by obtain⟨s,_,rfl⟩:=aM.mp m;exact ao 0
def x8:∀{l m:jK},l.map AV.str=m.map AV.str->l=m
 |[],[],_=>rfl
 |[],_::_,h=>by cases h
 |_::_,[],h=>by cases h
 |a::l,b::m,h=>by rw[bg,bg]at h;injection h with c d;injection c with c;rw[c,x8 d]
def mem_map_str{l:jK}:AV.str s∈l.map AV.str↔s∈l:=by
 constructor
 .grind
 .exact λh=>aM.mpr ⟨s,h,rfl⟩
def jz (x:Str×Str):AV:=.tup [.str x.1,.str x.2]
def Aw{x y:Str×Str}(h:jz x=jz y):x=y:=by unfold jz at h;injection h with h;injection h with b a;injection b with b;injection a with a;injection a with a;exact Prod.ext b a
def wq{x:Str×Str}{l:kd}:jz x∈l.map jz↔x∈l:=by
 constructor
 .intro h;have⟨t,a,e⟩:=aM.mp h;exact Aw e▸a
 .exact λh=>aM.mpr ⟨x,h,rfl⟩
def tV{x:Str×Str}(a:lm x.1)(b:lm x.2):pS (jz x)=true:=by exact jU.mpr ⟨sQ a,jU.mpr ⟨sQ b,rfl⟩⟩
def xq{l:kd}(h:∀x∈l,lm x.1/\lm x.2):mR (l.map jz)=true:=by rw[rL];intro a m;obtain⟨x,b,rfl⟩:=aM.mp m;exact tV (h x b).1 (h x b).2
def Ax(x:Str×Str):rK (jz x)<=20:=by show mM [.str x.1,.str x.2]+1<=20;have:=nH (n:=0) (l:=[AV.str x.1,AV.str x.2]) (by intro a m;rcases af.mp m with rfl|m;exact ao 0;rcases af.mp m with rfl|m;exact ao 0;cases m);omega
local macro_rules |`(tactic|tm_at"fx")=>`(tactic|with_reducible first
 |exact Fx.QF ‹_›
 |exact Fx.FO ‹_›
 |exact Fx.Oo ‹_›
 |exact Fx.FP ‹_›
 |exact Fx.Op ‹_›
 |exact Fx.H7 ‹_›
 |exact Fx.Ug ‹_›
 |exact Fx.Oq ‹_›
 |exact Fx.Os ‹_›
 |exact Fx.Uh ‹_›
 |exact Fx.QG ‹_›
 |exact Fx.Ui ‹_›
 |exact Fx.QH ‹_›
 |exact Fx.sz ‹_›
 |exact Fx.QI ‹_›
 |exact Fx.Ot ‹_›
 |exact Fx.H8 ‹_›
 |exact Fx.wi ‹_›
 |exact Fx.wj ‹_›
 |exact Fx.Ou ‹_›
 |exact Fx.xl ‹_›
 |exact Fx.Sp ‹_›
 |exact Fx.B7 ‹_›
 |exact Fx.B8 ‹_›
 |exact Fx.At ‹_›
 |exact Fx.xm ‹_›
 |exact Fx.wk ‹_›
 |exact Fx.uw ‹_›
 |exact Fx.wl ‹_›
 |exact Fx.ux ‹_›
 |exact Fx.yy ‹_›
 |exact Fx.wm ‹_›
 |exact Fx.Au ‹_›
 |exact Fx.xn ‹_›
 |exact Fx.Ov ‹_›
 |exact Fx.Ow ‹_›
 |exact Fx.Ox ‹_›
 |exact Fx.B9 ‹_›
 |exact Fx.La ‹_›
 |exact Fx.wn ‹_›
 |exact Fx.Dz ‹_›
 |exact Fx.sA ‹_›
 |exact Fx.QJ ‹_›
 |exact Fx.pn ‹_›
 |exact Fx.p0 ‹_›
 |exact Fx.mX ‹_›
 |exact Fx.nv ‹_›
 |exact Fx.wo ‹_›
 |exact Fx.yN ‹_›
 |exact Fx.tU ‹_›
 |exact Fx.Av ‹_›
 |exact Fx.nh ‹_›
 |exact Fx.qF ‹_›
 |exact Fx.FQ ‹_›
 |exact Fx.yO ‹_›
 |exact Fx.uF ‹_›
 |exact Fx.Oy ‹_›
 |exact Fx.xo ‹_›
 |exact Fx.Sq ‹_›
 |exact Fx.Jo ‹_›
 |exact Fx.FR ‹_›
 |exact Fx.Sr ‹_›
 |exact Fx.Ss ‹_›
 |exact Fx.Jp ‹_›
 |exact Fx.H9 ‹_›
 |exact Fx.H_ ‹_›
 |exact Fx.St ‹_›
 |exact Fx.FS ‹_›
 |exact Fx.Oz ‹_›
 |exact Fx.OA ‹_›
 |exact Fx.FT ‹_›
 |exact Fx.OB ‹_›
 |exact Fx.Uj ‹_›
 |exact Fx.Uk ‹_›
 |exact Fx.sN ‹_›
 |exact Fx.B2 ‹_›
 |exact Fx.qE ‹_›
 |exact Fx.xZ ‹_›
 |exact Fx.pQ ‹_›
 |exact Fx.pR ‹_›
 |exact Fx.B3 ‹_›
 |exact Fx.B4 ‹_›
 |exact Fx.wc ‹_›
 |exact Fx.Ao ‹_›
 |exact Fx.B5 ‹_›
 |exact Fx.sO ‹_›
 |exact Fx.sP ‹_›)
local macro_rules |`(tactic|tm_at"sd")=>`(tactic|first|exact rfl|exact True.intro|exact .inl rfl|exact .inr rfl|exact List.cons_ne_nil _ _|assumption|exact Nat.le_of_ble_eq_true rfl|omega)
local macro_rules |`(tactic|tm_at"s1")=>`(tactic|(
 first
 |(refine XR ?_
   first
   |refine jO rfl ?_
   |refine jO ‹_› ?_)
 |(refine Um ?_
   first
   |refine rd rfl (by tm_at"sd") ?_
   |refine Oa rfl (Jq ‹_› (by tm_at"sd")) ?_)
 |(refine Ul ?_
   first
   |refine ly ‹_› ?_
   |refine ly rfl ?_
   |refine ph rfl ?_)
 |refine sx ?_
 |refine Ob ?_
 |(refine Un ?_
   first
   |refine Aq ?_
   |refine Oc ?_)
 |(refine Uo ?_
   refine mA ‹_› ‹_› (by tm_at"fx") rfl rfl ?_)
 |(refine Up ?_
   first
   |refine QA ‹_› ‹_› rfl (by tm_at"fx") ?_
   |refine QB ‹_› ‹_› rfl (by tm_at"fx") (by tm_at"fx") ?_
   |refine Oj ‹_› rfl ?_
   |refine K8 ‹_› rfl ?_)
 |(refine Uq ?_
   refine aaB ‹_› ‹_› (by tm_at"fx") rfl rfl ?_)
 |(refine Ur ?_
   refine aaC ‹_› ‹_› (by tm_at"fx") (by tm_at"sd") ?_)
 |refine⟨by tm_at"sd",?_⟩
 conv=>whnf))
local macro_rules |`(tactic|tm_at"go")=>`(tactic|repeat tm_at"s1")
local macro_rules |`(tactic|tm_at"call")=>`(tactic|(
 refine kX ?_
 conv=>whnf
 tm_at"go"))
local macro_rules |`(tactic|tm_at"w")=>`(tactic|(
 conv=>whnf
 tm_at"go"))
local macro_rules |`(tactic|tm_at"s2")=>`(tactic|(
 first
 |refine Jr rfl ?_
 |refine Dx ?_
 conv=>whnf))
local macro_rules |`(tactic|tm_at"w2")=>`(tactic|(
 conv=>whnf
 repeat (first|tm_at"s1"|tm_at"s2")))
def Ay{α:Type}(l:List α):∀m:Nat,(List.range m).filterMap (λk=>l[k]?)=l.take m
 |0=>rfl
 |m+1=>by rw[List.range_succ,List.filterMap_append,Ay l m,List.take_add_one];congr 1
def Az(l:jy)(lo hi:az Int):uC l lo hi none=(l.drop (lo.elim 0 (clipAt l.length))).take (hi.elim l.length (clipAt l.length)-lo.elim 0 (clipAt l.length)):=by unfold uC;rw[sliceBounds_plain,sliceRange_one,e6,<-Ay];congr 1;funext k;exact c8.symm
def QL(l:jy)(i:Int):uC l none (some i) none=l.take (clipAt l.length i):=by rw[Az];rfl
def pick_from(l:jy)(i:Int):uC l (some i) none none=l.drop (clipAt l.length i):=by rw[Az];exact er (by rw[eV];exact ao _)
def FU{α β:Type}{f g:α->az β}:∀{l:List α},(∀x∈l,f x=g x)->l.filterMap f=l.filterMap g
 |[],_=>rfl
 |a::l,h=>by rw[bQ,bQ,h a (.head _),FU λx b=>h x (.tail _ b)]
def Lc(l:jy):uC l none none (some (-1))=l.reverse:=by unfold uC;rw[krv_bounds];show(sliceRange _ (-1) (-1)).filterMap _=_;rw[krv_sliceRange,e6];have h:=Ay l.reverse l.length;rw[er (by rw[cn];exact ao _)]at h;rw[<-h];apply FU;intro k a;have a:=dc.mp a;show l[l.length-1-k]?=l.reverse[k]?;rw[List.getElem?_reverse a]
def rO (l:List α)(i:Int)(x:α):List α:=l.take (clipAt l.length i)++x::l.drop (clipAt l.length i)
def DB(l:jy)(i:Int)(x:AV):rH l i x=rO l i x:=by
 unfold rH rO;have h:=clipAt_cast l.length i;have:(if i<0 then(i+(l.length:Int)).toNat else min i.toNat l.length)=clipAt l.length i:=by grind
 rw[this]
def B_(f:α->β)(l:List α)(i:Int)(x:α):rO (l.map f) i (f x)=(rO l i x).map f:=by unfold rO;simp
def Ld{l:List α}{j:Nat}{x:α}(h:l[j]?=some x):rO (l.eraseIdx j) j x=l:=by
 have a:=(aC.mp h).1;have b:=eO a;unfold rO;rw[iB,Nat.min_eq_left (by omega),fz,List.take_append_of_le_length (by simp;omega),List.take_take,Nat.min_self,List.drop_append_of_le_length (by simp;omega),show(l.take j).drop j=[]from List.drop_of_length_le (by simp;omega),aX,<-(aC.mp h).2]
 conv=>rhs;rw[<-bw j l]
 rw[gx a]
def sR{l:jK}:∀{j:Nat},l.Nodup->l.findIdx? (·==z)=some j->l.eraseIdx j=l.filter λx=>decide (x≠z):=by
 induction l with
 |nil=>intro j _ h;cases h
 |cons a l d=>
  intro j c h;rw[ge]at h;have⟨e,f⟩:=aL.mp c;by_cases b:a=z
  .subst b;rw[aB (bW _)]at h;cases h;rw[List.eraseIdx_cons_zero,List.filter_cons_of_neg (by simp),List.filter_eq_self.mpr]
   grind
  .rw[aA (by simpa using b)]at h;obtain⟨g,h',rfl⟩:=ay.mp h
   grind
def tW{l:jK}{j:Nat}(h:l.findIdx? (·==z)=some j):l[j]?=some z:=by have⟨a,b,_⟩:=dG.mp h;rw[da a];exact cq some (by simpa using b)
def FV{l:jK}(h:z∈l):∃j,l.findIdx? (·==z)=some j:=by
 cases e:l.findIdx? (·==z)with
 |some j=>exact⟨j,rfl⟩
 |none=>rw[gq]at e;have:=e z h;simp at this
def Ib{l:jK}{w:Str}:∀{j:Nat},l.Nodup->l.findIdx? (·==z)=some j->l.set j w=l.map λx=>if x=z then w else x:=by
 induction l with
 |nil=>intro j _ h;cases h
 |cons a l f=>
  intro j c h;rw[ge]at h;have⟨d,g⟩:=aL.mp c;by_cases b:a=z
  .subst b;rw[aB (bW _)]at h;cases h;rw[List.set_cons_zero,bg,aB rfl];congr 1;have:l.map (λx=>if x=a then w else x)=l.map id:=List.map_congr_left λx e=>aA (by rintro rfl;exact d e);rw[this,List.map_id]
  .rw[aA (by simpa using b)]at h;obtain⟨i,h',rfl⟩:=ay.mp h
   grind
def kS{α:Type}[DecidableEq α]:∀{l m:List α},l.Nodup->(∀x∈l,x∈m)->l.length<=m.length
 |[],_,_,_=>cg _
 |a::l,m,c,h=>by
  have⟨d,e⟩:=aL.mp c;have:=kS (m:=m.erase a) e λx b=>(List.mem_erase_of_ne (by rintro rfl;exact d b)).mpr (h x (.tail _ b))
  grind
section
variable {i:Int}
def AA(a:l.length<=100000)(q:K (.lst (l.take (clipAt l.length i))) J):oJ (.lst l) .none (.int i) .none J K:=Dy (lo:=none) (hi:=some i) (st:=none) rfl rfl rfl (by simp) (by simp) a (by rw[QL];exact q)
def OC(a:l.length<=100000)(q:K (.lst (l.drop (clipAt l.length i))) J):oJ (.lst l) (.int i) .none .none J K:=Dy (lo:=some i) (hi:=none) (st:=none) rfl rfl rfl (by simp) (by simp) a (by rw[pick_from];exact q)
def wt(a:l.length<=100000)(q:K (.lst l.reverse) J):oJ (.lst l) .none .none (.int (-1)) J K:=Dy (lo:=none) (hi:=none) (st:=some (-1)) rfl rfl rfl (by simp) (by simp) a (by rw[Lc];exact q)
def oP{a b:jy}(h:a.length+b.length<=100000):LZ .Add (.lst a) (.lst b)=some (.lst (a++b)):=aB h
end
def pT (bits:Int)(k:Nat):aY:=decide (Builtin.bitAnd (bits.fdiv (2 ^ k)) 1=1)
def j0 (c_:jK)(bits:Int):jK:=(List.range c_.length).flatMap λk=>if pT bits k=true then c_[k]?.toList else[]
def mD(c_:jK)(bits:Int):(j0 c_ bits).length<=c_.length:=by have:=li (g:=λk=>if pT bits k=true then c_[k]?.toList else[]) (λk=>by split;cases c_[k]?<;>simp;simp) (List.range c_.length);rwa [gD]at this
def lz(h:s∈j0 c_ bits):s∈c_:=by
 have⟨k,_,a⟩:=ee.mp h;split at a
 .rw[Option.mem_toList]at a;exact bv a
 .cases a
def qG(e:1<=n)(i:Fx L)(m:c_.length<=100)(k:K (.lst ((j0 c_ bits).map .str)) J):(lv L n).fn 842 [.lst (c_.map .str),.int bits] J K X:=by
 refine j6 e i (I:=H.sN) (Y:=[("bits",.int bits),("names",.lst (c_.map .str))]) rfl rfl λn e=>?_;have o:(c_.map AV.str).length=c_.length:=ah ..;tm_at"w";tm_at"call";tm_at"call";refine Od (by omega) ?_;rw[show((c_.map AV.str).length:Int).toNat=c_.length by omega,QK];refine j_ _ (λk=>if pT bits k=true then c_[k]?.toList.map AV.str else[]) (λY g_=>g_=J/\VL Y "names" (.lst (c_.map .str))/\VL Y "bits" (.int bits)) _ _ _ _ ?_ ⟨rfl,rfl,rfl⟩ ?_ ?_
 .have:=li (g:=λk=>if pT bits k=true then c_[k]?.toList.map AV.str else[]) (λk=>by split;cases c_[k]?<;>simp;simp) (List.range c_.length);rw[gD]at this;show 0+_<=_;omega
 .rintro j c Y g_ f_ p ⟨rfl,f,h⟩ d b;have c:=dc.mp c
  conv=>whnf
  tm_at"go";refine yP λv q=>?_;have l:pT bits j=v:=by unfold pT;cases v<;>simp_all
  rw[l]at b d;cases v
  .rw[aA (by decide),bh]at b;tm_at"go";exact b _ _ ⟨rfl,f,h⟩
  .rw[aB rfl,da c]at b d;tm_at"go";refine jO (ul (a:=.str c_[j]) (by rw[bP,da c];rfl)) ?_;refine XT (by simp at d;omega) (b _ _ ⟨rfl,f,h⟩)
 .rintro r g_ ⟨rfl,_⟩;have:((List.range c_.length).flatMap λk=>if pT bits k=true then c_[k]?.toList.map AV.str else[])=(j0 c_ bits).map .str:=by unfold j0;rw[hK];congr 1;funext k;split<;>rfl
  rw[this];exact k
def ne_str{a b:Str}(c:lm a)(d:lm b)(h:∀v,(v=true↔a≠b)->K (.bool v) J):lF P iK .NotEq (.str a) (.str b) J K X:=nE (sQ c) (sQ d) (by show 0<=20;omega) λv e=>h v (by rw[e];simp)
def eq_str{a b:Str}(c:lm a)(d:lm b)(h:∀v,(v=true↔a=b)->K (.bool v) J):lF P iK .Eq (.str a) (.str b) J K X:=u9 (sQ c) (sQ d) (by show 0<=20;omega) λv e=>h v (by rw[e];simp)
def qH{a:Str}{l:jK}(b:lm a)(c:∀x∈l,lm x)(h:∀v,(v=true↔a∈l)->K (.bool v) J):lF P iK .In (.str a) (.lst (l.map .str)) J K X:=Dw (sQ b) (ve c) (by show 0<=20;omega) λv d=>h v (by rw[d,mem_map_str])
def FW{a:Str}{l:jK}(b:lm a)(c:∀x∈l,lm x)(h:∀v,(v=true↔a∉l)->K (.bool v) J):lF P iK .NotIn (.str a) (.lst (l.map .str)) J K X:=Jl (sQ b) (ve c) (by show 0<=20;omega) λv d=>h v (by rw[d,mem_map_str])
def AB(p:Str->Prop)[DecidablePred p](l:jK):l.flatMap (λx=>if p x then[AV.str x]else[])=(l.filter λx=>decide (p x)).map .str:=DA p AV.str l
def lS (c_:jK)(name:Str)(i:Int):jK:=rO (c_.filter λx=>decide (x≠name)) i name
def FX(b:1<=n)(e:Fx L){i:Int}(m:c_.length<=100)(f:∀x∈c_,lm x)(h:lm name)(k:K (.lst ((lS c_ name i).map .str)) J):(lv L n).fn 847 [.lst (c_.map .str),.str name,.int i] J K X:=by
 refine j6 b e (I:=H.B2) (Y:=[("at",.int i),("name",.str name),("names",.lst (c_.map .str))]) rfl rfl λn b=>?_;tm_at"w";refine j_ _ (λx=>if x≠name then[AV.str x]else[]) (λY g_=>g_=J/\VL Y "name" (.str name)) _ _ _ _ ?_ ⟨rfl,rfl⟩ ?_ ?_
 .have:=li (g:=λx=>if x≠name then[AV.str x]else[]) (λk=>by split<;>simp) c_;show 0+_<=_;omega
 .rintro x j Y g_ f_ o ⟨rfl,c⟩ l a
  conv=>whnf
  tm_at"go";refine ne_str (f x j) h λv d=>?_;cases v
  .rw[aA (by simpa using d)]at a;rw[bh]at a;tm_at"go";exact a _ _ ⟨rfl,c⟩
  .rw[aB (d.mp rfl)]at a l;tm_at"go";exact a _ _ ⟨rfl,c⟩
 .rintro p g_ ⟨rfl,_⟩;rw[AB (λx=>x≠name),aX];have q:((c_.filter λx=>decide (x≠name)).map AV.str).length<=100:=by grind
  conv=>whnf
  tm_at"go";apply AA (by omega);tm_at"go";refine ly (oP ?_) ?_
  .grind
  tm_at"go";apply OC (by omega);refine ly (oP ?_) ?_
  .grind
  have:(((c_.filter λx=>decide (x≠name)).map AV.str).take (clipAt ((c_.filter λx=>decide (x≠name)).map AV.str).length i)++[AV.str name])++((c_.filter λx=>decide (x≠name)).map AV.str).drop (clipAt ((c_.filter λx=>decide (x≠name)).map AV.str).length i)=(lS c_ name i).map .str:=by unfold lS;rw[<-B_,cw];rfl
  rw[this];exact k
def jM (found more:jK):jK:=more.foldl (λf_ x=>if x∈f_ then f_ else f_++[x]) found
def ll{s:Str}:∀{more b:jK},s∈jM b more↔s∈b∨s∈more
 |[],_=>by simp[jM]
 |a::l,b=>by
  show s∈jM (if a∈b then b else b++[a]) l↔_;rw[ll];split
  .grind
  .simp[or_assoc]
def sB:∀{more b:jK},b.Nodup->(jM b more).Nodup
 |[],_,h=>h
 |a::l,b,h=>by
  show(jM (if a∈b then b else b++[a]) l).Nodup;apply sB;split
  .exact h
  .grind
def pB(q:1<=n)(t:Fx L){more:jK}(C:c_.length<=100)(D:more.length<=100)(u:∀x∈c_,lm x)(w:∀x∈more,lm x)(k:∀g_,jp [] J g_->K (.lst ((jM c_ more).map .str)) g_):(lv L n).fn 854 [.lst (c_.map .str),.lst (more.map .str)] J K X:=by
 refine j6 q t (I:=H.qE) (Y:=[("more",.lst (more.map .str)),("names",.lst (c_.map .str))]) rfl rfl λn q=>?_;tm_at"w";apply Ol (by rw[ah];omega);tm_at"go";refine nN (λl Y g_=>∃m f,l=m.map AV.str/\jM f m=jM c_ more/\(∀x∈m,lm x)/\(∀x∈f,lm x)/\f.length+m.length<=200/\VL Y "found" (.ref J.length)/\jp [] J g_/\g_[J.length]?=some (.list (f.map .str))) (λ_ _ _ _=>trivial) ?_ ?_ _ _ _ ⟨more,c_,rfl,rfl,w,u,by omega,rfl,jp.app ..,mH⟩
 .rintro a l Y g_ E ⟨m,f,e,h,c,i,r,j,d,b⟩ s _ _;cases m with
  |nil=>cases e
  |cons x m=>
  injection e with z A;subst z A
  conv=>whnf
  tm_at"go";refine xh tT rfl (oO ?_)
  conv=>whnf
  apply ly (xi b);have⟨v,B,o⟩:=wg (sQ (c x (.head _))) (ve i) (by show 0<=20;omega);rw[mem_map_str]at o;apply jO B;have g:jM (if x∈f then f else f++[x]) m=jM c_ more:=h;cases v
  .rw[aA (by simpa using o)]at g;tm_at"go";apply pj b (by rw[ah];omega);tm_at"w";refine eg (s _ _ ?_);refine⟨m,f++[x],rfl,g,λy p=>c y (.tail _ p),?_,?_,j,?_,?_⟩
   .grind
   .grind
   .exact d.fresh (jp.put (M:=[J.length]) (.head _)) (by simp)
   .rw[bB];exact k_ b
  .rw[aB (o.mp rfl)]at g;tm_at"go";refine eg (s _ _ ?_);refine⟨m,f,rfl,g,λy p=>c y (.tail _ p),i,?_,j,d,b⟩;rw[aI]at r;omega
 .rintro Y g_ ⟨m,f,e,h,c,i,r,j,d,b⟩;cases m with
  |cons x m=>cases e
  |nil=>
  conv=>whnf
  tm_at"go";apply jO (xi b);cases h;exact k _ (d.fresh (jp.put (M:=[J.length]) (.head _)) (by simp))
inductive Seq:AV->jy->Prop
 |lst (l:jy):Seq (.lst l) l
 |tup (l:jy):Seq (.tup l) l
def FY{a:AV}(h:Seq b l):qN a b=qN a (.lst l):=by
 cases h with
 |lst=>rfl
 |tup=>unfold qN;rw[show AV.pd (.tup l)=(AV.A1 l).map .tuple by simp only[AV.pd],show AV.pd (.lst l)=(AV.A1 l).map .list by simp only[AV.pd]];generalize a.pd=u;cases u<;>cases AV.A1 l<;>rfl
def Ut{a:Str}{l:jK}(c:Seq b (l.map .str))(d:lm a)(f:∀x∈l,lm x)(h:∀v,(v=true↔a∈l)->K (.bool v) J):lF P iK .In (.str a) b J K X:=by have⟨v,e,g⟩:=wg (sQ d) (ve f) (by show 0<=20;omega);unfold lF;exact ly ((FY c).trans e) (h v (by rw[g,mem_map_str]))
def QM{a:Str}{l:jK}(c:Seq b (l.map .str))(d:lm a)(f:∀x∈l,lm x)(h:∀v,(v=true↔a∉l)->K (.bool v) J):lF P iK .NotIn (.str a) b J K X:=by have⟨v,e,g⟩:=wg (sQ d) (ve f) (by show 0<=20;omega);unfold lF;exact ly ((FY c).trans e) (h (!v) (by rw[mem_map_str]at g;cases v<;>simp_all))
def k7 (c_ there:jK):jK:=(c_.filter λx=>decide (x∈there))++(c_.filter λx=>decide (x∉there)).take 1
def DC(h:1<=n)(m:Fx L)(r:c_.length<=100)(i:Seq b (there.map .str))(j:∀x∈c_,lm x)(l:∀x∈there,lm x)(k:K (.lst ((k7 c_ there).map .str)) J):(lv L n).fn 859 [.lst (c_.map .str),b] J K X:=by
 refine j6 h m (I:=H.xZ) (Y:=[("there",b),("names",.lst (c_.map .str))]) rfl rfl λn h=>?_;tm_at"w";refine j_ _ (λx=>if x∈there then[AV.str x]else[]) (λY g_=>g_=J/\VL Y "there" b) _ _ _ _ ?_ ⟨rfl,rfl⟩ ?_ ?_
 .have:=li (g:=λx=>if x∈there then[AV.str x]else[]) (λk=>by split<;>simp) c_;show 0+_<=_;omega
 .rintro x e Y g_ f_ o ⟨rfl,c⟩ f a;tm_at"w";refine Ut i (j x e) l λv d=>?_;cases v
  .rw[aA (by simpa using d),bh]at a;tm_at"go";exact a _ _ ⟨rfl,c⟩
  .rw[aB (d.mp rfl)]at a f;tm_at"go";exact a _ _ ⟨rfl,c⟩
 .rintro p g_ ⟨rfl,_⟩;rw[AB (λx=>x∈there),aX];tm_at"w";refine j_ _ (λx=>if x∉there then[AV.str x]else[]) (λY q=>q=g_/\VL Y "there" b) _ _ _ _ ?_ ⟨rfl,rfl⟩ ?_ ?_
  .have:=li (g:=λx=>if x∉there then[AV.str x]else[]) (λk=>by split<;>simp) c_;show 0+_<=_;omega
  .rintro x e Y g_ f_ o ⟨rfl,c⟩ f a;tm_at"w";refine QM i (j x e) l λv d=>?_;cases v
   .rw[aA (by simpa using d),bh]at a;tm_at"go";exact a _ _ ⟨rfl,c⟩
   .rw[aB (d.mp rfl)]at a f;tm_at"go";exact a _ _ ⟨rfl,c⟩
  .rintro p g_ ⟨rfl,_⟩;rw[AB (λx=>x∉there),aX];have s:=bV (λx=>decide (x∈there)) c_;have t:=bV (λx=>decide (x∉there)) c_;tm_at"w";apply AA (by rw[ah];omega);refine ly (oP ?_) ?_
   .grind
   have:(c_.filter λx=>decide (x∈there)).map AV.str++((c_.filter λx=>decide (x∉there)).map AV.str).take (clipAt ((c_.filter λx=>decide (x∉there)).map AV.str).length 1)=(k7 c_ there).map .str:=by
    unfold k7;rw[bB,List.map_take,show(1:Int)=((1:Nat):Int)from rfl,iB]
    grind
   rw[this];exact k
def kN (os ps:jK)(xs:kd):AV:=.lst [.lst (os.map .str),.lst (ps.map .str),.lst (xs.map jz)]
def t9 (ps:jK)(xs:kd)(o:Str):AV:=.tup (ps.map λp=>.bool (decide ((o,p)∈xs)))
def rowsOf(os ps:jK)(xs:kd):jy:=os.map (t9 ps xs)
def AC{x:Str×Str}{l:kd}(a:lm x.1)(b:lm x.2)(c:∀x∈l,lm x.1/\lm x.2)(h:K (.bool (decide (x∈l))) J):lF P iK .In (jz x) (.lst (l.map jz)) J K X:=
 Dw (tV a b) (xq c) (Ax x) λv d=>by
  rw[wq]at d
  grind
def Js(c:1<=n)(d:Fx L)(u:os.length<=100)(e:ps.length<=100)(f:∀x∈os,lm x)(h:∀x∈ps,lm x)(i:∀x∈xs,lm x.1/\lm x.2)(k:K (.lst (rowsOf os ps xs)) J):(lv L n).fn 883 [kN os ps xs] J K X:=by
 refine j6 c d (I:=H.B4) (Y:=[("state",kN os ps xs)]) rfl rfl λn c=>?_;tm_at"w";refine j_ AV.str (λo=>[t9 ps xs o]) (λY g_=>g_=J/\VL Y "state" (kN os ps xs)) _ _ _ _ ?_ ⟨rfl,rfl⟩ ?_ ?_
 .have:=li (g:=λo=>[t9 ps xs o]) (λk=>by simp) os;show 0+_<=_;omega
 .rintro o j Y g_ f_ l ⟨rfl,a⟩ m b;tm_at"w";refine j_ AV.str (λp=>[.bool (decide ((o,p)∈xs))]) (λY q=>q=g_/\VL Y "state" (kN os ps xs)/\VL Y "o" (.str o)) _ _ _ _ ?_ ⟨rfl,Su (rM rfl a) rfl,rfl⟩ ?_ ?_
  .have:=li (g:=λp=>[AV.bool (decide ((o,p)∈xs))]) (λk=>by simp) ps;show 0+_<=_;omega
  .rintro p r Y g_ f_ l ⟨rfl,a,s⟩ m b;tm_at"w";apply AC (x:=(o,p)) (f o j) (h p r) i;tm_at"w";exact b _ _ ⟨rfl,a,s⟩
  .rintro t g_ ⟨rfl,_⟩;rw[kW,aX];have w:(ps.map λp=>AV.bool (decide ((o,p)∈xs))).length<=100:=by rw[ah];exact e
   tm_at"w";tm_at"call";exact b _ _ ⟨rfl,a⟩
 .rintro t g_ ⟨rfl,_⟩;rw[kW,aX];exact k
section
variable {a:AV}{f:Nat}
def po(b:iK=true)(s:J[k]?=some (.set els))(c:qW a=some e)(d:∀f∈els,f.jJ=e.jJ)(q:∀v,(v=true↔e∈els)->K (.bool v) J):lF (N9.par L).toPar iK .In a (.ref k) J K X:=FH tT b (oO (ph (As s) (Ok s c d (q _ (by simp)))))
def x9(b:iK=true)(s:J[k]?=some (.set els))(c:qW a=some e)(d:∀f∈els,f.jJ=e.jJ)(q:∀v,(v=true↔e∉els)->K (.bool v) J):lF (N9.par L).toPar iK .NotIn a (.ref k) J K X:=xh tT b (oO (ph (As s) (Ok s c d (q _ (by simp)))))
def x_(b:iK=true)(s:J[k]?=some (.mP els o))(c:qW a=some e)(d:∀f∈els,f.jJ=e.jJ)(q:∀v,(v=true↔e∈els)->K (.bool v) J):lF (N9.par L).toPar iK .In a (.ref k) J K X:=FH tT b (oO (ph (FI s) (QD s c d (q _ (by simp)))))
def oQ(c:iK=true)(b:J[k]?=some (.inst C dl))(d:J[dl]?=some (.dict m))(e:lq L.Kf C "__contains__"=some f)(q:N9.fn f [.ref k,a] J (q8 λv g_=>K (.bool (!v)) g_) X):lF (N9.par L).toPar iK .NotIn a (.ref k) J K X:=xh tT c (oO (ph (FJ b) (QE b d e q)))
def mB(a:iK=true)(c:J[k]?=some (.inst C dl))(d:J[dl]?=some (.dict m))(e:lq L.Kf C "__eq__"=some f)(g:Hr J b=some tb)(h:notFirst L.Kf C tb=true)(q:N9.fn f [.ref k,b] J (q8 λv g_=>K (.bool v) g_) X):lF (N9.par L).toPar iK .Eq (.ref k) b J K X:=FG Ar a (oO (FN c d rfl e g h q))
def qI(a:iK=true)(c:J[k]?=some (.inst C dl))(d:J[dl]?=some (.dict m))(e:lq L.Kf C "__ne__"=some f)(g:Hr J b=some tb)(h:notFirst L.Kf C tb=true)(q:N9.fn f [.ref k,b] J (q8 λv g_=>K (.bool v) g_) X):lF (N9.par L).toPar iK .NotEq (.ref k) b J K X:=Of Ar a (oO (FN c d rfl e g h q))
def Ic{j:Nat}(a:iK=true)(b:J[k]?=some (.set els))(c:J[j]?=some (.set k8))(d:∀f∈els,f.jJ=false)(e:∀f∈k8,f.jJ=false)(q:∀v,(v=true↔els.Perm k8)->K (.bool v) J):lF (N9.par L).toPar iK .Eq (.ref k) (.ref j) J K X:=FG Ar a (oO (Uf b c d e q))
def FZ(h:J[k]?=some (.list l)):lG J k=none:=by unfold lG;rw[h]
def call_len_list(h:J[k]?=some (.list l))(a:l.length<=100000)(q:K (.int l.length) J):ny L fn pY lam (.val (.builtin "len")) [.ref k] J K X:=by refine kX (ph (FZ h) ?_);refine⟨rfl,?_⟩;rw[h];exact⟨a,q⟩
def lT(a:J[k]?=some (.inst C dl))(b:J[dl]?=some (.dict m))(c:lq L.Kf C "__len__"=some f)(q:fn f [.ref k] J (Hz λn g_=>K (.int n) g_) X):ny L fn pY lam (.val (.builtin "len")) [.ref k] J K X:=kX (ly (k9 a b) (jO c q))
def OD(h:J[k]?=some (.list l))(q:K (.ref J.length) (J++[.iter k 0])):ny L fn pY lam (.val (.builtin "iter")) [.ref k] J K X:=kX (jO (xi h) q)
def ki(h:fnIn L.Kf f=true)(q:fn f l J K X):ny L fn pY lam (.val (.ref f)) l J K X:=by apply kX;show(if fnIn L.Kf f=true then _ else _);rw[aB h];exact q
def nJ(h:fnIn L.Kf C=false)(a:AW L.Kf C=some f)(q:fn f (.ref (J.length+1)::l) (J++[.dict [],.inst C J.length]) (Gy λg_=>K (.ref (J.length+1)) g_) X):ny L fn pY lam (.val (.ref C)) l J K X:=by apply kX;show(if fnIn L.Kf C=true then _ else _);rw[aA (by rw[h];simp)];exact jO a q
def OE(q:wN .setAdd k l J K X):ny L fn pY lam (.bm .setAdd k) l J K X:=kX q
def Le(a:J[k]?=some (.inst C dl))(b:J[dl]?=some (.dict m))(q:K (.val (.ref C)) J):ny L fn pY lam (.val (.type "type")) [.ref k] J K X:=kX (jO (k9 a b) q)
def yz{fl:Nat}(a:J[k]?=some (.inst C dl))(b:J[dl]?=some (.dict m))(d:lq L.Kf C "__len__"=some fl)(e:lq L.Kf C "__iter__"=some f)(q:fn f [.ref k] J (λr g_=>match r with
   |.ref j=>(match g_[j]? with
    |some (.iter i 0)=>(match g_[i]? with
     |some (.list l)=>l.length<=100000/\lG (g_.set j .dead) k=some C/\fn fl [.ref k] (g_.set j .dead) (Hz λn c=>0<=n/\n<=100000/\(c[i]?=some (.list l)/\l.length<=100000/\K (.tup l) c)) wW
     |_=>False)
    |_=>False)
   |_=>False) wW):ny L fn pY lam (.val (.type "tuple")) [.ref k] J K X:=
 kX (jO (k9 a b) (jO d (vd a b e q)))
def uG(a:J[k]?=some (.inst C dl))(b:J[dl]?=some (.dict m))(c:isIn L.Kf (.ref C) D=true)(q:K (.bool true) J):ny L fn pY lam (.val (.builtin "isinstance")) [.ref k,.val (.ref D)] J K X:=by refine kX (jO (k9 a b) ?_);rw[aB c];exact q
def uH(a:J[k]?=some (.inst C dl))(c:J[dl]?=some (.dict m))(d:isIn L.Kf (.ref C) D=false)(e:C5 L.Kf D=some f)(q:fn f [.val (.ref D),.ref k] J (q8 λb g_=>K (.bool b) g_) X):ny L fn pY lam (.val (.builtin "isinstance")) [.ref k,.val (.ref D)] J K X:=by refine kX (jO (k9 a c) ?_);rw[aA (by rw[d];simp)];exact jO e q
def yA(a:isNotIn L.Kf "tuple" D=true)(q:K (.bool false) J):ny L fn pY lam (.val (.builtin "isinstance")) [.tup l,.val (.ref D)] J K X:=kX ⟨a,q⟩
def sS{i:Int}(q:K (.bool true) J):ny L fn pY lam (.val (.builtin "isinstance")) [.int i,.val (.type "int")] J K X:=kX ⟨rfl,q⟩
def tX(q:K (.bool false) J):ny L fn pY lam (.val (.builtin "isinstance")) [.tup l,.val (.type "int")] J K X:=kX ⟨rfl,q⟩
end
def AD(h:lm s):CW s:=by
 have:∀s∈nI,(reprText s).length<=1000/\(reprText s++Str.ofString " is not in list").length<=1000:=by tm_at"d"
 exact this s h
variable {a:OF}
structure OF where
 u:Nat
 du:Nat
 su:Nat
 lu:Nat
structure lD (J:jW) (a:OF) (ss:jK):Prop where
 i:J[a.u]?=some (.inst 565 a.du)
 d:J[a.du]?=some (.dict [("_seen",.ref a.su),("_items",.ref a.lu)])
 s:∃els,J[a.su]?=some (.set els)/\els.Nodup/\∀e,e∈els↔∃x∈ss,e=.one x
 l:J[a.lu]?=some (.list (ss.map .str))
 nd:ss.Nodup
 ok:∀x∈ss,lm x
def lD.len(h:lD J a ss):ss.length<=10:=kS (m:=nI) h.nd h.ok
def wu(h:els.Nodup)(m:∀e,e∈els↔∃x∈ss,e=.one x):els.length<=ss.length:=by
 have:=kS (m:=ss.map El.one) h λe a=>by grind
 rwa [ah]at this
def ni(m:∀e,e∈els↔∃x∈ss,e=.one x):∀f∈els,f.jJ=(El.one z).jJ:=by intro f a;obtain⟨x,b,rfl⟩:=(m f).mp a;rfl
def lD.keep(h:lD J a ss)(b:jp M J g_)(m:∀k∈M,k≠a.u/\k≠a.du/\k≠a.su/\k≠a.lu):lD g_ a ss:=by have⟨i,d,⟨els,s,c,e⟩,l,f,ok⟩:=h;exact⟨b.get (λq=>(m _ q).1 rfl) i,b.get (λq=>(m _ q).2.1 rfl) d,⟨els,b.get (λq=>(m _ q).2.2.1 rfl) s,c,e⟩,b.get (λq=>(m _ q).2.2.2 rfl) l,f,ok⟩
def lD.j7(h:lD J a ss)(b:jp [] J g_):lD g_ a ss:=h.keep b (by simp)
def lD.ne(h:lD J a ss):a.u≠a.du/\a.u≠a.su/\a.u≠a.lu/\a.du≠a.su/\a.du≠a.lu/\a.su≠a.lu:=by
 have⟨i,d,⟨els,s,b,c⟩,l,f,ok⟩:=h;refine⟨?_,?_,?_,?_,?_,?_⟩
 .intro e;rw[e,d]at i;cases i
 .intro e;rw[e,s]at i;cases i
 .intro e;rw[e,l]at i;cases i
 .intro e;rw[e,s]at d;cases d
 .intro e;rw[e,l]at d;cases d
 .intro e;rw[e,l]at s;cases s
def qJ(m:∀e,e∈els↔∃x∈ss,e=.one x):El.one z∈els↔z∈ss:=by
 rw[m];constructor
 .rintro⟨x,a,e⟩;cases e;exact a
 .exact λh=>⟨z,h,rfl⟩
def rg(b:1<=n)(c:Fx L)(h:lD J a ss)(k:K (.int ss.length) J):(lv L n).fn 506 [.ref a.u] J K X:=by refine j6 b c (I:=H.R2) (Y:=[("self",.ref a.u)]) rfl rfl λn b=>?_;have e:=h.len;obtain⟨i,d,⟨els,s,f,g⟩,l,j,ok⟩:=h;tm_at"w";apply call_len_list l (by rw[ah];omega);rw[ah];exact k
def pJ(b:1<=n)(e:Fx L)(h:lD J a ss)(k:∀v,(v=true↔x∈ss)->K (.bool v) J):(lv L n).fn 513 [.ref a.u,.str x] J K X:=by refine j6 b e (I:=H.R3) (Y:=[("item",.str x),("self",.ref a.u)]) rfl rfl λn b=>?_;obtain⟨i,d,⟨els,s,g,c⟩,l,j,ok⟩:=h;tm_at"w";refine po rfl s rfl (ni c) λv f=>?_;exact k v (by rw[f,qJ c])
def DD(b:1<=n)(c:Fx L)(h:lD J a ss)(k:K (.ref J.length) (J++[.iter a.lu 0])):(lv L n).fn 499 [.ref a.u] J K X:=by refine j6 b c (I:=H.R0) (Y:=[("self",.ref a.u)]) rfl rfl λn b=>?_;obtain⟨i,d,⟨els,s,e,f⟩,l,g,ok⟩:=h;tm_at"w";exact OD l k
def tY(j:1<=n)(o:Fx L)(h:lD J a ss)(m:lm x)(k:∀g_,jp [a.su,a.lu] J g_->lD g_ a (if x∈ss then ss else ss++[x])->K .none g_):(lv L n).fn 527 [.ref a.u,.str x] J K X:=by
 refine j6 j o (I:=H.R4) (Y:=[("item",.str x),("self",.ref a.u)]) rfl rfl λn j=>?_;have y:=h.len;have b:=h.ne;have p:=h;obtain⟨i,d,⟨els,s,q,f⟩,l,z,ok⟩:=h;tm_at"w";refine x9 rfl s rfl (ni f) λv g=>?_;rw[qJ f]at g;cases v
 .have m:x∈ss:=by simpa using g
  tm_at"w";apply k _ (jp.refl _ _);rw[aB m];exact p
 .have r:=g.mp rfl;tm_at"w";apply xj s rfl (ni f) (by simp) (by have:=wu q f;omega);have t:=kn (k:=a.su) (c:=.set (lj els (.one x))) i (bF b.2.1);have w:=kn (k:=a.su) (c:=.set (lj els (.one x))) d (bF b.2.2.2.1);have l':=kn (k:=a.su) (c:=.set (lj els (.one x))) l b.2.2.2.2.2;tm_at"w";apply pj l' (by rw[ah];omega);tm_at"w";apply k _ ((jp.put (.head _)).trans (jp.put (.tail _ (.head _))));rw[aA r];refine⟨kn t (bF b.2.2.1),kn w (bF b.2.2.2.2.1),⟨lj els (.one x),kn (k_ s) (bF b.2.2.2.2.2),?_,?_⟩,?_,?_,?_⟩
  .unfold lj
   grind
  .intro e;rw[nt,f];constructor
   .grind
   .grind
  .rw[bB];exact k_ l'
  .grind
  .grind
def Id(g:1<=n)(q:Fx L)(h:lD J a ss)(f:x∈ss)(k:∀g_,jp [a.su,a.lu] J g_->lD g_ a (ss.filter λy=>decide (y≠x))->K .none g_):(lv L n).fn 534 [.ref a.u,.str x] J K X:=by
 refine j6 g q (I:=H.R5) (Y:=[("item",.str x),("self",.ref a.u)]) rfl rfl λn g=>?_;have A:=h.len;have b:=h.ne;have B:=h;obtain⟨i,d,⟨els,s,r,e⟩,l,m,ok⟩:=h;tm_at"w";refine po rfl s rfl (ni e) λv o=>?_;rw[qJ e]at o;cases v
 .exact absurd (o.mpr f) (by simp)
 have⟨j,p⟩:=FV f;tm_at"w";apply uk s rfl (ni e) ((qJ e).mpr f);have t:=kn (k:=a.su) (c:=.set (els.erase (.one x))) i (bF b.2.1);have w:=kn (k:=a.su) (c:=.set (els.erase (.one x))) d (bF b.2.2.2.1);have l':=kn (k:=a.su) (c:=.set (els.erase (.one x))) l b.2.2.2.2.2;tm_at"w";apply H4 l' (by omega) p;tm_at"w";apply k _ ((jp.put (.head _)).trans (jp.put (.tail _ (.head _))));refine⟨kn t (bF b.2.2.1),kn w (bF b.2.2.2.2.1),⟨els.erase (.one x),kn (k_ s) (bF b.2.2.2.2.2),r.erase _,?_⟩,?_,m.filter _,?_⟩
 .grind
 .rw[sR m p];exact k_ l'
 .intro y z;exact ok y (aD.mp z).1
def Cd(c:2<=n)(b:Fx L)(h:lD J a ss)(e:x∈ss)(k:∀g_,jp [a.su,a.lu] J g_->lD g_ a (ss.filter λy=>decide (y≠x))->K .none g_):(lv L n).fn 403 [.ref a.u,.str x] J K X:=by
 refine j6 c b (I:=H.NY) (Y:=[("value",.str x),("self",.ref a.u)]) rfl rfl λn c=>?_;obtain⟨i,d,-⟩:=id h;tm_at"w";apply oQ rfl i d (by tm_at"fx");refine pJ (by omega) b h λv f=>?_;cases v
 .exact absurd (f.mpr e) (by simp)
 tm_at"w";refine Id (by omega) b h e λg_ g h'=>?_;tm_at"w";exact k g_ g h'
def ya(b:2<=n)(c:Fx L)(h:lD J a ss)(e:x∉ss)(k:X ⟨"KeyError",true⟩ J):(lv L n).fn 403 [.ref a.u,.str x] J K X:=by
 refine j6 b c (I:=H.NY) (Y:=[("value",.str x),("self",.ref a.u)]) rfl rfl λn b=>?_;obtain⟨i,d,-⟩:=id h;tm_at"w";apply oQ rfl i d (by tm_at"fx");refine pJ (by omega) c h λv f=>?_;cases v
 .tm_at"w";exact k
 .exact absurd (f.mp rfl) e
def AE(B:1<=n)(M:Fx L)(h:lD J a ss)(N:lm x)(o:lm y)(O:x∈ss->y∉ss->∀g_,jp [a.su,a.lu] J g_->lD g_ a (ss.map λz=>if z=x then y else z)->K .none g_)(P:y∈ss∨x∉ss->X ⟨"ValueError",true⟩ J):(lv L n).fn 541 [.ref a.u,.str x,.str y] J K X:=by
 refine j6 B M (I:=H.R6) (Y:=[("new_item",.str y),("item",.str x),("self",.ref a.u)]) rfl rfl λn B=>?_;have hl:=h.len;have b:=h.ne;have h0:=h;obtain⟨i,d,⟨els,s,C,g⟩,l,p,ok⟩:=h;tm_at"w";refine po rfl s rfl (ni g) λv t=>?_;rw[qJ g]at t;cases v
 .have m:y∉ss:=by simpa using t
  tm_at"w";refine FM l (by omega) (AD N) (λj r=>?_) λr=>?_
  .have D:=bv (tW r);have Q:=(aC.mp (tW r)).1;have R:=kn (k:=a.su) (c:=.set (els.erase (.one x))) i (bF b.2.1);have S:=kn (k:=a.su) (c:=.set (els.erase (.one x))) d (bF b.2.2.2.1);have l':=kn (k:=a.su) (c:=.set (els.erase (.one x))) l b.2.2.2.2.2;have E:=k_ (c:=.set (els.erase (.one x))) s;have T:∀f∈els.erase (.one x),f.jJ=(El.one y).jJ:=λf U=>ni g f (fC U);have m1:El.one y∉els.erase (.one x):=λq=>m ((qJ g).mp (fC q));tm_at"w";apply uk s rfl (ni g) ((qJ g).mpr D);tm_at"w";apply xj E rfl T (by simp) (by have:=wu C g;have:=List.length_erase_le (a:=El.one x) (l:=els);omega);have V:=kn (k:=a.su) (c:=.set (lj (els.erase (.one x)) (.one y))) R (bF b.2.1);have d2:=kn (k:=a.su) (c:=.set (lj (els.erase (.one x)) (.one y))) S (bF b.2.2.2.1);have W:=kn (k:=a.su) (c:=.set (lj (els.erase (.one x)) (.one y))) l' b.2.2.2.2.2;tm_at"w";apply K_ W (by omega) (by rw[ah];omega) (by rw[ah];omega);tm_at"w";apply O D m _ (((jp.put (.head _)).trans (jp.put (.head _))).trans (jp.put (.tail _ (.head _))));refine⟨kn V (bF b.2.2.1),kn d2 (bF b.2.2.2.2.1),⟨lj (els.erase (.one x)) (.one y),kn (k_ E) (bF b.2.2.2.2.2),?_,?_⟩,?_,?_,?_⟩
   .unfold lj
    grind
   .intro e;rw[nt,C.mem_erase_iff,g];constructor
    .grind
    .grind
   .rw[<-Ib p r,List.map_set]
    grind
   .have:∀{l:jK},l.Nodup->y∉l->(l.map λz=>if z=x then y else z).Nodup:=by
     intro l;induction l with
     |nil=>intro _ _;exact .nil
     |cons c l Z=>
      intro p o;have⟨F,n2⟩:=aL.mp p;refine aL.mpr ⟨?_,Z n2 λq=>o (.tail _ q)⟩;intro q;have⟨w,G,e⟩:=aM.mp q;dsimp only at e;by_cases q1:w=x<;>by_cases A:c=x
      .exact F (A.trans q1.symm▸G)
      .rw[aB q1,aA A]at e;exact o (e▸.head _)
      .grind
      .rw[aA q1,aA A]at e;exact F (e▸G)
    exact this p m
   .grind
  .grind
 .tm_at"w";refine⟨(AD o).1,?_⟩;tm_at"w";intro msg;tm_at"w";exact P (.inl (t.mp rfl))
def Jt(o:1<=n)(A:Fx L){i:Int}(h:lD J a ss)(B:lm x)(C:-1000<=i)(D:i<=1000)(p:x∈ss->∀g_,jp [a.su,a.lu] J g_->lD g_ a (lS ss x i)->K .none g_)(W:x∉ss->X ⟨"ValueError",true⟩ J):(lv L n).fn 548 [.ref a.u,.str x,.int i] J K X:=by
 refine j6 o A (I:=H.R7) (Y:=[("new_index",.int i),("item",.str x),("self",.ref a.u)]) rfl rfl λn o=>?_;have E:=h.len;have b:=h.ne;have F:=h;obtain⟨hi,d,⟨els,s,G,Z⟩,l,r,ok⟩:=h;tm_at"w";refine FM l (by omega) (AD B) (λj g=>?_) λg=>?_
 .have f:=tW g;have t:=bv f;have M:=(aC.mp f).1;have w:lS ss x i=rO (ss.eraseIdx j) i x:=by unfold lS;rw[<-sR r g]
  tm_at"w";refine um λv N=>?_;cases v
  .have O:(j:Int)=i:=by simpa using N
   tm_at"w";apply p t _ (jp.refl _ _);rw[w,<-O,Ld f];exact F
  .tm_at"w";have m:(ss.map AV.str)[(j:Int).toNat]?=some (.str x):=by rw[dm,bP,f];rfl
   apply Ue l (Int.natCast_nonneg _) (by rw[ah];omega) m;rw[dm,rf];have l':=k_ (c:=.list ((ss.eraseIdx j).map .str)) l;have P:=kn (k:=a.lu) (c:=.list ((ss.eraseIdx j).map .str)) hi (bF b.2.2.1);have Q:=kn (k:=a.lu) (c:=.list ((ss.eraseIdx j).map .str)) d (bF b.2.2.2.2.1);have R:=kn (k:=a.lu) (c:=.list ((ss.eraseIdx j).map .str)) s (bF b.2.2.2.2.2);have iP:(ss.eraseIdx j).length<=10:=bq (List.length_eraseIdx_le ..) E;tm_at"w";apply K9 l' (by rw[ah];omega) C D;rw[DB,B_,<-w];tm_at"w";apply p t _ ((jp.put (.tail _ (.head _))).trans (jp.put (.tail _ (.head _))));have S:∀z,z∈lS ss x i↔z∈ss:=by
    intro z;unfold lS rO;rw[ba,af];have q:z∈(ss.filter λy=>decide (y≠x))↔z∈(ss.filter λy=>decide (y≠x)).take (clipAt (ss.filter λy=>decide (y≠x)).length i)∨z∈(ss.filter λy=>decide (y≠x)).drop (clipAt (ss.filter λy=>decide (y≠x)).length i):=by rw[<-ba,bw]
    grind
   refine⟨kn P (bF b.2.2.1),kn Q (bF b.2.2.2.2.1),⟨els,kn R (bF b.2.2.2.2.2),G,λe=>?_⟩,k_ l',?_,λz T=>ok z ((S z).mp T)⟩
   .grind
   .unfold lS rO;have U:(ss.filter λy=>decide (y≠x)).Nodup:=r.filter _;have V:x∉(ss.filter λy=>decide (y≠x)):=by intro q;have:=(aD.mp q).2;simp at this
    apply(bx.nodup_iff).mpr;rw[bw];exact aL.mpr ⟨V,U⟩
 .grind
def OG(d:1<=n)(e:Fx L){a b:Nat}(k:∀g_,jp [] J g_->g_[J.length+1]?=some (.inst 565 J.length)->g_[J.length]?=some (.dict [("_seen",.ref a),("_items",.ref b)])->K (.ref (J.length+1)) g_):(lv L n).fn 475 [.val (.ref 565),.ref a,.ref b] J K X:=by refine j6 d e (I:=H.N4) (Y:=[("_items",.ref b),("_seen",.ref a),("cls",.val (.ref 565))]) rfl rfl λn d=>?_;have f:(J++[.dict [],.inst 565 J.length])[J.length]?=some (.dict []):=mV;have g:(J++[.dict [],.inst 565 J.length])[J.length+1]?=some (.inst 565 J.length):=mW;have h:=k_ (c:=.dict [("_seen",.ref a)]) f;have i:=kn (k:=J.length) (c:=.dict [("_seen",.ref a)]) g (by omega);have j:=k_ (c:=.dict [("_seen",.ref a),("_items",.ref b)]) h;have l:=kn (k:=J.length) (c:=.dict [("_seen",.ref a),("_items",.ref b)]) i (by omega);tm_at"w";refine⟨e.Sp,?_⟩;tm_at"w";exact k _ (((jp.app ..).fresh (jp.put (M:=[J.length]) (.head _)) (by simp)).fresh (jp.put (M:=[J.length]) (.head _)) (by simp)) l j
def F0{a:AV}(b:Seq a l)(k:KI l (λ_=>True) J):oX i0 a J KI:=by
 cases b with
 |lst=>exact Aq k
 |tup=>exact Oc k
def F1(j:2<=n)(m:Fx L)(h:lD J a ss)(k:∀g_ b,jp [] J g_->J.length<=b.u->J.length<=b.du->J.length<=b.su->J.length<=b.lu->lD g_ b ss->K (.ref b.u) g_):(lv L n).fn 492 [.ref a.u] J K X:=by refine j6 j m (I:=H.RZ) (Y:=[("self",.ref a.u)]) rfl rfl λn j=>?_;have D:=h.len;obtain⟨i,d,⟨els,s,o,e⟩,l,r,ok⟩:=h;have t:(J++[.set els])[J.length]?=some (.set els):=mH;have E:=mI (τ:=[.set els]) i;have d1:=mI (τ:=[.set els]) d;have w:=mI (τ:=[.set els]) l;tm_at"w";apply Jm s ⟨true,ni e (z:="a")⟩ (λf y=>by obtain⟨x,_,rfl⟩:=(e f).mp y;simp) (by have:=wu o e;omega);tm_at"w";apply Om w (by rw[ah];omega);tm_at"w";refine OG (by omega) m λg_ g A p=>?_;have B:jp [] J g_:=((jp.app ..).trans (jp.app ..)).trans g;have C:=g.get (by simp) (mI (τ:=[.list (ss.map AV.str)]) t);have q:=g.get (by simp) (mH (J:=J++[.set els]) (c:=.list (ss.map AV.str)));rw[show(J++[j3.set els]).length=J.length+1 by simp]at q p;tm_at"w";refine k g_ ⟨_,_,J.length,J.length+1⟩ B ?_ ?_ ?_ ?_ ⟨A,p,⟨els,C,o,e⟩,q,r,ok⟩<;>(simp only[bk,aI,bL];omega)
def tZ(F:1<=n)(R:Fx L){u du:Nat}(hi:J[u]?=some (.inst 565 du))(j:J[du]?=some (.dict []))(S:Seq b (ss.map .str))(hl:ss.length<=100)(ok:∀x∈ss,lm x)
  (k:∀g_ G N,jp [du] J g_->J.length<=G->J.length<=N->lD g_ ⟨u,du,G,N⟩ (jM [] ss)->K .none g_):(lv L n).fn 485 [.ref u,b] J K X:=by
 refine j6 F R (I:=H.Jh) (Y:=[("iterable",b),("self",.ref u)]) rfl rfl λn F=>?_;have O:du≠u:=by intro e;rw[e,hi]at j;cases j
 have T:=mI (τ:=[.set []]) hi;have d1:=mI (τ:=[.set []]) j;have U:(J++[.set []])[J.length]?=some (.set []):=mH;have hu:=kH j;have V:=kH hi;have W:=kn (k:=du) (c:=.dict [("_seen",.ref J.length)]) T O;have d2:=k_ (c:=.dict [("_seen",.ref J.length)]) d1;have P:=kn (k:=du) (c:=.dict [("_seen",.ref J.length)]) U (by omega);tm_at"w";tm_at"call";refine Oi P ?_;tm_at"w";refine F0 S ?_;have t:∀f x:jK,(∀y∈f,lm y)->f.Nodup->f.length<=10:=λf _ o Z=>kS (m:=nI) Z o;refine we (λl Y g_ f_=>∃m f els,l=m.map AV.str/\f_=f.map AV.str/\jM f m=jM [] ss/\(∀x∈m,lm x)/\(∀x∈f,lm x)/\f.Nodup/\els.Nodup/\(∀e,e∈els↔∃x∈f,e=.one x)/\VL Y "seen" (.ref J.length)/\VL Y "add" (.bm .setAdd J.length)/\
   jp [du] J g_/\g_[u]?=some (.inst 565 du)/\g_[du]?=some (.dict [("_seen",.ref J.length)])/\g_[J.length]?=some (.set els)) (λ_ _ _ _ _=>trivial) ?_ ?_ _ _ _ _ ⟨ss,[],[],rfl,rfl,rfl,ok,by simp,.nil,.nil,by simp,rfl,rfl,(jp.app ..).trans (jp.put (.head _)),W,d2,P⟩
 .rintro a l Y g_ f_ K' ⟨m,f,els,e,rfl,w,z,p,q,r,d,A,B,i,s,d3,g⟩ Q;cases m with
  |nil=>cases e
  |cons x m=>
  injection e with ea el;subst ea el;have h:jM (if x∈f then f else f++[x]) m=jM [] ss:=w;have hf:=t f f p q;tm_at"w";refine x9 rfl g rfl (ni d) λv C=>?_;rw[qJ d]at C;cases v
  .have D:x∈f:=by simpa using C
   rw[aB D]at h;tm_at"w";exact Q _ _ _ ⟨m,f,els,rfl,rfl,h,λy E=>z y (.tail _ E),p,q,r,d,A,B,i,s,d3,g⟩
  .have D:x∉f:=C.mp rfl;rw[aA D]at h;tm_at"w";refine OE (xj g rfl (ni d) (by simp) (by have:=wu r d;omega) ?_);have I3:(f.map AV.str).length<=100000:=by rw[ah];omega
   tm_at"w";refine Q _ _ _ ⟨m,f++[x],lj els (.one x),rfl,by rw[bB];rfl,h,λy E=>z y (.tail _ E),?_,?_,?_,?_,A,B,i.fresh (jp.put (M:=[J.length]) (.head _)) (by simp),kn s (by omega),kn d3 (by omega),k_ g⟩
   .grind
   .grind
   .unfold lj
    grind
   .intro e;rw[nt,d];constructor
    .grind
    .grind
 .rintro kM g_ f_ ⟨m,f,els,e,rfl,w,z,p,q,r,d,A,B,i,s,d3,g⟩;cases m with
  |cons x m=>cases e
  |nil=>
  have h:f=jM [] ss:=w;subst h;have i4:=mI (τ:=[.list ((jM [] ss).map AV.str)]) s;have d4:=mI (τ:=[.list ((jM [] ss).map AV.str)]) d3;have s4:=mI (τ:=[.list ((jM [] ss).map AV.str)]) g;have l4:(g_++[.list ((jM [] ss).map AV.str)])[g_.length]?=some (.list ((jM [] ss).map AV.str)):=mH;have A7:=i.len;have YL:=kH d3;tm_at"w";refine k _ J.length g_.length ((i.trans (jp.app ..)).trans (jp.put (.head _))) (ao _) A7 ⟨kn i4 O,k_ d4,⟨els,kn s4 (by show du≠J.length;omega),r,d⟩,kn l4 (by show du≠g_.length;omega),q,p⟩
def un(c:1<=n)(e:Fx L)(h:lD J a ss)(k:∀g_,jp [] J g_->KI (ss.map .str) (λb=>b[a.lu]?=some (.list (ss.map .str))) g_):oX (rI L (lv L n).fn) (.ref a.u) J KI:=by have⟨i,d,⟨els,s,f,g⟩,l,j,ok⟩:=id h;refine HY (FK i) (H5 i (vd i d (by tm_at"fx") ?_));apply DD c e h;dsimp only;rw[mH];show(match(J++[j3.iter a.lu 0])[a.lu]? with|some (j3.list l)=>KI l (λb=>b[a.lu]?=some (j3.list l)) (List.set (J++[j3.iter a.lu 0]) J.length j3.dead)|_=>False);rw[mI (τ:=[.iter a.lu 0]) l];exact k _ ((jp.app ..).fresh (jp.put (M:=[J.length]) (.head _)) (by simp))
def uI(b:1<=n)(c:Fx L)(h:lD J a ss)(k:∀g_,jp [] J g_->K (.tup (ss.map .str)) g_):ny L (lv L n).fn pY lam (.val (.type "tuple")) [.ref a.u] J K X:=by have m:=h.len;have⟨i,d,⟨els,s,o,p⟩,l,q,ok⟩:=id h;apply yz i d (by tm_at"fx") (by tm_at"fx");apply DD b c h;dsimp only;rw[mH];show(match(J++[j3.iter a.lu 0])[a.lu]? with|some (j3.list l)=>l.length<=100000/\lG (List.set (J++[j3.iter a.lu 0]) (List.length J) j3.dead) a.u=some 565/\(lv L n).fn 506 [AV.ref a.u] (List.set (J++[j3.iter a.lu 0]) (List.length J) j3.dead) (Hz λn e=>0<=n/\n<=100000/\e[a.lu]?=some (j3.list l)/\l.length<=100000/\K (AV.tup l) e) wW|_=>False);rw[mI (τ:=[.iter a.lu 0]) l];have f:jp [] J ((J++[j3.iter a.lu 0]).set J.length j3.dead):=(jp.app ..).fresh (jp.put (M:=[J.length]) (.head _)) (by simp);have h':=h.j7 f;obtain⟨g,j,-,l',-⟩:=id h';refine⟨by rw[ah];omega,k9 g j,rg b c h' ?_⟩;exact⟨by omega,by omega,by omega,by omega,l',by rw[ah];omega,k _ f⟩
def OH(g:2<=n)(r:Fx L)(h:lD J a ss)(t:Seq b (ms.map .str))(ok:∀x∈ms,lm x)(k:∀g_,jp [a.su,a.lu] J g_->lD g_ a (jM ss ms)->K (.ref a.u) g_):(lv L n).fn 424 [.ref a.u,b] J K X:=by
 refine j6 g r (I:=H.NZ) (Y:=[("it",b),("self",.ref a.u)]) rfl rfl λn g=>?_;tm_at"w";apply F0 t;refine nN (λl Y g_=>∃m f,l=m.map AV.str/\jM f m=jM ss ms/\(∀x∈m,lm x)/\VL Y "self" (.ref a.u)/\jp [a.su,a.lu] J g_/\lD g_ a f) (λ_ _ _ _=>trivial) ?_ ?_ _ _ _ ⟨ms,ss,rfl,rfl,ok,rfl,jp.refl _ _,h⟩
 .rintro z l Y g_ E ⟨m,f,e,j,o,s,p,c⟩ w _ _;cases m with
  |nil=>cases e
  |cons x m=>
  injection e with A B;subst A B;obtain⟨i,d,-⟩:=id c;tm_at"w";refine tY g r c (o x (.head _)) λF C q=>?_;tm_at"w";refine eg (w _ _ ?_);exact⟨m,_,rfl,j,λy D=>o y (.tail _ D),s,p.trans C,q⟩
 .rintro Y g_ ⟨m,f,e,j,o,s,p,c⟩;cases m with
  |cons x m=>cases e
  |nil=>
  cases j;tm_at"w";exact k _ p c
def Ju(p:2<=n)(C:Fx L){kf:Nat}(h:lD J a ss)(q:J[kf]?=some (.mP els o))(D:els.Perm (ms.map .one))(ok:∀x∈ms,lm x)(k:∀g_ b,b.Perm ms->jp [a.su,a.lu] J g_->lD g_ a (jM ss b)->K (.ref a.u) g_):(lv L n).fn 424 [.ref a.u,.ref kf] J K X:=by
 refine j6 p C (I:=H.NZ) (Y:=[("it",.ref kf),("self",.ref a.u)]) rfl rfl λn p=>?_;tm_at"w";refine HY (FL q) (H6 q λl' E=>?_);have M:kf≠a.su/\kf≠a.lu:=by
  obtain⟨-,-,⟨els,s,-⟩,l,-⟩:=h
  grind
 obtain⟨b,rfl,F⟩:∃b:jK,l'=b.map .one/\b.Perm ms:=by
  have g:=E.trans D;refine⟨l'.filterMap λe=>match e with|.one x=>some x|_=>none,?_,?_⟩
  .have:∀e∈l',∃x,e=El.one x:=λe r=>by obtain⟨x,_,rfl⟩:=aM.mp (g.mem_iff.mp r);exact⟨x,rfl⟩
   clear E g;induction l' with
   |nil=>rfl
   |cons e l' t=>obtain⟨x,rfl⟩:=this _ (.head _);rw[bQ,bg,<-t λe r=>this e (.tail _ r)]
  .have:=g.filterMap λe=>match e with|.one x=>some x|_=>none
   rw[e6]at this;have e:ms.filterMap ((λe=>match e with|El.one x=>some x|_=>none) ∘ El.one)=ms:=by
    clear D this g ok k;induction ms with
    |nil=>rfl
    |cons x ms t=>rw[bQ];dsimp only [Function.comp];rw[t]
   rwa [e]at this
 rw[c7];refine nN (λl Y g_=>∃m f,l=m.map AV.str/\jM f m=jM ss b/\(∀x∈m,lm x)/\VL Y "self" (.ref a.u)/\jp [a.su,a.lu] J g_/\lD g_ a f) (λ_ _ _ ⟨_,_,_,_,_,_,c,_⟩=>c.get (by simp[M]) q) ?_ ?_ _ _ _ ⟨b,ss,rfl,rfl,λx N=>ok x (F.mem_iff.mp N),rfl,jp.refl _ _,h⟩
 .rintro z l Y g_ T ⟨m,f,e,w,A,G,c,j⟩ O _ _;cases m with
  |nil=>cases e
  |cons x m=>
  injection e with P Q;subst P Q;obtain⟨i,d,-⟩:=id j;tm_at"w";refine tY p C j (A x (.head _)) λU R B=>?_;tm_at"w";refine eg (O _ _ ?_);exact⟨m,_,rfl,w,λy S=>A y (.tail _ S),G,c.trans R,B⟩
 .rintro Y g_ ⟨m,f,e,w,A,G,c,j⟩;cases m with
  |cons x m=>cases e
  |nil=>
  cases w;tm_at"w";exact k _ b F c j
def QN(b:1<=n)(a:Fx L)(k:K (.bool true) J):(lv L n).fn 367 [.val (.ref 371),.val (.ref 565)] J K X:=by refine j6 b a (I:=H.RY) (Y:=[("C",.val (.ref 565)),("cls",.val (.ref 371))]) rfl rfl λn b=>?_;tm_at"w";refine Og rfl rfl (oO ?_);refine⟨a.Uk,a.Uk,?_⟩;tm_at"w";refine kX ⟨a.FT,a.OB,?_⟩;tm_at"w";apply QC;tm_at"w";apply jO a.OA;exact k
def Ce(c:2<=n)(b:Fx L)(h:lD J a ss)(k:K (.bool true) J):(lv L n).fn 72 [.val (.ref 371),.ref a.u] J K X:=by refine j6 c b (I:=H.XO) (Y:=[("instance",.ref a.u),("cls",.val (.ref 371))]) rfl rfl λn c=>?_;obtain⟨i,d,-⟩:=id h;tm_at"w";apply Le i d;tm_at"w";apply Oh i d b.FS b.St;tm_at"w";refine K7 rfl rfl (oO ?_);refine⟨b.Uj,b.Uj,?_⟩;tm_at"w";apply Ud b.Oz;tm_at"w";apply QN c b;exact k
def yQ{i j:Int}(a:iK=true)(h:∀v,(v=true↔j<i)->K (.bool v) J):lF (N9.par L).toPar iK .Gt (.int i) (.int j) J K X:=UT a (oO (show K (.bool (decide (j<i))) J from h _ (by simp)))
def Uu(p:3<=n)(d:Fx L){b:OF}(g:lD J a ss)(i:lD J b tt)(k:∀g_,jp [] J g_->∀v,(v=true↔ss.length<=tt.length/\∀x∈ss,x∈tt)->K (.bool v) g_):(lv L n).fn 273 [.ref a.u,.ref b.u] J K X:=by
 refine j6 p d (I:=H.RW) (Y:=[("other",.ref b.u),("self",.ref a.u)]) rfl rfl λn p=>?_;obtain⟨D,d1,-⟩:=id g;obtain⟨A,d2,-⟩:=id i;tm_at"w";apply uH A d2 d.H9 d.H_;apply Ce p d i;tm_at"w";apply lT D d1 (by tm_at"fx");apply rg (by omega) d g;have O:=g.len;have P:=i.len;refine⟨by omega,by omega,?_⟩;tm_at"w";apply lT A d2 (by tm_at"fx");apply rg (by omega) d i;refine⟨by omega,by omega,?_⟩;tm_at"w";refine yQ rfl λv j=>?_;cases v
 .have r:ss.length<=tt.length:=by
   have:¬((tt.length:Int)<ss.length):=λq=>by have:=j.mpr q;cases this
   omega
  tm_at"w";refine un (by omega) d g λQ E=>?_;refine nN (λl Y g_=>∃m,l=m.map AV.str/\(∀x∈m,x∈ss)/\((∀x∈ss,x∈tt)↔∀x∈m,x∈tt)/\VL Y "other" (.ref b.u)/\jp [] J g_) (λ_ _ _ ⟨_,_,_,_,_,f⟩=>(g.j7 f).l) ?_ ?_ _ _ _ ⟨ss,rfl,λ_ h=>h,Iff.rfl,rfl,E⟩
  .rintro z l Y g_ R ⟨m,e,B,c,C,f⟩ F _ s;cases m with
   |nil=>cases e
   |cons x m=>
   injection e with G M;subst G M;have o:=i.j7 f;obtain⟨N,t,-⟩:=id o;tm_at"w";apply oQ rfl N t (by tm_at"fx");refine pJ (by omega) d o λv j=>?_;cases v
   .have w:x∉tt:=by simpa using j
    tm_at"w";apply s _ _ _;refine k g_ f false ⟨λq=>(by cases q),λq=>absurd (c.mp q.2 x (.head _)) w⟩
   .have w:=j.mp rfl;tm_at"w";refine eg (F _ _ ?_);exact⟨m,rfl,λy hy=>B y (.tail _ hy),c.trans ⟨λq y hy=>q y (.tail _ hy),λq y hy=>by rcases af.mp hy with rfl|hy;exact w;exact q y hy⟩,C,f⟩
  .rintro Y g_ ⟨m,e,B,c,C,f⟩;cases m with
   |cons x m=>cases e
   |nil=>
   tm_at"w";exact k g_ f true ⟨λ_=>⟨r,c.mpr (by simp)⟩,λ_=>rfl⟩
 .tm_at"w";have r:¬ss.length<=tt.length:=by have:=j.mp rfl;omega
  exact k J (jp.refl _ _) false ⟨λq=>(by cases q),λq=>absurd q.1 r⟩
def OI(g:4<=n)(c:Fx L){b:OF}(e:lD J a ss)(d:lD J b tt)(k:∀g_,jp [] J g_->∀v,(v=true↔ss.length=tt.length/\∀x∈ss,x∈tt)->K (.bool v) g_):(lv L n).fn 301 [.ref a.u,.ref b.u] J K X:=by
 refine j6 g c (I:=H.RX) (Y:=[("other",.ref b.u),("self",.ref a.u)]) rfl rfl λn g=>?_;obtain⟨j,d1,-⟩:=id e;obtain⟨h,d2,-⟩:=id d;have m:=e.len;have o:=d.len;tm_at"w";apply uH h d2 c.H9 c.H_;apply Ce (by omega) c d;tm_at"w";apply lT j d1 (by tm_at"fx");apply rg (by omega) c e;refine⟨by omega,by omega,?_⟩;tm_at"w";apply lT h d2 (by tm_at"fx");apply rg (by omega) c d;refine⟨by omega,by omega,?_⟩;tm_at"w";refine yP λv f=>?_;cases v
 .tm_at"w";refine k J (jp.refl _ _) false ⟨λq=>(by cases q),λq=>?_⟩;have:=f.mpr (by rw[q.1]);cases this
 .have i:ss.length=tt.length:=by have:=f.mp rfl;omega
  tm_at"w";refine Uu g c e d λg_ l v f=>?_;exact k g_ l v (f.trans ⟨λq=>⟨i,q.2⟩,λq=>⟨eU i,q.2⟩⟩)
variable {T U:pL}
section
variable {L:Dt}{n:Nat}{J:jW}{K:KV}{X:KX}
structure pL where
 t:Nat
 dt:Nat
 o:OF
 p:OF
 k:Nat
def j2 (x:Str×Str):El:=.many [x.1,x.2]
structure TabAt (J:jW) (T:pL) (os ps:jK) (xs:kd):Prop where
 i:J[T.t]?=some (.inst 833 T.dt)
 d:J[T.dt]?=some (.dict [("_objects",.ref T.o.u),("_properties",.ref T.p.u),("_pairs",.ref T.k)])
 o:lD J T.o os
 p:lD J T.p ps
 s:∃els,J[T.k]?=some (.set els)/\els.Nodup/\∀e,e∈els↔∃x∈xs,e=j2 x
 ns:T.o.su≠T.p.su
 nl:T.o.lu≠T.p.lu
 DS:T.o.su≠T.k
 DT:T.p.su≠T.k
def pL.lg(T:pL):List Nat:=[T.o.su,T.o.lu,T.p.su,T.p.lu,T.k]
def n7{x y:Str×Str}(h:j2 x=j2 y):x=y:=by
 unfold j2 at h
 grind
def n8{els:kr}{xs:kd}(m:∀e,e∈els↔∃x∈xs,e=j2 x){z:Str×Str}:j2 z∈els↔z∈xs:=by
 rw[m];constructor
 .rintro⟨x,a,e⟩;exact n7 e▸a
 .exact λh=>⟨z,h,rfl⟩
def kT{els:kr}{xs:kd}(m:∀e,e∈els↔∃x∈xs,e=j2 x):∀f∈els,f.jJ=false:=by intro f a;obtain⟨x,b,rfl⟩:=(m f).mp a;rfl
def OJ{els:kr}{xs:kd}(m:∀e,e∈els↔∃x∈xs,e=j2 x):∀f∈els,f≠.many []:=by intro f a;obtain⟨x,b,rfl⟩:=(m f).mp a;intro e;cases e
def OK(os ps:jK):(os.flatMap λo=>ps.map λp=>j2 (o,p)).length=os.length*ps.length:=by
 induction os with
 |nil=>simp
 |cons a l b=>rw[cR,bk,b,ah,aI,Nat.succ_mul];omega
def mY{els:kr}{os ps:jK}{xs:kd}(a:els.Nodup)(m:∀e,e∈els↔∃x∈xs,e=j2 x)(sub:∀x∈xs,x.1∈os/\x.2∈ps):els.length<=os.length*ps.length:=by
 rw[<-OK];refine kS a λe b=>?_
 grind
def lD.Sv{a b:OF}{ss tt:jK}{g_:jW}(h:lD J b tt)(c:lD J a ss)(e:a.su≠b.su)(f:a.lu≠b.lu)(d:jp [a.su,a.lu] J g_):lD g_ b tt:=by
 obtain⟨g,d1,⟨i,j,-⟩,l,-⟩:=c;obtain⟨m,d2,⟨k8,n,-⟩,o,-⟩:=id h;refine h.keep d λk hk=>?_;rcases af.mp hk with rfl|hk
 .grind
 .grind
def lD.Sw{b:OF}{tt:jK}{g_:jW}{k:Nat}{els:kr}(h:lD J b tt)(c:J[k]?=some (.set els))(n:b.su≠k)(a:jp [k] J g_):lD g_ b tt:=by
 obtain⟨d,d2,⟨k8,e,-⟩,f,-⟩:=id h;refine h.keep a λj g=>?_
 grind
def jp.inst{a:OF}{ss:jK}{g_:jW}{k C dl:Nat}(b:lD J a ss)(c:jp [a.su,a.lu] J g_)(h:J[k]?=some (.inst C dl)):g_[k]?=some (.inst C dl):=by
 obtain⟨d,d1,⟨e,f,-⟩,g,-⟩:=b;refine c.get (λm=>?_) h
 grind
def jp.dict{a:OF}{ss:jK}{g_:jW}{k:Nat}{m:List (Str×AV)}(b:lD J a ss)(c:jp [a.su,a.lu] J g_)(h:J[k]?=some (.dict m)):g_[k]?=some (.dict m):=by
 obtain⟨d,d1,⟨e,f,-⟩,g,-⟩:=b;refine c.get (λm=>?_) h
 grind
def jp.XV{a:OF}{ss:jK}{g_:jW}{k:Nat}{els:kr}(b:lD J a ss)(n:a.su≠k)(c:jp [a.su,a.lu] J g_)(h:J[k]?=some (.set els)):g_[k]?=some (.set els):=by
 obtain⟨d,d1,⟨e,f,-⟩,g,-⟩:=b;refine c.get (λm=>?_) h
 grind
section
variable {T:pL}{os ps ji je:jK}{xs iQ:kd}{g_:jW}{els:kr}
def TabAt.F3(h:TabAt J T os ps xs)(a:jp [T.o.su,T.o.lu] J g_)(e:lD g_ T.o ji):TabAt g_ T ji ps xs:=by have⟨i,d,o,p,⟨els,s,f,g⟩,ns,b,c,j⟩:=h;exact⟨a.inst o i,a.dict o d,e,p.Sv o ns b a,⟨els,a.XV o c s,f,g⟩,ns,b,c,j⟩
def TabAt.F4(h:TabAt J T os ps xs)(a:jp [T.p.su,T.p.lu] J g_)(e:lD g_ T.p je):TabAt g_ T os je xs:=by have⟨i,d,o,p,⟨els,s,f,g⟩,ns,b,j,c⟩:=h;exact⟨a.inst p i,a.dict p d,o.Sv p ns.symm b.symm a,e,⟨els,a.XV p c s,f,g⟩,ns,b,j,c⟩
def TabAt.j7(h:TabAt J T os ps xs)(a:jp [] J g_):TabAt g_ T os ps xs:=by have⟨i,d,o,p,⟨els,s,b,c⟩,ns,e,f,g⟩:=h;exact⟨a.get (by simp) i,a.get (by simp) d,o.j7 a,p.j7 a,⟨els,a.get (by simp) s,b,c⟩,ns,e,f,g⟩
def TabAt.ww(h:TabAt J T os ps xs)(f:els.Nodup)(m:∀e,e∈els↔∃x∈iQ,e=j2 x):TabAt (J.set T.k (.set els)) T os ps iQ:=by have⟨i,d,o,p,⟨j,s,l,n⟩,ns,g,a,b⟩:=h;have c:jp [T.k] J (J.set T.k (.set els)):=jp.put (.head _);exact⟨kn i (λe=>(by rw[<-e,s]at i;cases i)),kn d (λe=>(by rw[<-e,s]at d;cases d)),o.Sw s a c,p.Sw s b c,⟨els,k_ s,f,m⟩,ns,g,a,b⟩
def t0:∀k∈[T.o.su,T.o.lu],k∈T.lg:=by unfold pL.lg;simp
def t4:∀k∈[T.p.su,T.p.lu],k∈T.lg:=by unfold pL.lg;simp
def oR:T.k∈T.lg:=by unfold pL.lg;simp
def TabAt.DE{m:List (Str×AV)}(h:TabAt J T os ps xs)(e:m=([(("_objects":Str),AV.ref T.o.u),(("_properties":Str),AV.ref T.p.u),(("_pairs":Str),AV.ref T.k)]:List (Str×AV))):TabAt (J.set T.dt (.dict m)) T os ps xs/\jp [] J (J.set T.dt (.dict m)):=by subst e;have a:jp [] J (J.set T.dt (.dict [("_objects",.ref T.o.u),("_properties",.ref T.p.u),("_pairs",.ref T.k)])):=jp.same h.d;exact⟨h.j7 a,a⟩
end
def vf(a:Fx L){c:ae}(h:tJ H.XQ c=true):tJ L.tb c=true:=by rw[a.tb];exact h
def qi(a:2<=n)(b:Fx L){T:pL}{os ps:jK}{xs:kd}(h:TabAt J T os ps xs)(k:∀g_,jp [] J g_->K (.tup (os.map .str)) g_):(lv L n).fn 639 [.ref T.t] J K X:=by refine j6 a b (I:=H.R_) (Y:=[("self",.ref T.t)]) rfl rfl λn a=>?_;obtain⟨i,d,o,p,⟨els,s,e,f⟩,ns,g,j,l⟩:=h;tm_at"w";refine uI a b o λg_ c=>?_;exact k g_ c
def nK(a:2<=n)(b:Fx L){T:pL}{os ps:jK}{xs:kd}(h:TabAt J T os ps xs)(k:∀g_,jp [] J g_->K (.tup (ps.map .str)) g_):(lv L n).fn 647 [.ref T.t] J K X:=by refine j6 a b (I:=H.Sc) (Y:=[("self",.ref T.t)]) rfl rfl λn a=>?_;obtain⟨i,d,o,p,⟨els,s,e,f⟩,ns,g,j,l⟩:=h;tm_at"w";refine uI a b p λg_ c=>?_;exact k g_ c
end
def wx(a:(y==("__debug__":Str)||y==("__classdict__":Str))=false)(b:(y==x)=false)(c:(sc.names.lookup y==some NameKind.free)=true)(d:VL Y y (.str z)):uE sc x Y y=some (some z):=by unfold uE;rw[aA (by rw[a];simp),aA (by simpa using b),aB c,show Y.lookup y=_ from d]
def wy(a:(x==("__debug__":Str)||x==("__classdict__":Str))=false):uE sc x Y x=some none:=by unfold uE;rw[aA (by rw[a];simp),aB rfl]
def Ie(b:1<=n)(c:Fx L)(h:lD J a ss)(k:∀g_,jp [] J g_->KL (ss.map .str) g_):E7 L.Kf (lv L n).fn (.ref a.u) J KL:=by have⟨i,d,⟨els,s,e,f⟩,l,g,ok⟩:=id h;unfold E7;apply vd i d (by tm_at"fx");apply DD b c h;dsimp only;rw[mH];show(match(J++[j3.iter a.lu 0])[a.lu]? with|some (j3.list l)=>((List.set (J++[j3.iter a.lu 0]) J.length j3.dead)[a.lu]?=some (j3.list l)->KL l (List.set (J++[j3.iter a.lu 0]) J.length j3.dead))|_=>False);rw[mI (τ:=[.iter a.lu 0]) l];exact λ_=>k _ ((jp.app ..).fresh (jp.put (M:=[J.length]) (.head _)) (by simp))
def AF(c:2<=n)(a:Fx L)(h:TabAt J T os ps xs)(k:∀g_,jp [] J g_->K (.lst (rowsOf os ps xs)) g_):(lv L n).fn 653 [.ref T.t] J K X:=by
 refine j6 c a (I:=H.Sd) (Y:=[("self",.ref T.t)]) rfl rfl λn c=>?_;have A:=h;obtain⟨i,d,o,p,⟨els,s,B,f⟩,ns,C,D,E⟩:=h;have F:=o.len;have G:=p.len;tm_at"w";refine un c a o λM r=>?_;refine p5 AV.str (λo=>[t9 ps xs o]) (λY g_=>jp [] J g_/\VL Y "prop" (.ref T.p.u)/\VL Y "pairs" (.ref T.k)) 1000 (λ_ _ w=>(o.j7 w.1).l) _ _ _ _ ?_ ⟨r,rfl,rfl⟩ ?_ ?_
 .have:=li (g:=λo=>[t9 ps xs o]) (λk=>by simp) os;show 0+_<=_;omega
 .rintro z N Y g_ f_ O ⟨b,j,m⟩ P x;tm_at"w";refine⟨vf a rfl,by tm_at"d",by tm_at"d",by tm_at"d",by tm_at"d",?_⟩
  conv=>whnf
  apply Oa rfl (Jq a rfl);refine⟨rfl,?_⟩;apply jO (wx (by tm_at"d") (by tm_at"d") (by tm_at"d") Lb);apply jO (wy (by tm_at"d"));rw[show List.lookup _ _=some (AV.ref T.k)from rM rfl m]
  conv=>whnf
  apply rd rfl (rM rfl j);refine Ie c a (p.j7 b) λQ q=>?_;refine jO (lQ ps) ?_;rw[(b.trans q).get (by simp) s];refine⟨kT f,by omega,?_⟩;have y:AV.tup ((kU (some z) none ps).map λe=>AV.bool (decide (e∈els)))=t9 ps xs z:=by unfold kU t9;rw[c7];congr 1;apply List.map_congr_left;intro p _;show AV.bool (decide (j2 (z,p)∈els))=_;rw[decide_eq_decide.mpr (n8 f)]
  rw[y];tm_at"w";exact x _ _ ⟨b.trans q,j,m⟩
 .rintro R g_ ⟨b,_⟩;rw[kW,aX];exact k g_ b
def OL(d:1<=n)(e:Fx L){a pu b:Nat}(k:∀g_,jp [] J g_->g_[J.length+1]?=some (.inst 833 J.length)->g_[J.length]?=some (.dict [("_objects",.ref a),("_properties",.ref pu),("_pairs",.ref b)])->K (.ref (J.length+1)) g_):(lv L n).fn 585 [.val (.ref 833),.ref a,.ref pu,.ref b] J K X:=by refine j6 d e (I:=H.N5) (Y:=[("_pairs",.ref b),("_properties",.ref pu),("_objects",.ref a),("cls",.val (.ref 833))]) rfl rfl λn d=>?_;have f:(J++[.dict [],.inst 833 J.length])[J.length]?=some (.dict []):=mV;have g:(J++[.dict [],.inst 833 J.length])[J.length+1]?=some (.inst 833 J.length):=mW;have h:=k_ (c:=.dict [("_objects",.ref a)]) f;have i:=kn (k:=J.length) (c:=.dict [("_objects",.ref a)]) g (by omega);have j:=k_ (c:=.dict [("_objects",.ref a),("_properties",.ref pu)]) h;have l:=kn (k:=J.length) (c:=.dict [("_objects",.ref a),("_properties",.ref pu)]) i (by omega);have m:=k_ (c:=.dict [("_objects",.ref a),("_properties",.ref pu),("_pairs",.ref b)]) j;have o:=kn (k:=J.length) (c:=.dict [("_objects",.ref a),("_properties",.ref pu),("_pairs",.ref b)]) l (by omega);tm_at"w";refine⟨e.Sq,?_⟩;tm_at"w";exact k _ ((((jp.app ..).fresh (jp.put (M:=[J.length]) (.head _)) (by simp)).fresh (jp.put (M:=[J.length]) (.head _)) (by simp)).fresh (jp.put (M:=[J.length]) (.head _)) (by simp)) o m
def AG(e:3<=n)(f:Fx L)(h:TabAt J T os ps xs)(sub:∀x∈xs,x.1∈os/\x.2∈ps)(V:os.length*ps.length<=30)
  (k:∀g_ m,jp [] J g_->(∀k∈m.lg,J.length<=k)->TabAt g_ m os ps xs->K (.ref m.t) g_):(lv L n).fn 604 [.ref T.t] J K X:=by
 refine j6 e f (I:=H.R8) (Y:=[("self",.ref T.t)]) rfl rfl λn e=>?_;obtain⟨i,d,o,p,⟨els,s,w,g⟩,ns,W,Z,DT⟩:=h;obtain⟨oi,od,-⟩:=id o;tm_at"w";refine F1 e f o λiT j a b1 b2 b3 b4 y=>?_;have D:=a.get (by simp) i;have d1:=a.get (by simp) d;have A:=p.j7 a;obtain⟨E,F,-⟩:=id A;tm_at"w";refine F1 e f A λl bp b c1 c2 c3 c4 B=>?_;have i2:=b.get (by simp) D;have d2:=b.get (by simp) d1;have G:=b.get (by simp) (a.get (by simp) s);tm_at"w";apply Jm G ⟨false,kT g⟩ (OJ g) (by have:=mY w g sub;omega);tm_at"w";refine OL (by omega) f λM C N O=>?_;have k1:=a.len;have k2:=b.len;have P:=C.get (by simp) (mH (J:=l) (c:=.set els));have q:=(jp.app ..).trans C;have Q:=(y.j7 b).j7 q;have R:=B.j7 q;obtain⟨-,-,⟨_,S,-⟩,lo,-⟩:=id y;obtain⟨-,-,⟨_,r,-⟩,u,-⟩:=id B;have q1:=kH S;have q2:=kH lo;have q3:=kH r;have q4:=kH u;tm_at"w";refine k M ⟨_,_,j,bp,l.length⟩ ((a.trans b).trans q) ?_ ⟨N,O,Q,R,⟨els,P,w,g⟩,?_,?_,?_,?_⟩
 .intro z U;unfold pL.lg at U
  grind
 .show j.su≠bp.su;omega
 .show j.lu≠bp.lu;omega
 .show j.su≠l.length;omega
 .show bp.su≠l.length;omega
def qL (os ps:jK)(rows:List (List aY)):kd:=(os.zip rows).flatMap λq=>(ps.zip q.2).flatMap λw=>if w.2=true then[(q.1,w.1)]else[]
def yb (r:List aY):AV:=.tup (r.map .bool)
def t5{α β:Type}(f:α->AV)(g:β->AV):∀(l:List α) (m:List β),uj (l.map f) (m.map g)=(l.zip m).map λq=>.tup [f q.1,g q.2]
 |[],_=>rfl
 |_::_,[]=>rfl
 |a::l,b::m=>by show .tup [f a,g b]::uj (l.map f) (m.map g)=_;rw[t5 f g l m];rfl
def AH{a:AV}(h:Seq a l):NF a=some l:=by cases h<;>rfl
def qM:∀l:kd,zn (l.map jz)=some (l.map j2)
 |[]=>rfl
 |x::l=>by show(match qW (jz x),zn (l.map jz)with|some e,some es=>some (e::es)|_,_=>none)=_;rw[qM l];rfl
def Cf{α β:Type}{g:α->List β}{k:Nat}(h:∀x,(g x).length<=k):∀l:List α,(l.flatMap g).length<=l.length*k
 |[]=>by simp
 |a::l=>by rw[cR,bk,aI,Nat.succ_mul];have:=Cf h l;have:=h a;omega
def wz:∀{m f:jK},m.Nodup->(∀x∈m,x∉f)->jM f m=f++m
 |[],f,_,_=>by simp[jM]
 |a::m,f,b,h=>by
  have⟨d,c⟩:=aL.mp b;show jM (if a∈f then f else f++[a]) m=_;rw[aA (h a (.head _)),wz c λx e q=>?_]
  .simp
  .grind
def t6{m:jK}(h:m.Nodup):jM [] m=m:=wz h (by simp)
def nL{a:AV}(h:Seq a l)(b:l.length<=100000)(q:K (.int l.length) J):ny L fn pY lam (.val (.builtin "len")) [a] J K X:=by
 cases h with
 |lst=>exact kX ⟨rfl,b,q⟩
 |tup=>exact kX ⟨b,q⟩
def AI(hd:3<=n)(f:Fx L){rows:List (List aY)}(hi:J[t]?=some (.inst 833 dt))(C:J[dt]?=some (.dict []))(M:Seq b1 (os.map .str))(N:Seq b2 (ps.map .str))(h3:Seq b3 (rows.map yb))
  (o1:∀x∈os,lm x) (o2:∀x∈ps,lm x) (n1:os.Nodup) (n2:ps.Nodup) (hb:os.length*ps.length<=30)
  (k:∀g_ o p ks,jp [dt] J g_->(∀z∈[o.su,o.lu,p.su,p.lu,ks],J.length<=z)->TabAt g_ ⟨t,dt,o,p,ks⟩ os ps (qL os ps rows)->K .none g_):(lv L n).fn 597 [.ref t,b1,b2,b3] J K X:=by
 refine j6 hd f (I:=H.xY) (Y:=[("bools",b3),("properties",b2),("objects",b1),("self",.ref t)]) rfl rfl λn hd=>?_;have l1:os.length<=10:=kS (m:=nI) n1 o1;have l2:ps.length<=10:=kS (m:=nI) n2 o2;have O:dt≠t:=by intro e;rw[e,hi]at C;cases C
 have q1:=kH hi;have q2:=kH C;tm_at"w";apply nJ f.B7 f.xl;refine tZ (by omega) f (u:=J.length+1) (du:=J.length) mW mV M (by omega) o1 λiT P lo l_ XW XX ho=>?_;rw[t6 n1]at ho;rw[show(J++[j3.dict [],j3.inst 565 J.length]).length=J.length+2 by simp]at XW XX;have D:jp [] J iT:=(jp.app ..).fresh l_ (by simp);have i1:=D.get (by simp) hi;have d1:=D.get (by simp) C;have r1:=D.len;have Q:=kn (k:=dt) (c:=.dict [("_objects",.ref (J.length+1))]) i1 O;have d2:=k_ (c:=.dict [("_objects",.ref (J.length+1))]) d1;have E:jp [dt] iT (iT.set dt (.dict [("_objects",.ref (J.length+1))])):=jp.put (.head _);have l:=ho.keep E (by intro z d;rw[aN]at d;subst d;refine⟨?_,?_,?_,?_⟩<;>(dsimp only;omega));have r2:=E.len;generalize uZ:iT.set dt (.dict [("_objects",.ref (J.length+1))])=jf at Q d2 E l r2;tm_at"w";rw[show u6 _ _ _=[(("_objects":Str),AV.ref (J.length+1))]from rfl,uZ];apply mA Q d2 (by tm_at"fx") rfl rfl;tm_at"w";obtain⟨oi,od,-⟩:=id l;refine lT oi od (by tm_at"fx") (rg (by omega) f l ⟨by omega,by omega,?_⟩);tm_at"w";apply nL M (by rw[ah];omega);rw[ah];refine um λv R=>?_;cases v
 case true=>exact absurd rfl (R.mp rfl)
 tm_at"w";apply nJ f.B7 f.xl;refine tZ (by omega) f (u:=jf.length+1) (du:=jf.length) mW mV N (by omega) o2 λj1 S lp qK T U hp=>?_;rw[t6 n2]at hp;rw[show(jf++[j3.dict [],j3.inst 565 jf.length]).length=jf.length+2 by simp]at T U;have s:jp [] jf j1:=(jp.app ..).fresh qK (by simp);have i3:=s.get (by simp) Q;have d3:=s.get (by simp) d2;have IX:=l.j7 s;have r3:=s.len;have V:=kn (k:=dt) (c:=.dict [("_objects",.ref (J.length+1)),("_properties",.ref (jf.length+1))]) i3 O;have d4:=k_ (c:=.dict [("_objects",.ref (J.length+1)),("_properties",.ref (jf.length+1))]) d3;have y:jp [dt] j1 (j1.set dt (.dict [("_objects",.ref (J.length+1)),("_properties",.ref (jf.length+1))])):=jp.put (.head _);have W:=IX.keep y (by intro z d;rw[aN]at d;subst d;refine⟨?_,?_,?_,?_⟩<;>(dsimp only;omega));have A:=hp.keep y (by intro z d;rw[aN]at d;subst d;refine⟨?_,?_,?_,?_⟩<;>(dsimp only;omega));have r4:=y.len;generalize Ig:j1.set dt (.dict [("_objects",.ref (J.length+1)),("_properties",.ref (jf.length+1))])=lY at V d4 y W A r4;tm_at"w";rw[show u6 _ _ _=[(("_objects":Str),AV.ref (J.length+1)),(("_properties":Str),AV.ref (jf.length+1))]from rfl,Ig];apply mA V d4 (by tm_at"fx") rfl rfl;tm_at"w";obtain⟨pi,pd,-⟩:=id A;refine lT pi pd (by tm_at"fx") (rg (by omega) f A ⟨by omega,by omega,?_⟩);tm_at"w";apply nL N (by rw[ah];omega);rw[ah];refine um λv R=>?_;cases v
 case true=>exact absurd rfl (R.mp rfl)
 tm_at"w";refine jO (AH M) (jO (AH h3) ?_);rw[t5];have Z:∀(m:jK) (r:List aY) (a:Str),((m.zip r).flatMap λw=>if w.2=true then[(a,w.1)]else[]).length<=m.length:=by intro m r a;have:=li (g:=λ(w:Str×aY)=>if w.2=true then[(a,w.1)]else[]) (λk=>by split<;>simp) (m.zip r);rw[List.length_zip]at this;omega
 have hz2:(qL os ps rows).length<=30:=by have:=Cf (g:=λ(q:Str×List aY)=>(ps.zip q.2).flatMap λw=>if w.2=true then[(q.1,w.1)]else[]) (k:=ps.length) (λq=>Z ps q.2 q.1) (os.zip rows);have h:=fM ps.length (show(os.zip rows).length<=os.length by rw[List.length_zip];omega);exact bq this (bq h hb)
 have YV:((os.zip rows).flatMap λq=>((ps.zip q.2).flatMap λw=>if w.2=true then[(q.1,w.1)]else[]).map jz)=(qL os ps rows).map jz:=by unfold qL;rw[hK]
 refine p5 (λ(q:Str×List aY)=>AV.tup [.str q.1,yb q.2]) (λq=>((ps.zip q.2).flatMap λw=>if w.2=true then[(q.1,w.1)]else[]).map jz) (λY g_=>g_=lY/\VL Y "properties" b2) 30 (λ_ _ _=>trivial) _ _ _ _ ?_ ⟨rfl,rfl⟩ ?_ ?_
 .rw[YV,ah];show 0+_<=_;omega
 .rintro⟨a,r⟩ hq Y g_ f_ K' ⟨rfl,F⟩ G B;have oa:a∈os:=(List.of_mem_zip hq).1;tm_at"w";refine jO (AH N) (jO (show NF (yb r)=some (r.map AV.bool)from rfl) ?_);rw[t5];have hz4:((ps.zip r).flatMap λw=>if w.2=true then[jz (a,w.1)]else[])=((ps.zip r).flatMap λw=>if w.2=true then[(a,w.1)]else[]).map jz:=by rw[hK];congr 1;funext w;split<;>rfl
  refine p5 (λ(w:Str×aY)=>AV.tup [.str w.1,.bool w.2]) (λw=>if w.2=true then[jz (a,w.1)]else[]) (λY l8=>l8=g_/\VL Y "properties" b2/\VL Y "o" (.str a)) 30 (λ_ _ _=>trivial) _ _ _ _ ?_ ⟨rfl,rM rfl (rM rfl F),rfl⟩ ?_ ?_
  .rw[hz4];exact G
  .rintro⟨p,b⟩ hw Y l8 f_ K' ⟨rfl,F,v2⟩ G B;tm_at"w";cases b
   .rw[aA (by simp),bh]at B;tm_at"w";exact B _ _ ⟨rfl,F,v2⟩
   .rw[aB rfl]at B G;have IT:f_.length<31:=by simp at G;omega
    tm_at"w";refine⟨(by intro e;injection e with e;cases e),IT,?_⟩;exact B _ _ ⟨rfl,F,v2⟩
  .grind
 .rintro kM g_ ⟨rfl,_⟩;rw[YV,aX];tm_at"w";apply jO (qM _);have i5:=mI (τ:=[.set (ku [] ((qL os ps rows).map j2))]) V;have d5:=mI (τ:=[.set (ku [] ((qL os ps rows).map j2))]) d4;have s5:(g_++[j3.set (ku [] ((qL os ps rows).map j2))])[g_.length]?=some (.set (ku [] ((qL os ps rows).map j2))):=mH;have ho5:=W.j7 (jp.app [] g_ [j3.set (ku [] ((qL os ps rows).map j2))]);have hp5:=A.j7 (jp.app [] g_ [j3.set (ku [] ((qL os ps rows).map j2))]);have i:jp [dt] (g_++[j3.set (ku [] ((qL os ps rows).map j2))]) ((g_++[j3.set (ku [] ((qL os ps rows).map j2))]).set dt (.dict [("_objects",.ref (J.length+1)),("_properties",.ref (jf.length+1)),("_pairs",.ref g_.length)])):=jp.put (.head _);obtain⟨-,-,⟨_,j,-⟩,lo1,-⟩:=id W;obtain⟨-,-,⟨_,so2,-⟩,lo2,-⟩:=id A;have w1:=kH j;have w2:=kH lo1;have w3:=kH so2;have w4:=kH lo2;obtain⟨-,-,⟨_,j,-⟩,lo1,-⟩:=id l;have w5:=kH j;have w6:=kH lo1;dsimp only at w1 w2 w3 w4 w5 w6;have ho6:=ho5.keep i (by intro z d;rw[aN]at d;subst d;refine⟨?_,?_,?_,?_⟩<;>(dsimp only;omega));have XZ:=hp5.keep i (by intro z d;rw[aN]at d;subst d;refine⟨?_,?_,?_,?_⟩<;>(dsimp only;omega));tm_at"w";refine k _ ⟨J.length+1,J.length,P,lo⟩ ⟨jf.length+1,jf.length,S,lp⟩ g_.length ?_ ?_ ⟨kn i5 O,k_ d5,?_,?_,⟨_,kn s5 (show dt≠g_.length by omega),lR _ _ .nil,λe=>?_⟩,?_,?_,?_,?_⟩
  .have kA:jp [dt] J jf:=D.more.trans E;have kB:jp [dt] J g_:=(kA.trans s.more).trans y;exact(kB.trans (jp.app ..)).trans i
  .intro z d;simp only[af,bl,cI]at d
   grind
  .exact ho6
  .exact XZ
  .rw[lN,aM]
   grind
  .show P≠S;omega
  .show lo≠lp;omega
  .show P≠g_.length;omega
  .show S≠g_.length;omega
def OM(a:2<=n)(c:Fx L){j:Int}(h:TabAt J T os ps xs)(f:lm x)(g:-1000<=j)(k:j<=1000)
  (l:x∈os->∀g_,jp T.lg J g_->TabAt g_ T (lS os x j) ps xs->K .none g_) (m:x∉os->X ⟨"ValueError",true⟩ J):(lv L n).fn 724 [.ref T.t,.str x,.int j] J K X:=by
 refine j6 a c (I:=H.Sg) (Y:=[("index",.int j),("obj",.str x),("self",.ref T.t)]) rfl rfl λn a=>?_;have q:=h;obtain⟨i,d,o,p,-⟩:=h;obtain⟨s,od,-⟩:=id o;tm_at"w";refine Jt a c o f g k (λb g_ e r=>?_) λb=>m b;tm_at"w";exact l b g_ (e.mono t0) (q.F3 e r)
def ON(a:2<=n)(c:Fx L){j:Int}(h:TabAt J T os ps xs)(f:lm x)(g:-1000<=j)(k:j<=1000)
  (l:x∈ps->∀g_,jp T.lg J g_->TabAt g_ T os (lS ps x j) xs->K .none g_) (m:x∉ps->X ⟨"ValueError",true⟩ J):(lv L n).fn 731 [.ref T.t,.str x,.int j] J K X:=by
 refine j6 a c (I:=H.Sh) (Y:=[("index",.int j),("prop",.str x),("self",.ref T.t)]) rfl rfl λn a=>?_;have q:=h;obtain⟨i,d,o,p,-⟩:=h;obtain⟨s,od,-⟩:=id p;tm_at"w";refine Jt a c p f g k (λb g_ e r=>?_) λb=>m b;tm_at"w";exact l b g_ (e.mono t4) (q.F4 e r)
def Jw(f:2<=n)(g:Fx L){a b:Str}{v:aY}(h:TabAt J T os ps xs)(sub:∀x∈xs,x.1∈os/\x.2∈ps)(C:lm a)(D:lm b)(M:os.length*ps.length<=30)
  (k:∀g_ iQ,jp T.lg J g_->(∀z,z∈iQ↔(if z=(a,b)then v=true else z∈xs))->TabAt g_ T (if a∈os then os else os++[a]) (if b∈ps then ps else ps++[b]) iQ->K .none g_):(lv L n).fn 738 [.ref T.t,.tup [.str a,.str b],.bool v] J K X:=by
 refine j6 f g (I:=H.N8) (Y:=[("value",.bool v),("pair",.tup [.str a,.str b]),("self",.ref T.t)]) rfl rfl λn f=>?_;have E:=h;obtain⟨i,d,o,p,⟨els,s,N,O⟩,ns,P,Q,R⟩:=h;obtain⟨S,od,-⟩:=id o;tm_at"w";apply tX;tm_at"w";refine tY f g o C λU r F=>?_;have u:=E.F3 r F;obtain⟨V,d1,-,w,-⟩:=id u;obtain⟨W,Z,-⟩:=id w;tm_at"w";refine tY f g w D λjf y G=>?_;have j:=u.F4 y G;have A:=(r.mono t0).trans (y.mono t4);obtain⟨i2,d2,-,-,⟨k8,B,l,c⟩,-⟩:=id j;have iP:=mY l c sub;cases v
 .tm_at"w";apply u_ B (e:=j2 (a,b)) rfl (kT c);tm_at"w";refine k _ (xs.filter λz=>decide (z≠(a,b))) (A.trans (jp.put oR)) (λz=>?_) (j.ww (l.erase _) λe=>?_)
  .grind
  .rw[l.mem_erase_iff,c];constructor
   .grind
   .rintro⟨x,m,rfl⟩;have⟨m,q⟩:=aD.mp m;exact⟨λe=>by have:=n7 e;simp[this]at q,x,m,rfl⟩
 .tm_at"w";apply xj B (e:=j2 (a,b)) rfl (kT c) (by intro e;cases e) (by omega);tm_at"w";refine k _ ((a,b)::xs) (A.trans (jp.put oR)) (λz=>?_) (j.ww (els:=lj k8 (j2 (a,b))) ?_ λe=>?_)
  .grind
  .unfold lj
   grind
  .rw[nt,c]
   grind
def vg:∀(l els:kr),els.length+l.length<=31->stepOk lj (λels=>els.length<31) els l
 |[],_,_=>trivial
 |e::l,els,h=>by rw[aI]at h;have:=wV els e;exact⟨by omega,vg l _ (by omega)⟩
def AJ:∀(l els:kr),els.Nodup->(l.foldl List.erase els).Nodup/\∀e,e∈l.foldl List.erase els↔e∈els/\e∉l
 |[],els,b=>⟨b,by simp⟩
 |a::l,els,b=>by
  have⟨c,d⟩:=AJ l (els.erase a) (b.erase a)
  grind
def Jx(h:Seq b l)(k:KL l J):E7 L.Kf fn b J KL:=by
 cases h with
 |lst=>exact k
 |tup=>exact k
def F5:e∈kU (some x) none ms↔∃m∈ms,e=j2 (x,m):=by
 unfold kU;rw[aM];constructor
 .rintro⟨m,a,rfl⟩;exact⟨m,a,rfl⟩
 .rintro⟨m,a,rfl⟩;exact⟨m,a,rfl⟩
def F6:e∈kU none (some x) ms↔∃m∈ms,e=j2 (m,x):=by
 unfold kU;rw[aM];constructor
 .rintro⟨m,a,rfl⟩;exact⟨m,a,rfl⟩
 .rintro⟨m,a,rfl⟩;exact⟨m,a,rfl⟩
def OO{a b:az Str}:(kU a b ms).length=ms.length:=ah ..
def DF(c:3<=n)(a:Fx L)(E:(rC H.FC l).map List.reverse=some ([("properties",b),("obj",.str x),("self",.ref T.t)]:j9))(h:TabAt J T os ps xs)(sub:∀x∈xs,x.1∈os/\x.2∈ps)(F:lm x)(j:Seq b (ms.map .str))(ok:∀x∈ms,lm x)(R:os.length*ps.length+ms.length<=31)
  (k:∀g_ iQ,jp T.lg J g_->(∀z,z∈iQ↔z∈xs∨(z.1=x/\z.2∈ms))->TabAt g_ T (if x∈os then os else os++[x]) (jM ps ms) iQ->K .none g_):(lv L n).fn 747 l J K X:=by
 refine j6 c a (I:=H.FC) rfl E λn c=>?_;obtain⟨i,d,o,p,-⟩:=id h;obtain⟨S,od,-⟩:=id o;tm_at"w";refine tY (by omega) a o F λU q G=>?_;have r:=h.F3 q G;obtain⟨V,d1,-,s,-⟩:=id r;obtain⟨M,N,-⟩:=id s;tm_at"w";refine wh M N a.wj a.wi (OH c a s j ok λO w P=>?_);have y:=r.F4 w P;obtain⟨W,d2,-⟩:=id y;tm_at"w";have⟨f,A⟩:=y.DE rfl;have B:=((q.mono t0).trans (w.mono t4)).trans A.more;rw[show u6 _ _ _=[(("_objects":Str),AV.ref T.o.u),(("_properties":Str),AV.ref T.p.u),(("_pairs":Str),AV.ref T.k)]from rfl];generalize O.set T.dt _=Y at f A B;obtain⟨Q,d3,-,-,⟨els,C,D,g⟩,-⟩:=id f;have Z:=mY D g sub;refine⟨vf a rfl,?_⟩
 conv=>whnf
 apply sx
 conv=>whnf
 refine⟨rfl,rfl,?_⟩
 conv=>whnf
 apply rd rfl rfl;apply mA Q d3 a.sA rfl rfl;refine jO (wx (by tm_at"d") (by tm_at"d") (by tm_at"d") rfl) (jO (wy (by tm_at"d")) ⟨⟨els,C⟩,?_⟩)
 conv=>whnf
 apply rd rfl rfl;apply Jx j;apply jO (lQ ms);rw[C];refine⟨kT g,?_⟩;rw[aB rfl];refine⟨vg _ _ (by rw[OO];omega),?_⟩;tm_at"w";refine k _ (xs++ms.map λm=>(x,m)) (B.trans (jp.put oR)) (λz=>?_) (f.ww (els:=ku els (kU (some x) none ms)) (lR _ _ D) λe=>?_)
 .grind
 .rw[lN,g,F5];constructor
  .grind
  .grind
def Jy(c:3<=n)(a:Fx L)(E:(rC H.FD l).map List.reverse=some ([("objects",b),("prop",.str x),("self",.ref T.t)]:j9))(h:TabAt J T os ps xs)(sub:∀x∈xs,x.1∈os/\x.2∈ps)(F:lm x)(j:Seq b (ms.map .str))(ok:∀x∈ms,lm x)(R:os.length*ps.length+ms.length<=31)
  (k:∀g_ iQ,jp T.lg J g_->(∀z,z∈iQ↔z∈xs∨(z.2=x/\z.1∈ms))->TabAt g_ T (jM os ms) (if x∈ps then ps else ps++[x]) iQ->K .none g_):(lv L n).fn 756 l J K X:=by
 refine j6 c a (I:=H.FD) rfl E λn c=>?_;obtain⟨i,d,o,p,-⟩:=id h;obtain⟨S,od,-⟩:=id p;tm_at"w";refine tY (by omega) a p F λU q G=>?_;have r:=h.F4 q G;obtain⟨V,d1,s,-,-⟩:=id r;obtain⟨M,N,-⟩:=id s;tm_at"w";refine wh M N a.wj a.wi (OH c a s j ok λO w P=>?_);have y:=r.F3 w P;obtain⟨W,d2,-⟩:=id y;tm_at"w";have⟨f,A⟩:=y.DE rfl;have B:=((q.mono t4).trans (w.mono t0)).trans A.more;rw[show u6 _ _ _=[(("_objects":Str),AV.ref T.o.u),(("_properties":Str),AV.ref T.p.u),(("_pairs":Str),AV.ref T.k)]from rfl];generalize O.set T.dt _=Y at f A B;obtain⟨Q,d3,-,-,⟨els,C,D,g⟩,-⟩:=id f;have Z:=mY D g sub;refine⟨vf a rfl,?_⟩
 conv=>whnf
 apply sx
 conv=>whnf
 refine⟨rfl,rfl,?_⟩
 conv=>whnf
 apply rd rfl rfl;apply mA Q d3 a.sA rfl rfl;refine jO (wy (by tm_at"d")) (jO (wx (by tm_at"d") (by tm_at"d") (by tm_at"d") rfl) ⟨⟨els,C⟩,?_⟩)
 conv=>whnf
 apply rd rfl rfl;apply Jx j;apply jO (lQ ms);rw[C];refine⟨kT g,?_⟩;rw[aB rfl];refine⟨vg _ _ (by rw[OO];omega),?_⟩;tm_at"w";refine k _ (xs++ms.map λm=>(m,x)) (B.trans (jp.put oR)) (λz=>?_) (f.ww (els:=ku els (kU none (some x) ms)) (lR _ _ D) λe=>?_)
 .grind
 .rw[lN,g,F6];constructor
  .grind
  .grind
def QP(j:3<=n)(a:Fx L)(h:TabAt J T os ps xs)(sub:∀x∈xs,x.1∈os/\x.2∈ps)(M:os.length*ps.length<=30)
  (w:x∈os->∀g_ iQ,jp T.lg J g_->(∀z,z∈iQ↔z∈xs/\z.1≠x)->TabAt g_ T (os.filter λy=>decide (y≠x)) ps iQ->K .none g_) (A:x∉os->X ⟨"KeyError",true⟩ J):(lv L n).fn 763 [.ref T.t,.str x] J K X:=by
 refine j6 j a (I:=H.Si) (Y:=[("obj",.str x),("self",.ref T.t)]) rfl rfl λn j=>?_;obtain⟨i,d,o,p,-⟩:=id h;obtain⟨N,od,-⟩:=id o;tm_at"w";by_cases b:x∈os
 case neg=>exact ya (by omega) a o b (A b)
 refine Cd (by omega) a o b λO k B=>?_;have l:=h.F3 k B;have C:=k.mono t0;obtain⟨r,d3,-,D,⟨els,s,u,c⟩,-⟩:=id l;have P:=mY u c sub;tm_at"w";refine⟨vf a rfl,?_⟩
 conv=>whnf
 apply sx
 conv=>whnf
 refine⟨rfl,rfl,?_⟩
 conv=>whnf
 apply rd rfl rfl;apply mA r d3 a.sA rfl rfl;refine jO (wx (by tm_at"d") (by tm_at"d") (by tm_at"d") rfl) (jO (wy (by tm_at"d")) ⟨⟨els,s⟩,?_⟩)
 conv=>whnf
 apply sx
 conv=>whnf
 refine⟨rfl,rfl,?_⟩
 conv=>whnf
 apply rd rfl rfl;apply mA r d3 a.wn rfl rfl;refine Ie (by omega) a D λQ f=>?_;refine jO (lQ ps) ?_;have E:=l.j7 f;rw[f.get (by simp) s];refine⟨kT c,?_⟩;rw[aA (by tm_at"d")];refine⟨rfl,by omega,?_⟩;have⟨F,G⟩:=AJ (kU (some x) none ps) els u;tm_at"w";refine w b _ (xs.filter λz=>decide (z.1≠x)) ((C.trans f.more).trans (jp.put oR)) (λz=>?_) (E.ww (els:=(kU (some x) none ps).foldl List.erase els) F λe=>?_)
 .rw[aD,c9]
 .rw[G,c,F5];constructor
  .grind
  .rintro⟨y,g,rfl⟩;have⟨g,q⟩:=aD.mp g;refine⟨⟨y,g,rfl⟩,?_⟩;rintro⟨m,R,e⟩;have:=n7 e;rw[this]at q;simp at q
def QQ(j:3<=n)(a:Fx L)(h:TabAt J T os ps xs)(sub:∀x∈xs,x.1∈os/\x.2∈ps)(M:os.length*ps.length<=30)
  (w:x∈ps->∀g_ iQ,jp T.lg J g_->(∀z,z∈iQ↔z∈xs/\z.2≠x)->TabAt g_ T os (ps.filter λy=>decide (y≠x)) iQ->K .none g_) (A:x∉ps->X ⟨"KeyError",true⟩ J):(lv L n).fn 770 [.ref T.t,.str x] J K X:=by
 refine j6 j a (I:=H.Sj) (Y:=[("prop",.str x),("self",.ref T.t)]) rfl rfl λn j=>?_;obtain⟨i,d,o,p,-⟩:=id h;obtain⟨N,od,-⟩:=id p;tm_at"w";by_cases b:x∈ps
 case neg=>exact ya (by omega) a p b (A b)
 refine Cd (by omega) a p b λO k B=>?_;have l:=h.F4 k B;have C:=k.mono t4;obtain⟨r,d3,D,-,⟨els,s,u,c⟩,-⟩:=id l;have P:=mY u c sub;tm_at"w";refine⟨vf a rfl,?_⟩
 conv=>whnf
 apply sx
 conv=>whnf
 refine⟨rfl,rfl,?_⟩
 conv=>whnf
 apply rd rfl rfl;apply mA r d3 a.sA rfl rfl;refine jO (wy (by tm_at"d")) (jO (wx (by tm_at"d") (by tm_at"d") (by tm_at"d") rfl) ⟨⟨els,s⟩,?_⟩)
 conv=>whnf
 apply sx
 conv=>whnf
 refine⟨rfl,rfl,?_⟩
 conv=>whnf
 apply rd rfl rfl;apply mA r d3 a.B9 rfl rfl;refine Ie (by omega) a D λQ f=>?_;refine jO (lQ os) ?_;have E:=l.j7 f;rw[f.get (by simp) s];refine⟨kT c,?_⟩;rw[aA (by tm_at"d")];refine⟨rfl,by omega,?_⟩;have⟨F,G⟩:=AJ (kU none (some x) os) els u;tm_at"w";refine w b _ (xs.filter λz=>decide (z.2≠x)) ((C.trans f.more).trans (jp.put oR)) (λz=>?_) (E.ww (els:=(kU none (some x) os).foldl List.erase els) F λe=>?_)
 .rw[aD,c9]
 .rw[G,c,F6];constructor
  .grind
  .rintro⟨y,g,rfl⟩;have⟨g,q⟩:=aD.mp g;refine⟨⟨y,g,rfl⟩,?_⟩;rintro⟨m,R,e⟩;have:=n7 e;rw[this]at q;simp at q
def QR(R:3<=n)(D:Fx L)(h:TabAt J T os ps xs)(sub:∀x∈xs,x.1∈os/\x.2∈ps)(hx:lm x)(hy:lm y)(hl:os.length*ps.length+ps.length<=31)
  (k1:x∈os->y∉os->∀g_ iQ,jp T.lg J g_->(∀z,z∈iQ↔∃w∈xs,z=(if w.1=x then y else w.1,w.2))->TabAt g_ T (os.map λz=>if z=x then y else z) ps iQ->K .none g_) (k2:y∈os∨x∉os->X ⟨"ValueError",true⟩ J):(lv L n).fn 712 [.ref T.t,.str x,.str y] J K X:=by
 refine j6 R D (I:=H.Se) (Y:=[("new",.str y),("old",.str x),("self",.ref T.t)]) rfl rfl λn R=>?_;obtain⟨i,d,o,p,-⟩:=id h;obtain⟨oi,od,-⟩:=id o;tm_at"w";refine AE (by omega) D o hx hy (λm1 m2 iT S ho=>?_) λq=>k2 q;have U:=h.F3 S ho;have km:=S.mono t0;obtain⟨i1,d1,-,p1,⟨zp,s0,f01,f02⟩,-⟩:=id U;tm_at"w";refine un (by omega) D p1 λjf V=>?_;have T2:=U.j7 V;refine we (λl Y g_ f_=>∃dn m c,ps=dn++m/\l=m.map AV.str/\f_=((dn.filter λp=>decide ((x,p)∈xs)).map λp=>(y,p)).map jz/\jp T.lg J g_/\TabAt g_ T (os.map λz=>if z=x then y else z) ps c/\(∀z,z∈c↔z∈xs/\¬(z.1=x/\z.2∈dn))/\
   VL Y "old" (.str x)/\VL Y "new" (.str y)/\VL Y "pairs" (.ref T.k)) (λ_ _ _ _ ⟨_,_,_,_,_,_,_,t,_⟩=>t.p.l) ?_ ?_ _ _ _ _ ⟨[],ps,xs,rfl,rfl,rfl,km.trans V.more,T2,by simp,rfl,rfl,rfl⟩
 .rintro a l Y g_ f_ K' ⟨dn,m,c,g,A,rfl,B,j,E,F,G,M⟩ W;cases m with
  |nil=>cases A
  |cons q m=>
  injection A with ea el;subst ea el;have Z:=h.p.nd;rw[g]at Z;have qn:q∉dn:=λhq=>(aK.mp Z).2.2 q hq q (.head _) rfl;obtain⟨i3,d3,-,-,⟨els,s,u,b⟩,-⟩:=id j;have MN:(((dn.filter λp=>decide ((x,p)∈xs)).map λp=>(y,p)).map jz).length<31:=by grind
  have X0:(x,q)∈c↔(x,q)∈xs:=by rw[E];exact⟨λh=>h.1,λh=>⟨h,λr=>qn r.2⟩⟩
  have RM:(dn++[q]).filter (λp=>decide ((x,p)∈xs))=dn.filter (λp=>decide ((x,p)∈xs))++(if(x,q)∈xs then[q]else[]):=by grind
  tm_at"w";refine po rfl s (e:=j2 (x,q)) rfl (kT b) λv N=>?_;rw[n8 b,X0]at N;cases v
  .have C:(x,q)∉xs:=by simpa using N
   tm_at"w";refine W _ _ _ ⟨dn++[q],m,c,by rw[g];simp,rfl,?_,B,j,?_,F,G,M⟩
   .rw[RM,aA C,bh]
   .grind
  .have C:=N.mp rfl;tm_at"w";refine uk s (e:=j2 (x,q)) rfl (kT b) ((n8 b).mpr (X0.mpr C)) ?_;tm_at"w";refine⟨(by intro e;injection e with e;cases e),MN,?_⟩;refine W _ _ _ ⟨dn++[q],m,c.filter λz=>decide (z≠(x,q)),by rw[g];simp,rfl,?_,B.trans (jp.put oR),j.ww (u.erase _) (λe=>?_),?_,F,G,M⟩
   .rw[RM,aB C,bB,bB];rfl
   .rw[u.mem_erase_iff,b];constructor
    .grind
    .rintro⟨w,O,rfl⟩;obtain⟨O,r⟩:=aD.mp O;exact⟨λe=>by have:=n7 e;simp[this]at r,w,O,rfl⟩
   .grind
 .rintro kM g_ f_ ⟨dn,m,c,g,A,rfl,B,j,E,F,G,M⟩;cases m with
  |cons q m=>cases A
  |nil=>
  rw[bh]at g;subst g;tm_at"w";refine jO (qM _) ?_;obtain⟨i3,d3,-,-,⟨els,s,u,b⟩,-⟩:=id j;have iP:=mY u b λz hz=>sub z ((E z).mp hz).1;have s4:=mI (τ:=[.set (ku [] (((ps.filter λp=>decide ((x,p)∈xs)).map λp=>(y,p)).map j2))]) s;have T4:=j.j7 (jp.app [] g_ [j3.set (ku [] (((ps.filter λp=>decide ((x,p)∈xs)).map λp=>(y,p)).map j2))]);have rQ:=B.trans (jp.app T.lg g_ [j3.set (ku [] (((ps.filter λp=>decide ((x,p)∈xs)).map λp=>(y,p)).map j2))]);have lk:=kH s;have ln:(ku [] (((ps.filter λp=>decide ((x,p)∈xs)).map λp=>(y,p)).map j2)).length<=ps.length:=by
   have h1:=si (((ps.filter λp=>decide ((x,p)∈xs)).map λp=>(y,p)).map j2) []
   grind
  have P:∀f,f∈ku [] (((ps.filter λp=>decide ((x,p)∈xs)).map λp=>(y,p)).map j2)↔∃p,(x,p)∈xs/\f=j2 (y,p):=by
   intro f;rw[lN,aM];constructor
   .grind
   .grind
  tm_at"w";refine Jn s4 (by omega) mH (kT b) (λf Q=>by obtain⟨p,_,rfl⟩:=(P f).mp Q;rfl) (λf Q=>by obtain⟨p,_,rfl⟩:=(P f).mp Q;intro e;cases e) (by omega) ?_;tm_at"w";refine k1 m1 m2 _ (xs.map λw=>(if w.1=x then y else w.1,w.2)) (rQ.trans (jp.put oR)) (λz=>?_) (T4.ww (lR _ _ u) λe=>?_)
  .grind
  .rw[lN,b,P];constructor
   .grind
   .grind
def QS(R:3<=n)(D:Fx L)(h:TabAt J T os ps xs)(sub:∀x∈xs,x.1∈os/\x.2∈ps)(hx:lm x)(hy:lm y)(hl:os.length*ps.length+os.length<=31)
  (k1:x∈ps->y∉ps->∀g_ iQ,jp T.lg J g_->(∀z,z∈iQ↔∃w∈xs,z=(w.1,if w.2=x then y else w.2))->TabAt g_ T os (ps.map λz=>if z=x then y else z) iQ->K .none g_) (k2:y∈ps∨x∉ps->X ⟨"ValueError",true⟩ J):(lv L n).fn 717 [.ref T.t,.str x,.str y] J K X:=by
 refine j6 R D (I:=H.Sf) (Y:=[("new",.str y),("old",.str x),("self",.ref T.t)]) rfl rfl λn R=>?_;obtain⟨i,d,o,p,-⟩:=id h;obtain⟨oi,od,-⟩:=id p;tm_at"w";refine AE (by omega) D p hx hy (λm1 m2 iT S ho=>?_) λq=>k2 q;have U:=h.F4 S ho;have km:=S.mono t4;obtain⟨i1,d1,p1,-,⟨zp,s0,f01,f02⟩,-⟩:=id U;tm_at"w";refine un (by omega) D p1 λjf V=>?_;have T2:=U.j7 V;refine we (λl Y g_ f_=>∃dn m c,os=dn++m/\l=m.map AV.str/\f_=((dn.filter λp=>decide ((p,x)∈xs)).map λp=>(p,y)).map jz/\jp T.lg J g_/\TabAt g_ T os (ps.map λz=>if z=x then y else z) c/\(∀z,z∈c↔z∈xs/\¬(z.2=x/\z.1∈dn))/\
   VL Y "old" (.str x)/\VL Y "new" (.str y)/\VL Y "pairs" (.ref T.k)) (λ_ _ _ _ ⟨_,_,_,_,_,_,_,t,_⟩=>t.o.l) ?_ ?_ _ _ _ _ ⟨[],os,xs,rfl,rfl,rfl,km.trans V.more,T2,by simp,rfl,rfl,rfl⟩
 .rintro a l Y g_ f_ K' ⟨dn,m,c,g,A,rfl,B,j,E,F,G,M⟩ W;cases m with
  |nil=>cases A
  |cons q m=>
  injection A with ea el;subst ea el;have Z:=h.o.nd;rw[g]at Z;have qn:q∉dn:=λhq=>(aK.mp Z).2.2 q hq q (.head _) rfl;obtain⟨i3,d3,-,-,⟨els,s,u,b⟩,-⟩:=id j;have MN:(((dn.filter λp=>decide ((p,x)∈xs)).map λp=>(p,y)).map jz).length<31:=by grind
  have X0:(q,x)∈c↔(q,x)∈xs:=by rw[E];exact⟨λh=>h.1,λh=>⟨h,λr=>qn r.2⟩⟩
  have RM:(dn++[q]).filter (λp=>decide ((p,x)∈xs))=dn.filter (λp=>decide ((p,x)∈xs))++(if(q,x)∈xs then[q]else[]):=by grind
  tm_at"w";refine po rfl s (e:=j2 (q,x)) rfl (kT b) λv N=>?_;rw[n8 b,X0]at N;cases v
  .have C:(q,x)∉xs:=by simpa using N
   tm_at"w";refine W _ _ _ ⟨dn++[q],m,c,by rw[g];simp,rfl,?_,B,j,?_,F,G,M⟩
   .rw[RM,aA C,bh]
   .grind
  .have C:=N.mp rfl;tm_at"w";refine uk s (e:=j2 (q,x)) rfl (kT b) ((n8 b).mpr (X0.mpr C)) ?_;tm_at"w";refine⟨(by intro e;injection e with e;cases e),MN,?_⟩;refine W _ _ _ ⟨dn++[q],m,c.filter λz=>decide (z≠(q,x)),by rw[g];simp,rfl,?_,B.trans (jp.put oR),j.ww (u.erase _) (λe=>?_),?_,F,G,M⟩
   .rw[RM,aB C,bB,bB];rfl
   .rw[u.mem_erase_iff,b];constructor
    .grind
    .rintro⟨w,O,rfl⟩;obtain⟨O,r⟩:=aD.mp O;exact⟨λe=>by have:=n7 e;simp[this]at r,w,O,rfl⟩
   .grind
 .rintro kM g_ f_ ⟨dn,m,c,g,A,rfl,B,j,E,F,G,M⟩;cases m with
  |cons q m=>cases A
  |nil=>
  rw[bh]at g;subst g;tm_at"w";refine jO (qM _) ?_;obtain⟨i3,d3,-,-,⟨els,s,u,b⟩,-⟩:=id j;have iP:=mY u b λz hz=>sub z ((E z).mp hz).1;have s4:=mI (τ:=[.set (ku [] (((os.filter λp=>decide ((p,x)∈xs)).map λp=>(p,y)).map j2))]) s;have T4:=j.j7 (jp.app [] g_ [j3.set (ku [] (((os.filter λp=>decide ((p,x)∈xs)).map λp=>(p,y)).map j2))]);have rQ:=B.trans (jp.app T.lg g_ [j3.set (ku [] (((os.filter λp=>decide ((p,x)∈xs)).map λp=>(p,y)).map j2))]);have lk:=kH s;have ln:(ku [] (((os.filter λp=>decide ((p,x)∈xs)).map λp=>(p,y)).map j2)).length<=os.length:=by
   have h1:=si (((os.filter λp=>decide ((p,x)∈xs)).map λp=>(p,y)).map j2) []
   grind
  have P:∀f,f∈ku [] (((os.filter λp=>decide ((p,x)∈xs)).map λp=>(p,y)).map j2)↔∃p,(p,x)∈xs/\f=j2 (p,y):=by
   intro f;rw[lN,aM];constructor
   .grind
   .grind
  tm_at"w";refine Jn s4 (by omega) mH (kT b) (λf Q=>by obtain⟨p,_,rfl⟩:=(P f).mp Q;rfl) (λf Q=>by obtain⟨p,_,rfl⟩:=(P f).mp Q;intro e;cases e) (by omega) ?_;tm_at"w";refine k1 m1 m2 _ (xs.map λw=>(w.1,if w.2=x then y else w.2)) (rQ.trans (jp.put oR)) (λz=>?_) (T4.ww (lR _ _ u) λe=>?_)
  .grind
  .rw[lN,b,P];constructor
   .grind
   .grind
def Lg{f:α->β}(c:∀a b,f a=f b->a=b):∀{l:List α},l.Nodup->(l.map f).Nodup
 |[],_=>.nil
 |a::l,h=>by grind
def AK:∀l:jK,xb (l.map .str)=some (l.map .one)
 |[]=>rfl
 |a::l=>by show(xb (l.map .str)).map (El.one a::·)=_;rw[AK l];rfl
def Ih{a:AV}(h:Seq a l):HV a=some l:=by cases h<;>rfl
def F7{a:AV}(h:Seq a (ms.map .str))(c:ms.length<=31)(d:ms.Nodup)(q:∀els o,els.Perm (ms.map .one)->K (.ref J.length) (J++[.mP els o])):ny L fn pY lam (.val (.type "set")) [a] J K X:=by apply kX;refine jO (Ih h) (jO (AK ms) ⟨by rw[ah];exact c,λo=>q _ o (uY ?_)⟩);exact Lg (λa b e=>by injection e) d
def Jz(hd:3<=n)(j:Fx L){P:jK}(h:TabAt J T os ps xs)(sub:∀x∈xs,x.1∈os/\x.2∈ps)(hx:lm x)(hs:Seq b (ms.map .str))(ok:∀x∈ms,lm x)(G:ms.Nodup)
  (hO:∀z∈os,z∈O) (hxO:x∈O) (hP:∀z∈ps,z∈P) (hmP:∀z∈ms,z∈P) (hl:O.length*P.length<=30)
  (k:∀g_ rP iQ,rP.Perm ms->jp T.lg J g_->(∀z,z∈iQ↔(z∈xs/\z.1≠x)∨(z.1=x/\z.2∈ms))->TabAt g_ T (if x∈os then os else os++[x]) (jM ps rP) iQ->K .none g_):(lv L n).fn 777 [.ref T.t,.str x,b] J K X:=by
 refine j6 hd j (I:=H.Sk) (Y:=[("properties",b),("obj",.str x),("self",.ref T.t)]) rfl rfl λn hd=>?_;have hml:ms.length<=10:=kS (m:=nI) G ok;obtain⟨i,d,o,p,-⟩:=id h;obtain⟨oi,od,-⟩:=id o;tm_at"w";refine tY (by omega) j o hx λc l_ ho=>?_;have T1:=h.F3 l_ ho;tm_at"w";refine F7 hs (by omega) G λs A Ps=>?_;have T2:=T1.j7 (jp.app [] c [j3.mP s A]);have lE:jp [] c (c++[j3.mP s A]):=jp.app ..;have B:(c++[j3.mP s A])[c.length]?=some (.mP s A):=mH;generalize c++[j3.mP s A]=jf at T2 lE B;obtain⟨i2,d2,-,p2,-⟩:=id T2;obtain⟨pi,pd,⟨pe,Vf,-⟩,pl,-⟩:=id p2;tm_at"w";refine wh pi pd j.wj j.wi (Ju hd j p2 B Ps ok λj1 rP hp qK PE=>?_);have T3:=T2.F4 qK PE;have hf3:j1[c.length]?=some (.mP s A):=qK.get (λm=>by
  rcases af.mp m with e|m
  .rw[e,Vf]at B;cases B
  .rw[aN]at m;rw[m,pl]at B;cases B) B
 obtain⟨i3,d3,-⟩:=id T3;tm_at"w";have⟨T4,rQ⟩:=T3.DE rfl;have X1:=rQ.get (by simp) hf3;have km:jp T.lg J _:=(((l_.mono t0).trans lE.more).trans (qK.mono t4)).trans rQ.more;rw[show u6 _ _ _=[(("_objects":Str),AV.ref T.o.u),(("_properties":Str),AV.ref T.p.u),(("_pairs":Str),AV.ref T.k)]from rfl];generalize j1.set T.dt _=lY at T4 rQ km X1;obtain⟨i4,d4,-,p4,-⟩:=id T4;apply mA i4 d4 j.sA rfl rfl;tm_at"w";refine un (by omega) j p4 λoY GI=>?_;have T5:=T4.j7 GI;have hf5:=GI.get (by simp) X1;have te:∀q,q∈jM ps rP↔q∈ps∨q∈ms:=λq=>by rw[ll,hp.mem_iff]
 refine nN (λl Y g_=>∃dn m C,jM ps rP=dn++m/\l=m.map AV.str/\jp T.lg J g_/\TabAt g_ T (if x∈os then os else os++[x]) (jM ps rP) C/\(∀z,z∈C↔(z∈xs/\¬(z.1=x/\z.2∈dn))∨(z.1=x/\z.2∈dn/\z.2∈ms))/\g_[c.length]?=some (.mP s A)/\
   VL Y "obj" (.str x)/\VL Y "properties" (.ref c.length)/\VL Y "pairs" (.ref T.k)) (λ_ _ _ ⟨_,_,_,_,_,_,t,_⟩=>t.p.l) ?_ ?_ _ _ _ ⟨[],jM ps rP,xs,rfl,rfl,km.trans GI.more,T5,by simp,hf5,rfl,rfl,rfl⟩
 .rintro a l Y g_ K' ⟨dn,m,C,D,U,V,E,M,N,v1,v2,v3⟩ hk _ _;cases m with
  |nil=>cases U
  |cons q m=>
  injection U with ea el;subst ea el;have G:=E.p.nd;rw[D]at G;have qn:q∉dn:=λhq=>(aK.mp G).2.2 q hq q (.head _) rfl;obtain⟨i6,d6,-,-,⟨els,W,Q,R⟩,-⟩:=id E;have nk:T.k≠c.length:=by intro e;rw[e,N]at W;cases W
  have hq0:q∈jM ps rP:=by rw[D];simp
  have iP:=mY (os:=O) (ps:=P) Q R λz F=>by
   rcases(M z).mp F with⟨F,_⟩|⟨e,_,F⟩
   .exact⟨hO _ (sub z F).1,hP _ (sub z F).2⟩
   .exact⟨e▸hxO,hmP _ F⟩
  tm_at"w";refine x_ rfl N (e:=.one q) rfl (λf U4=>by obtain⟨y,_,rfl⟩:=aM.mp (Ps.mem_iff.mp U4);rfl) λv hv=>?_;have LI:v=true↔q∈ms:=by
   rw[hv,Ps.mem_iff,aM];constructor
   .rintro⟨y,hy,e⟩;injection e with e;exact e▸hy
   .exact λh=>⟨q,h,rfl⟩
  cases v
  .have hc:q∉ms:=by simpa using LI
   tm_at"w";apply u_ W (e:=j2 (x,q)) rfl (kT R);tm_at"w";refine eg (hk _ _ ?_);refine⟨dn++[q],m,C.filter λz=>decide (z≠(x,q)),by rw[D];simp,rfl,V.trans (jp.put oR),E.ww (Q.erase _) (λe=>?_),λz=>?_,kn N nk,v1,v2,v3⟩
   .rw[Q.mem_erase_iff,R];constructor
    .grind
    .rintro⟨w,S,rfl⟩;have⟨S,r⟩:=aD.mp S;exact⟨λe=>by have:=n7 e;simp[this]at r,w,S,rfl⟩
   .rw[aD,M,c9];constructor
    .grind
    .grind
  .have hc:q∈ms:=LI.mp rfl;tm_at"w";apply xj W (e:=j2 (x,q)) rfl (kT R) (by intro e;cases e) (by omega);tm_at"w";refine eg (hk _ _ ?_);refine⟨dn++[q],m,(x,q)::C,by rw[D];simp,rfl,V.trans (jp.put oR),E.ww (els:=lj els (j2 (x,q))) ?_ (λe=>?_),λz=>?_,kn N nk,v1,v2,v3⟩
   .unfold lj;split
    .exact Q
    .rename_i q;exact aL.mpr ⟨q,Q⟩
   .rw[nt,R];constructor
    .rintro(⟨w,S,rfl⟩|rfl)
     .exact⟨w,.tail _ S,rfl⟩
     .exact⟨_,.head _,rfl⟩
    .grind
   .rw[af,M];constructor
    .grind
    .grind
 .rintro Y g_ ⟨dn,m,C,D,U,V,E,M,N,v1,v2,v3⟩;cases m with
  |cons q m=>cases U
  |nil=>
  rw[bh]at D;tm_at"w";refine k g_ rP C hp V (λz=>?_) E;rw[M,<-D];constructor
  .rintro(⟨g,Z⟩|⟨g,Z,a3⟩)
   .exact .inl ⟨g,λr=>Z ⟨r,(te _).mpr (.inl (sub z g).2)⟩⟩
   .exact .inr ⟨g,a3⟩
  .rintro(⟨g,Z⟩|⟨g,a3⟩)
   .exact .inl ⟨g,λr=>Z r.1⟩
   .exact .inr ⟨g,(te _).mpr (.inr a3),a3⟩
def JA(hd:3<=n)(j:Fx L){P:jK}(h:TabAt J T os ps xs)(sub:∀x∈xs,x.1∈os/\x.2∈ps)(hx:lm x)(hs:Seq b (ms.map .str))(ok:∀x∈ms,lm x)(G:ms.Nodup)
  (hO:∀z∈os,z∈O) (hxP:x∈P) (hP:∀z∈ps,z∈P) (hmO:∀z∈ms,z∈O) (hl:O.length*P.length<=30)
  (k:∀g_ rP iQ,rP.Perm ms->jp T.lg J g_->(∀z,z∈iQ↔(z∈xs/\z.2≠x)∨(z.2=x/\z.1∈ms))->TabAt g_ T (jM os rP) (if x∈ps then ps else ps++[x]) iQ->K .none g_):(lv L n).fn 784 [.ref T.t,.str x,b] J K X:=by
 refine j6 hd j (I:=H.Sm) (Y:=[("objects",b),("prop",.str x),("self",.ref T.t)]) rfl rfl λn hd=>?_;have hml:ms.length<=10:=kS (m:=nI) G ok;obtain⟨i,d,o,p,-⟩:=id h;obtain⟨oi,od,-⟩:=id p;tm_at"w";refine tY (by omega) j p hx λc l_ ho=>?_;have T1:=h.F4 l_ ho;tm_at"w";refine F7 hs (by omega) G λs A Ps=>?_;have T2:=T1.j7 (jp.app [] c [j3.mP s A]);have lE:jp [] c (c++[j3.mP s A]):=jp.app ..;have B:(c++[j3.mP s A])[c.length]?=some (.mP s A):=mH;generalize c++[j3.mP s A]=jf at T2 lE B;obtain⟨i2,d2,p2,-,-⟩:=id T2;obtain⟨pi,pd,⟨pe,Vf,-⟩,pl,-⟩:=id p2;tm_at"w";refine wh pi pd j.wj j.wi (Ju hd j p2 B Ps ok λj1 rP hp qK PE=>?_);have T3:=T2.F3 qK PE;have hf3:j1[c.length]?=some (.mP s A):=qK.get (λm=>by
  rcases af.mp m with e|m
  .rw[e,Vf]at B;cases B
  .rw[aN]at m;rw[m,pl]at B;cases B) B
 obtain⟨i3,d3,-⟩:=id T3;tm_at"w";have⟨T4,rQ⟩:=T3.DE rfl;have X1:=rQ.get (by simp) hf3;have km:jp T.lg J _:=(((l_.mono t4).trans lE.more).trans (qK.mono t0)).trans rQ.more;rw[show u6 _ _ _=[(("_objects":Str),AV.ref T.o.u),(("_properties":Str),AV.ref T.p.u),(("_pairs":Str),AV.ref T.k)]from rfl];generalize j1.set T.dt _=lY at T4 rQ km X1;obtain⟨i4,d4,p4,-,-⟩:=id T4;apply mA i4 d4 j.sA rfl rfl;tm_at"w";refine un (by omega) j p4 λoY GI=>?_;have T5:=T4.j7 GI;have hf5:=GI.get (by simp) X1;have te:∀q,q∈jM os rP↔q∈os∨q∈ms:=λq=>by rw[ll,hp.mem_iff]
 refine nN (λl Y g_=>∃dn m C,jM os rP=dn++m/\l=m.map AV.str/\jp T.lg J g_/\TabAt g_ T (jM os rP) (if x∈ps then ps else ps++[x]) C/\(∀z,z∈C↔(z∈xs/\¬(z.2=x/\z.1∈dn))∨(z.2=x/\z.1∈dn/\z.1∈ms))/\g_[c.length]?=some (.mP s A)/\
   VL Y "prop" (.str x)/\VL Y "objects" (.ref c.length)/\VL Y "pairs" (.ref T.k)) (λ_ _ _ ⟨_,_,_,_,_,_,t,_⟩=>t.o.l) ?_ ?_ _ _ _ ⟨[],jM os rP,xs,rfl,rfl,km.trans GI.more,T5,by simp,hf5,rfl,rfl,rfl⟩
 .rintro a l Y g_ K' ⟨dn,m,C,D,U,V,E,M,N,v1,v2,v3⟩ hk _ _;cases m with
  |nil=>cases U
  |cons q m=>
  injection U with ea el;subst ea el;have G:=E.o.nd;rw[D]at G;have qn:q∉dn:=λhq=>(aK.mp G).2.2 q hq q (.head _) rfl;obtain⟨i6,d6,-,-,⟨els,W,Q,R⟩,-⟩:=id E;have nk:T.k≠c.length:=by intro e;rw[e,N]at W;cases W
  have hq0:q∈jM os rP:=by rw[D];simp
  have iP:=mY (os:=O) (ps:=P) Q R λz F=>by
   rcases(M z).mp F with⟨F,_⟩|⟨e,_,F⟩
   .exact⟨hO _ (sub z F).1,hP _ (sub z F).2⟩
   .exact⟨hmO _ F,e▸hxP⟩
  tm_at"w";refine x_ rfl N (e:=.one q) rfl (λf U4=>by obtain⟨y,_,rfl⟩:=aM.mp (Ps.mem_iff.mp U4);rfl) λv hv=>?_;have LI:v=true↔q∈ms:=by
   rw[hv,Ps.mem_iff,aM];constructor
   .rintro⟨y,hy,e⟩;injection e with e;exact e▸hy
   .exact λh=>⟨q,h,rfl⟩
  cases v
  .have hc:q∉ms:=by simpa using LI
   tm_at"w";apply u_ W (e:=j2 (q,x)) rfl (kT R);tm_at"w";refine eg (hk _ _ ?_);refine⟨dn++[q],m,C.filter λz=>decide (z≠(q,x)),by rw[D];simp,rfl,V.trans (jp.put oR),E.ww (Q.erase _) (λe=>?_),λz=>?_,kn N nk,v1,v2,v3⟩
   .rw[Q.mem_erase_iff,R];constructor
    .grind
    .rintro⟨w,S,rfl⟩;have⟨S,r⟩:=aD.mp S;exact⟨λe=>by have:=n7 e;simp[this]at r,w,S,rfl⟩
   .rw[aD,M,c9];constructor
    .grind
    .grind
  .have hc:q∈ms:=LI.mp rfl;tm_at"w";apply xj W (e:=j2 (q,x)) rfl (kT R) (by intro e;cases e) (by omega);tm_at"w";refine eg (hk _ _ ?_);refine⟨dn++[q],m,(q,x)::C,by rw[D];simp,rfl,V.trans (jp.put oR),E.ww (els:=lj els (j2 (q,x))) ?_ (λe=>?_),λz=>?_,kn N nk,v1,v2,v3⟩
   .unfold lj;split
    .exact Q
    .rename_i q;exact aL.mpr ⟨q,Q⟩
   .rw[nt,R];constructor
    .rintro(⟨w,S,rfl⟩|rfl)
     .exact⟨w,.tail _ S,rfl⟩
     .exact⟨_,.head _,rfl⟩
    .grind
   .rw[af,M];constructor
    .grind
    .grind
 .rintro Y g_ ⟨dn,m,C,D,U,V,E,M,N,v1,v2,v3⟩;cases m with
  |cons q m=>cases U
  |nil=>
  rw[bh]at D;tm_at"w";refine k g_ rP C hp V (λz=>?_) E;rw[M,<-D];constructor
  .rintro(⟨g,Z⟩|⟨g,Z,a3⟩)
   .exact .inl ⟨g,λr=>Z ⟨r,(te _).mpr (.inl (sub z g).1)⟩⟩
   .exact .inr ⟨g,a3⟩
  .rintro(⟨g,Z⟩|⟨g,a3⟩)
   .exact .inl ⟨g,λr=>Z r.1⟩
   .exact .inr ⟨g,(te _).mpr (.inr a3),a3⟩
def objs:jK:=["a","b","c","d","e"]
def lV:jK:=["p","q","r","s"]
def lZ:∀z∈objs,lm z:=by unfold lm;tm_at"d"
def l0:∀z∈lV,lm z:=by unfold lm;tm_at"d"
def mu (num:Int):Int:=num.fdiv 300
structure Dec (num k:Int) (one two fst snd:Str):Prop where
 k:LZ .Mod (.int num) (.int 12)=some (.int k)
 a:(oh 5 ((num.fdiv 12).fmod 5)).bind (λj=>(objs.map AV.str)[j]?)=some (.str one)
 b:(oh 5 ((num.fdiv 60).fmod 5)).bind (λj=>(objs.map AV.str)[j]?)=some (.str two)
 f:(oh 4 (((num.fdiv 12).fmod 5).fmod 4)).bind (λj=>(lV.map AV.str)[j]?)=some (.str fst)
 s:(oh 4 (((num.fdiv 60).fmod 5).fmod 4)).bind (λj=>(lV.map AV.str)[j]?)=some (.str snd)
 m1:one∈objs
 m2:two∈objs
 m3:fst∈lV
 m4:snd∈lV
def wA{l:jK}{i:Int}(c:0<=i)(d:i<l.length):∃z∈l,(oh l.length i).bind (λj=>(l.map AV.str)[j]?)=some (.str z):=by
 obtain⟨j,rfl⟩:∃j:Nat,i=j:=⟨i.toNat,by omega⟩
 have b:j<l.length:=by omega
 refine⟨l[j],List.getElem_mem b,?_⟩;have:=ul (l:=l.map AV.str) (j:=j) (a:=.str l[j]) (by rw[bP,da b];rfl);rwa [ah]at this
def AL(a:Int){b:Int}(h:0<b):0<=a.fmod b/\a.fmod b<b:=⟨Int.fmod_nonneg_of_pos _ h,Int.fmod_lt_of_pos _ h⟩
def UU(num:Int):∃k one i_ fst snd,0<=k/\k<12/\Dec num k one i_ fst snd:=by have⟨a0,a⟩:=AL (num.fdiv 12) (b:=5) (by omega);have⟨c,b1⟩:=AL (num.fdiv 60) (b:=5) (by omega);have⟨d,e⟩:=AL ((num.fdiv 12).fmod 5) (b:=4) (by omega);have⟨f,g⟩:=AL ((num.fdiv 60).fmod 5) (b:=4) (by omega);have⟨h,i⟩:=AL num (b:=12) (by omega);have⟨one,j,m⟩:=wA (l:=objs) a0 a;have⟨i_,n,o⟩:=wA (l:=objs) c b1;have⟨fst,p,q⟩:=wA (l:=lV) d e;have⟨snd,r,s⟩:=wA (l:=lV) f g;exact⟨num.fmod 12,one,i_,fst,snd,h,i,rfl,m,o,q,s,j,n,p,r⟩
def AY:jy->az (List Int)
 |[]=>some []
 |.int i::l=>(AY l).map (i::·)
 |_=>none
def F8:∀{l:jy}{is:List Int},AY l=some is->AV.A1 l=some (is.map .int)
 |[],is,h=>by cases h;rfl
 |a::l,is,h=>by
  cases a<;>first|cases h|skip
  rename_i i;obtain⟨c,b,rfl⟩:=ay.mp (show(AY l).map (i::·)=some is from h);unfold AV.A1;rw[F8 b];rfl
def yc:∀is:List Int,PyData.canLayAll0 (is.map .int)=true
 |[]=>rfl
 |i::l=>by rw[bg];unfold PyData.canLayAll0;rw[yc l];rfl
def Lh{i:Int}(h:AY l=some is):qN (.int i) (.lst l)=some (decide (i∈is)):=by
 unfold qN;rw[show AV.pd (.int i)=some (.int i) by simp only[AV.pd],show AV.pd (.lst l)=(AV.A1 l).map .list by simp only[AV.pd],F8 h];show(if _ then _ else _)=_;rw[aB ⟨cg _,rfl,yc is⟩];congr 1;clear h;induction is with
 |nil=>rfl
 |cons j is a=>
  rw[bg,iy,a,show PyData.eqv (.int j) (.int i)=decide (j=i) by simp only[PyData.eqv];by_cases q:j=i<;>simp[q]];by_cases q:j=i
  .subst q;simp
  .have:¬i=j:=λe=>q e.symm;simp[q,this]
def Jr{i:Int}(h:AY l=some is)(k:K (.bool (decide (i∈is))) J):lF P iK .In (.int i) (.lst l) J K X:=by unfold lF;exact ly (Lh h) k
local macro_rules |`(tactic|tm_at"s2")=>`(tactic|(
 first
 |refine Jr rfl ?_
 |refine Dx ?_
 conv=>whnf))
def mC(p:α->Prop)[DecidablePred p](f:α->AV)(l:List α):l.flatMap (λx=>if p x then[f x]else[])=(l.filter λx=>decide (p x)).map f:=DA p f l
def sC{x:Str×Str}{l:kd}(a:lm x.1)(b:lm x.2)(c:∀x∈l,lm x.1/\lm x.2)(h:∀v,(v=true↔x∉l)->K (.bool v) J):lF P iK .NotIn (jz x) (.lst (l.map jz)) J K X:=Jl (tV a b) (xq c) (Ax x) λv d=>h v (by rw[d,wq])
def Li{x y:Str×Str}(a:lm x.1)(b:lm x.2)(c:lm y.1)(d:lm y.2)(h:∀v,(v=true↔x≠y)->K (.bool v) J):lF P iK .NotEq (jz x) (jz y) J K X:=nE (tV a b) (tV c d) (Ax x) λv f=>h v (by rw[f];exact⟨λq e=>q (by rw[e]),λq e=>q (Aw e)⟩)
structure lW (os ps:jK) (xs:kd):Prop where
 o:∀z∈os,z∈objs
 p:∀z∈ps,z∈lV
 no:os.Nodup
 np:ps.Nodup
 x:∀z∈xs,z.1∈os/\z.2∈ps
def lW.lo(h:lW os ps xs):os.length<=5:=kS (m:=objs) h.no h.o
def lW.lp(h:lW os ps xs):ps.length<=4:=kS (m:=lV) h.np h.p
def lW.ko(h:lW os ps xs):∀z∈os,lm z:=λz a=>lZ z (h.o z a)
def lW.kp(h:lW os ps xs):∀z∈ps,lm z:=λz a=>l0 z (h.p z a)
def lW.kx(h:lW os ps xs):∀z∈xs,lm z.1/\lm z.2:=λz a=>⟨h.ko _ (h.x z a).1,h.kp _ (h.x z a).2⟩
def lJ{l:jK}(h:∀z∈l,lm z):pS (.tup (l.map .str))=true:=by exact ve h
def uo(l:jK):rK (.tup (l.map .str))<=20:=by show mM _+1<=20;have:=rN l;omega
def QT{o:Str}:pS (t9 ps xs o)=true:=by show mR _=true;rw[rL];intro a m;obtain⟨p,_,rfl⟩:=aM.mp m;rfl
def F9{o:Str}:rK (t9 ps xs o)<=1:=by show mM _+1<=1;have:=nH (n:=0) (l:=ps.map λp=>AV.bool (decide ((o,p)∈xs))) (by intro a m;obtain⟨p,_,rfl⟩:=aM.mp m;exact ao 0);omega
def oS:pS (.lst (rowsOf os ps xs))=true:=by show mR _=true;rw[rL];intro a m;obtain⟨o,_,rfl⟩:=aM.mp m;exact QT
def Cg:rK (.lst (rowsOf os ps xs))<=20:=by show mM _+1<=20;have:=nH (n:=1) (l:=rowsOf os ps xs) (by intro a m;obtain⟨o,_,rfl⟩:=aM.mp m;exact F9);omega
def mJ (os ps:jK)(xs:kd):jy:=[.tup (os.map .str),.tup (ps.map .str),.lst (rowsOf os ps xs)]
def xr(a:∀z∈os,lm z)(b:∀z∈ps,lm z):mR (mJ os ps xs)=true:=jU.mpr ⟨lJ a,jU.mpr ⟨lJ b,jU.mpr ⟨oS,rfl⟩⟩⟩
def AM:mM (mJ os ps xs)<=3:=nH λa m=>by
 have b:=rN os;have c:=rN ps;have d:=nH (n:=1) (l:=rowsOf os ps xs) (by intro a m;obtain⟨o,_,rfl⟩:=aM.mp m;exact F9);rcases af.mp m with rfl|m
 .show mM _+1<=3;omega
 rcases af.mp m with rfl|m
 .show mM _+1<=3;omega
 rcases af.mp m with rfl|m
 .show mM _+1<=3;omega
 cases m
def F_(b:3<=n)(a:Fx L)(h:TabAt J T os ps xs)(l:∀x∈xs,lm x.1/\lm x.2)(k:∀g_,jp [] J g_->K (.bool true) g_):(lv L n).fn 890 [.ref T.t,kN os ps xs] J K X:=by
 refine j6 b a (I:=H.wc) (Y:=[("state",kN os ps xs),("table",.ref T.t)]) rfl rfl λn b=>?_;have lo:=h.o.len;have u:=h.p.len;have w:(os.map AV.str).length<=100:=by rw[ah];omega
 have y:(ps.map AV.str).length<=100:=by rw[ah];omega
 obtain⟨i,d,o,p,-⟩:=id h;tm_at"w";refine mi i d a.pn rfl a.p0 (qi b a h λz f=>⟨rfl,?_⟩);have e:=h.j7 f;obtain⟨m,d1,-⟩:=id e;tm_at"w";tm_at"call";refine u9 (lJ h.o.ok) (lJ h.o.ok) (uo _) λv c=>?_;cases v
 case false=>exact absurd (c.mpr rfl) (by simp)
 tm_at"w";refine mi m d1 a.mX rfl a.nv (nK b a e λA g=>⟨rfl,?_⟩);have j:=e.j7 g;obtain⟨q,d2,-⟩:=id j;tm_at"w";tm_at"call";refine u9 (lJ h.p.ok) (lJ h.p.ok) (uo _) λv c=>?_;cases v
 case false=>exact absurd (c.mpr rfl) (by simp)
 tm_at"w";refine mi q d2 a.wo rfl a.yN (AF b a j λr s=>⟨rfl,?_⟩);tm_at"w";refine ki a.B4 (Js (by omega) a (by omega) (by omega) h.o.ok h.p.ok l ?_);tm_at"w";refine u9 oS oS Cg λv c=>?_;cases v
 case false=>exact absurd (c.mpr rfl) (by simp)
 tm_at"w";exact k r ((f.trans g).trans s)
def Alike(os ps:jK)(xs:kd)(ji je:jK)(iQ:kd):Prop:=(os.length=ji.length/\∀x∈os,x∈ji)/\(ps.length=je.length/\∀x∈ps,x∈je)/\∀z,z∈xs↔z∈iQ
def mN{C:Nat}(a:J[k]?=some (.inst C dl))(b:J[dl]?=some (.dict m)):Hr J (.ref k)=some (.ref C):=by show(lG J k).map Value.ref=_;rw[k9 a b];rfl
def AN(j:5<=n)(a:Fx L)(h:TabAt J T os ps xs)(g:TabAt J U ji je iQ)(k:∀g_,jp [] J g_->∀v,(v=true↔Alike os ps xs ji je iQ)->K (.bool v) g_):(lv L n).fn 611 [.ref T.t,.ref U.t] J K X:=by
 refine j6 j a (I:=H.N6) (Y:=[("other",.ref U.t),("self",.ref T.t)]) rfl rfl λn j=>?_;obtain⟨i,d,o,p,-⟩:=id h;obtain⟨D,E,o',p',-⟩:=id g;obtain⟨F,od,-⟩:=id o;obtain⟨m,G,-⟩:=id o';tm_at"w";apply uG D E a.Sr;tm_at"w";refine mB rfl F od a.H8 (mN m G) a.Ou (OI j a o o' λM c v b=>?_);cases v
 case false=>tm_at"w";exact k M c false ⟨λq=>(by cases q),λq=>b.mpr q.1⟩
 have q1:=b.mp rfl;have w:=h.j7 c;have x:=g.j7 c;obtain⟨i1,d1,-,y,-⟩:=id w;obtain⟨N,O,-,f,-⟩:=id x;obtain⟨P,Q,-⟩:=id y;obtain⟨r,u,-⟩:=id f;tm_at"w";refine mB rfl P Q a.H8 (mN r u) a.Ou (OI j a y f λA l v b=>?_);cases v
 case false=>tm_at"w";exact k A (c.trans l) false ⟨λq=>(by cases q),λq=>b.mpr q.2.1⟩
 have R:=b.mp rfl;have S:=w.j7 l;have V:=x.j7 l;obtain⟨i2,d2,-,-,⟨els,s,W,B⟩,-⟩:=id S;obtain⟨Xp,Z,-,-,⟨mh,s',PK,C⟩,-⟩:=id V;tm_at"w";refine Ic rfl s s' (kT B) (kT C) λv b=>?_;tm_at"w";refine k A (c.trans l) v (b.trans ?_);rw[cJ W PK];constructor
 .intro q;refine⟨q1,R,λz=>?_⟩;rw[<-n8 B,q,n8 C]
 .rintro⟨-,-,q⟩ e
  grind
def JB(f:5<=n)(b:Fx L)(h:TabAt J T os ps xs)(q:mR l=true)(k:∀g_,jp [] J g_->∀v,(v=true↔mJ os ps xs=l)->K (.bool v) g_):(lv L n).fn 611 [.ref T.t,.tup l] J K X:=by refine j6 f b (I:=H.N6) (Y:=[("other",.tup l),("self",.ref T.t)]) rfl rfl λn f=>?_;obtain⟨i,d,-⟩:=id h;tm_at"w";apply yA b.Jp;tm_at"w";refine mi i d b.pn rfl b.p0 (qi (by omega) b h λy g=>⟨rfl,?_⟩);have c:=h.j7 g;obtain⟨r,d1,-⟩:=id c;tm_at"w";refine mi r d1 b.mX rfl b.nv (nK (by omega) b c λz j=>⟨rfl,?_⟩);have m:=c.j7 j;obtain⟨s,d2,-⟩:=id m;tm_at"w";refine mi s d2 b.wo rfl b.yN (AF (by omega) b m λu w=>⟨rfl,?_⟩);tm_at"w";refine u9 (a:=.tup (mJ os ps xs)) (show mR _=true from xr h.o.ok h.p.ok) (show mR _=true from q) (by show mM _+1<=20;have:=AM (os:=os) (ps:=ps) (xs:=xs);omega) λv x=>?_;tm_at"w";refine k u ((g.trans j).trans w) v (x.trans ⟨λe=>by injection e,λe=>by rw[e]⟩)
def DG(b:6<=n)(a:Fx L)(h:TabAt J T os ps xs)(g:TabAt J U ji je iQ)(k:∀g_,jp [] J g_->∀v,(v=true↔¬Alike os ps xs ji je iQ)->K (.bool v) g_):(lv L n).fn 618 [.ref T.t,.ref U.t] J K X:=by refine j6 b a (I:=H.R9) (Y:=[("other",.ref U.t),("self",.ref T.t)]) rfl rfl λn b=>?_;obtain⟨i,d,-⟩:=id h;obtain⟨c,e,-⟩:=id g;tm_at"w";refine mB rfl i d a.tU (mN c e) a.uF (AN b a h g λf j v l=>?_);tm_at"w";exact k f j _ (by cases v<;>simp_all)
def DH(g:2<=n)(f:Fx L){a b:Str}(h:TabAt J T os ps xs)(l:a∈os->b∈ps->K (.bool (decide ((a,b)∈xs))) J)(j:¬(a∈os/\b∈ps)->X ⟨"KeyError",true⟩ J):(lv L n).fn 632 [.ref T.t,.tup [.str a,.str b]] J K X:=by
 refine j6 g f (I:=H.N7) (Y:=[("pair",.tup [.str a,.str b]),("self",.ref T.t)]) rfl rfl λn g=>?_;obtain⟨i,d,o,p,⟨els,s,y,k⟩,-⟩:=id h;obtain⟨m,od,-⟩:=id o;obtain⟨u,w,-⟩:=id p;tm_at"w";apply tX;tm_at"w";refine oQ rfl m od f.sz (pJ g f o λv c=>?_);cases v
 case false=>
  have q:a∉os:=by simpa using c
  tm_at"w";exact j λr=>q r.1
 have q1:=c.mp rfl;tm_at"w";refine oQ rfl u w f.sz (pJ g f p λv c=>?_);cases v
 case false=>
  have q:b∉ps:=by simpa using c
  tm_at"w";exact j λr=>q r.2
 have x:=c.mp rfl;tm_at"w";refine po rfl s (e:=j2 (a,b)) rfl (kT k) λv c=>?_;rw[n8 k]at c;tm_at"w";rw[show v=decide ((a,b)∈xs) by cases v<;>simp_all];exact l q1 x
def OP(q:3<=n)(a:Fx L)(h:TabAt J T os ps xs)(k:∀g_,jp [] J g_->KL (mJ os ps xs) g_):(lv L n).pY 625 (.ref T.t) J KL:=by
 obtain⟨m,rfl⟩:∃m,n=m+1:=⟨n-1,by omega⟩
 have b:2<=m:=by omega
 show ky (L.Du 625) _;rw[a.Du];obtain⟨i,d,-⟩:=id h;apply jO rfl;refine⟨Nat.le_of_ble_eq_true rfl,?_⟩;tm_at"w";refine mi i d a.pn rfl a.p0 (qi b a h λr e=>⟨rfl,?_⟩);have c:=h.j7 e;obtain⟨j,d1,-⟩:=id c;tm_at"w";refine mi j d1 a.mX rfl a.nv (nK b a c λs f=>⟨rfl,?_⟩);have g:=c.j7 f;obtain⟨l,d2,-⟩:=id g;tm_at"w";refine mi l d2 a.wo rfl a.yN (AF b a g λo p=>⟨rfl,?_⟩);tm_at"w";exact k o ((e.trans f).trans p)
def Ch(b:3<=n)(a:Fx L)(h:TabAt J T os ps xs)(k:∀g_,jp [] J g_->K (.lst (mJ os ps xs)) g_):ny L fn (lv L n).pY lam (.val (.type "list")) [.ref T.t] J K X:=by obtain⟨i,d,-⟩:=id h;apply kX;exact jO (k9 i d) (jO a.FQ ⟨a.Jo,a.FR,OP b a h k⟩)
def AO(b:4<=n)(c:Fx L){j:Nat}{a:AV}(h:TabAt J T os ps xs)(d:(mJ os ps xs)[j]?=some a)(k:∀g_,jp [] J g_->K a g_):(lv L n).fn 632 [.ref T.t,.int j] J K X:=by refine j6 b c (I:=H.N7) (Y:=[("pair",.int j),("self",.ref T.t)]) rfl rfl λn b=>?_;tm_at"w";apply sS;tm_at"w";refine Ch b c h λe f=>?_;tm_at"w";apply jO (ul d);exact k e f
def DI(e:3<=n)(c:Fx L){a b:Str}(h:TabAt J T os ps xs)(f:a∈os->b∈ps->K (.bool (decide ((a,b)∈xs))) J)(g:¬(a∈os/\b∈ps)->K .none J):(lv L n).fn 897 [.ref T.t,.tup [.str a,.str b]] J K X:=by
 refine j6 e c (I:=H.Ao) (Y:=[("pair",.tup [.str a,.str b]),("table",.ref T.t)]) rfl rfl λn e=>?_;obtain⟨i,d,-⟩:=id h;tm_at"w";refine jO (k9 i d) (jO c.nh (DH e c h (λq1 j=>?_) λq=>?_))
 .tm_at"w";exact f q1 j
 .refine⟨rfl,.inl rfl,?_⟩;rw[c.glob];apply jO (a:="KeyError") (by tm_at"d");rw[aB rfl];tm_at"w";exact g q
def lW.mul(h:lW os ps xs):os.length*ps.length<=20:=Nat.mul_le_mul h.lo h.lp
def TabAt.congr(h:TabAt J T os ps xs)(e:∀z,z∈xs↔z∈ys):TabAt J T os ps ys:=by
 have⟨i,d,o,p,⟨els,s,b,c⟩,ns,g,j,k⟩:=h;refine⟨i,d,o,p,⟨els,s,b,λf=>?_⟩,ns,g,j,k⟩;rw[c];constructor
 .rintro⟨x,a,rfl⟩;exact⟨x,(e x).mp a,rfl⟩
 .rintro⟨x,a,rfl⟩;exact⟨x,(e x).mpr a,rfl⟩
def Uv(b:4<=n)(a:Fx L)(c:lW os ps xs)(h:TabAt J T os ps xs)(D:Dec num 0 one i_ fst snd)
  (k:∀g_ iQ,jp T.lg J g_->(∀z,z∈iQ↔z∈xs∨(z.1=one/\z.2∈j0 lV ((mu num).fmod 16)))->TabAt g_ T (if one∈os then os else os++[one]) (jM ps (j0 lV ((mu num).fmod 16))) iQ->K .none g_):(lv L n).fn 871 [.ref T.t,.int num] J K X:=by
 refine j6 b a (I:=H.pR) (Y:=[("number",.int num),("table",.ref T.t)]) rfl rfl λn b=>?_;obtain⟨m,o,p,q,es,e,r,s,u⟩:=D;obtain⟨i,d,-⟩:=id h;have w:=c.mul;tm_at"w2";refine ki a.sN (qG (c_:=lV) (bits:=(mu num).fmod 16) (by omega) a (by decide) ?_);have y:(j0 lV ((mu num).fmod 16)).length<=4:=mD _ _;tm_at"w2";refine DF b a rfl h c.x (lZ one e) (.lst _) (λz f=>l0 z (lz f)) (by omega) λg_ iQ g j l=>?_;tm_at"w2";exact k g_ iQ g j l
def Ux(b:4<=n)(a:Fx L)(c:lW os ps xs)(h:TabAt J T os ps xs)(D:Dec num 1 one i_ fst snd)
  (k:∀g_ iQ,jp T.lg J g_->(∀z,z∈iQ↔z∈xs∨(z.2=fst/\z.1∈j0 objs ((mu num).fmod 32)))->TabAt g_ T (jM os (j0 objs ((mu num).fmod 32))) (if fst∈ps then ps else ps++[fst]) iQ->K .none g_):(lv L n).fn 871 [.ref T.t,.int num] J K X:=by
 refine j6 b a (I:=H.pR) (Y:=[("number",.int num),("table",.ref T.t)]) rfl rfl λn b=>?_;obtain⟨m,o,p,q,es,r,s,e,u⟩:=D;obtain⟨i,d,-⟩:=id h;have w:=c.mul;tm_at"w2";refine ki a.sN (qG (c_:=objs) (bits:=(mu num).fmod 32) (by omega) a (by decide) ?_);have y:(j0 objs ((mu num).fmod 32)).length<=5:=mD _ _;tm_at"w2";refine Jy b a rfl h c.x (l0 fst e) (.lst _) (λz f=>lZ z (lz f)) (by omega) λg_ iQ g j l=>?_;tm_at"w2";exact k g_ iQ g j l
def OQ(a:4<=n)(c:Fx L)(e:lW os ps xs)(h:TabAt J T os ps xs)(D:Dec num 2 one i_ fst snd)
  (f:one∈os->∀g_ iQ,jp T.lg J g_->(∀z,z∈iQ↔z∈xs/\z.1≠one)->TabAt g_ T (os.filter λy=>decide (y≠one)) ps iQ->K .none g_) (g:one∉os->X ⟨"KeyError",true⟩ J):(lv L n).fn 871 [.ref T.t,.int num] J K X:=by
 refine j6 a c (I:=H.pR) (Y:=[("number",.int num),("table",.ref T.t)]) rfl rfl λn a=>?_;obtain⟨m,o,p,q,es,r,s,u,w⟩:=D;obtain⟨i,d,-⟩:=id h;have A:=e.mul;tm_at"w2";refine QP a c h e.x (by omega) (λb g_ iQ j k l=>?_) λb=>g b;tm_at"w2";exact f b g_ iQ j k l
def OR(a:4<=n)(c:Fx L)(e:lW os ps xs)(h:TabAt J T os ps xs)(D:Dec num 3 one i_ fst snd)
  (f:fst∈ps->∀g_ iQ,jp T.lg J g_->(∀z,z∈iQ↔z∈xs/\z.2≠fst)->TabAt g_ T os (ps.filter λy=>decide (y≠fst)) iQ->K .none g_) (g:fst∉ps->X ⟨"KeyError",true⟩ J):(lv L n).fn 871 [.ref T.t,.int num] J K X:=by
 refine j6 a c (I:=H.pR) (Y:=[("number",.int num),("table",.ref T.t)]) rfl rfl λn a=>?_;obtain⟨m,o,p,q,es,r,s,u,w⟩:=D;obtain⟨i,d,-⟩:=id h;have A:=e.mul;tm_at"w2";refine QQ a c h e.x (by omega) (λb g_ iQ j k l=>?_) λb=>g b;tm_at"w2";exact f b g_ iQ j k l
def OS(b:4<=n)(c:Fx L)(a:lW os ps xs)(h:TabAt J T os ps xs)(D:Dec num 4 one i_ fst snd)
  (e:one∈os->i_∉os->∀g_ iQ,jp T.lg J g_->(∀z,z∈iQ↔∃w∈xs,z=(if w.1=one then i_ else w.1,w.2))->TabAt g_ T (os.map λz=>if z=one then i_ else z) ps iQ->K .none g_) (f:i_∈os∨one∉os->X ⟨"ValueError",true⟩ J):(lv L n).fn 871 [.ref T.t,.int num] J K X:=by
 refine j6 b c (I:=H.pR) (Y:=[("number",.int num),("table",.ref T.t)]) rfl rfl λn b=>?_;obtain⟨r,s,u,y,es,g,j,A,B⟩:=D;obtain⟨i,d,-⟩:=id h;have C:=a.mul;have lo:=a.lo;have E:=a.lp;tm_at"w2";refine QR b c h a.x (lZ one g) (lZ i_ j) (by omega) (λk l g_ iQ m o p=>?_) λq=>f q;tm_at"w2";exact e k l g_ iQ m o p
def OT(b:4<=n)(c:Fx L)(a:lW os ps xs)(h:TabAt J T os ps xs)(D:Dec num 5 one i_ fst snd)
  (e:fst∈ps->snd∉ps->∀g_ iQ,jp T.lg J g_->(∀z,z∈iQ↔∃w∈xs,z=(w.1,if w.2=fst then snd else w.2))->TabAt g_ T os (ps.map λz=>if z=fst then snd else z) iQ->K .none g_) (f:snd∈ps∨fst∉ps->X ⟨"ValueError",true⟩ J):(lv L n).fn 871 [.ref T.t,.int num] J K X:=by
 refine j6 b c (I:=H.pR) (Y:=[("number",.int num),("table",.ref T.t)]) rfl rfl λn b=>?_;obtain⟨r,s,u,y,es,A,B,g,j⟩:=D;obtain⟨i,d,-⟩:=id h;have C:=a.mul;have lo:=a.lo;have E:=a.lp;tm_at"w2";refine QS b c h a.x (l0 fst g) (l0 snd j) (by omega) (λk l g_ iQ m o p=>?_) λq=>f q;tm_at"w2";exact e k l g_ iQ m o p
def OU(c:4<=n)(e:Fx L)(o:lW os ps xs)(h:TabAt J T os ps xs)(D:Dec num 6 one i_ fst snd)
  (f:one∈os->∀g_,jp T.lg J g_->TabAt g_ T (lS os one ((mu num).fmod 14-7)) ps xs->K .none g_) (g:one∉os->X ⟨"ValueError",true⟩ J):(lv L n).fn 871 [.ref T.t,.int num] J K X:=by
 refine j6 c e (I:=H.pR) (Y:=[("number",.int num),("table",.ref T.t)]) rfl rfl λn c=>?_;obtain⟨p,q,r,s,es,k,u,w,x⟩:=D;obtain⟨i,d,-⟩:=id h;have⟨y,z⟩:=AL (mu num) (b:=14) (by omega);tm_at"w2";refine OM (j:=(mu num).fmod 14-7) (by omega) e h (lZ one k) (by omega) (by omega) (λa g_ l m=>?_) λa=>g a;tm_at"w2";exact f a g_ l m
def OV(c:4<=n)(e:Fx L)(o:lW os ps xs)(h:TabAt J T os ps xs)(D:Dec num 7 one i_ fst snd)
  (f:fst∈ps->∀g_,jp T.lg J g_->TabAt g_ T os (lS ps fst ((mu num).fmod 12-6)) xs->K .none g_) (g:fst∉ps->X ⟨"ValueError",true⟩ J):(lv L n).fn 871 [.ref T.t,.int num] J K X:=by
 refine j6 c e (I:=H.pR) (Y:=[("number",.int num),("table",.ref T.t)]) rfl rfl λn c=>?_;obtain⟨p,q,r,s,es,u,w,k,x⟩:=D;obtain⟨i,d,-⟩:=id h;have⟨y,z⟩:=AL (mu num) (b:=12) (by omega);tm_at"w2";refine ON (j:=(mu num).fmod 12-6) (by omega) e h (l0 fst k) (by omega) (by omega) (λa g_ l m=>?_) λa=>g a;tm_at"w2";exact f a g_ l m
def Uy(b:4<=n)(a:Fx L)(c:lW os ps xs)(h:TabAt J T os ps xs)(D:Dec num 8 one i_ fst snd)
  (k:∀g_ iQ,jp T.lg J g_->(∀z,z∈iQ↔(if z=(one,snd)then(mu num).fmod 2=1 else z∈xs))->TabAt g_ T (if one∈os then os else os++[one]) (if snd∈ps then ps else ps++[snd]) iQ->K .none g_):(lv L n).fn 871 [.ref T.t,.int num] J K X:=by
 refine j6 b a (I:=H.pR) (Y:=[("number",.int num),("table",.ref T.t)]) rfl rfl λn b=>?_;obtain⟨m,o,p,q,es,e,r,s,f⟩:=D;obtain⟨i,d,-⟩:=id h;have u:=c.mul;tm_at"w2";apply xk i d a.yO a.qF;refine Jw (v:=decide ((mu num).fmod 2=1)) (by omega) a h c.x (lZ one e) (l0 snd f) (by omega) λg_ iQ g j l=>?_;tm_at"w2";exact k g_ iQ g (λz=>by rw[j];simp) l
def Uz(e:4<=n)(a:Fx L)(b:lW os ps xs)(h:TabAt J T os ps xs)(D:Dec num 9 one i_ fst snd)(l:(k7 (j0 lV ((mu num).fmod 16)) ps).Nodup)
  (k:∀g_ c iQ,c.Perm (k7 (j0 lV ((mu num).fmod 16)) ps)->jp T.lg J g_->(∀z,z∈iQ↔(z∈xs/\z.1≠one)∨(z.1=one/\z.2∈k7 (j0 lV ((mu num).fmod 16)) ps))->TabAt g_ T (if one∈os then os else os++[one]) (jM ps c) iQ->K .none g_):(lv L n).fn 871 [.ref T.t,.int num] J K X:=by
 refine j6 e a (I:=H.pR) (Y:=[("number",.int num),("table",.ref T.t)]) rfl rfl λn e=>?_;obtain⟨s,u,w,y,es,f,A,B,C⟩:=D;obtain⟨i,d,-⟩:=id h;have E:=b.mul;have sub:∀z∈k7 (j0 lV ((mu num).fmod 16)) ps,z∈lV:=λz hz=>by
  rcases ba.mp hz with hz|hz
  .exact lz (aD.mp hz).1
  .exact lz (aD.mp (df hz)).1
 tm_at"w2";refine ki a.sN (qG (c_:=lV) (bits:=(mu num).fmod 16) (by omega) a (by decide) ?_);have F:(j0 lV ((mu num).fmod 16)).length<=4:=mD _ _;tm_at"w2";refine mi i d a.mX rfl a.nv (nK (by omega) a h λG g=>⟨rfl,?_⟩);have j:=h.j7 g;obtain⟨M,d1,-⟩:=id j;tm_at"w2";refine ki a.xZ (DC (by omega) a (by omega) (.tup _) (λz hz=>l0 z (lz hz)) b.kp ?_);tm_at"w2";refine Jz (O:=objs) (P:=lV) e a j b.x (lZ one f) (.lst _) (λz hz=>l0 z (sub z hz)) l b.o f b.p sub (by decide) λg_ c iQ m q hz r=>?_;tm_at"w2";exact k g_ c iQ m (g.more.trans q) hz r
def QU(e:4<=n)(a:Fx L)(b:lW os ps xs)(h:TabAt J T os ps xs)(D:Dec num 10 one i_ fst snd)(l:(k7 (j0 objs ((mu num).fmod 32)) os).Nodup)
  (k:∀g_ c iQ,c.Perm (k7 (j0 objs ((mu num).fmod 32)) os)->jp T.lg J g_->(∀z,z∈iQ↔(z∈xs/\z.2≠fst)∨(z.2=fst/\z.1∈k7 (j0 objs ((mu num).fmod 32)) os))->TabAt g_ T (jM os c) (if fst∈ps then ps else ps++[fst]) iQ->K .none g_):(lv L n).fn 871 [.ref T.t,.int num] J K X:=by
 refine j6 e a (I:=H.pR) (Y:=[("number",.int num),("table",.ref T.t)]) rfl rfl λn e=>?_;obtain⟨s,u,w,y,es,A,B,f,C⟩:=D;obtain⟨i,d,-⟩:=id h;have E:=b.mul;have sub:∀z∈k7 (j0 objs ((mu num).fmod 32)) os,z∈objs:=λz hz=>by
  rcases ba.mp hz with hz|hz
  .exact lz (aD.mp hz).1
  .exact lz (aD.mp (df hz)).1
 tm_at"w2";refine ki a.sN (qG (c_:=objs) (bits:=(mu num).fmod 32) (by omega) a (by decide) ?_);have F:(j0 objs ((mu num).fmod 32)).length<=5:=mD _ _;tm_at"w2";refine mi i d a.pn rfl a.p0 (qi (by omega) a h λG g=>⟨rfl,?_⟩);have j:=h.j7 g;obtain⟨M,d1,-⟩:=id j;tm_at"w2";refine ki a.xZ (DC (by omega) a (by omega) (.tup _) (λz hz=>lZ z (lz hz)) b.ko ?_);tm_at"w2";refine JA (O:=objs) (P:=lV) e a j b.x (l0 fst f) (.lst _) (λz hz=>lZ z (sub z hz)) l b.o f b.p sub (by decide) λg_ c iQ m q hz r=>?_;tm_at"w2";exact k g_ c iQ m (g.more.trans q) hz r
def QV(a:4<=n)(b:Fx L)(D:Dec num 11 one i_ fst snd)(k:K .none J):(lv L n).fn 871 [.ref t,.int num] J K X:=by refine j6 a b (I:=H.pR) (Y:=[("number",.int num),("table",.ref t)]) rfl rfl λn a=>?_;obtain⟨c,d,e,f,es,g,h,i,j⟩:=D;tm_at"w2";exact k
def vk(d:5<=n)(c:Fx L)(Q:jW->Prop)(R:String->jW->Prop)(g:∀b g_,R b g_->b="KeyError"∨b="ValueError")
  (h:∀m,4<=m->∀(e:KV) (f:KX),(∀g_,Q g_->e .none g_)->(∀b g_,R b g_->f ⟨b,true⟩ g_)->(lv L m).fn 871 [.ref t,.int num] J e f)
  (i:∀g_,Q g_->K (.str "") g_) (j:∀g_,R "KeyError" g_->K (.str "key") g_) (k:∀g_,R "ValueError" g_->K (.str "value") g_):(lv L n).fn 878 [.ref t,.int num] J K X:=by
 refine j6 d c (I:=H.B3) (Y:=[("number",.int num),("table",.ref t)]) rfl rfl λn d=>?_;tm_at"w2";refine ki c.pR (h n d _ _ (λg_ q=>?_) λb g_ r=>?_)
 .tm_at"w2";exact i g_ q
 .rcases g b g_ r with rfl|rfl
  .refine⟨rfl,.inl rfl,?_⟩;rw[c.glob];apply jO (a:="KeyError") (by tm_at"d");rw[aB rfl];tm_at"w2";exact j g_ r
  .refine⟨rfl,.inr rfl,?_⟩;rw[c.glob];apply jO (a:="KeyError") (by tm_at"d");rw[aA (show ¬("KeyError"="ValueError") by decide)];apply jO (a:="ValueError") (by tm_at"d");rw[aB rfl];tm_at"w2";exact k g_ r
def AP(bits:Int):(j0 objs bits).Nodup:=by
 have h:∀a b1 b2 b3 b:aY,((if a=true then[("a":Str)]else[])++((if b1=true then[("b":Str)]else[])++((if b2=true then[("c":Str)]else[])++((if b3=true then[("d":Str)]else[])++((if b=true then[("e":Str)]else[])++[]))))).Nodup:=by intro a b1 b2 b3 b;cases a<;>cases b1<;>cases b2<;>cases b3<;>cases b<;>tm_at"d"
 exact h (pT bits 0) (pT bits 1) (pT bits 2) (pT bits 3) (pT bits 4)
def AQ(bits:Int):(j0 lV bits).Nodup:=by
 have h:∀a b1 b2 b3:aY,((if a=true then[("p":Str)]else[])++((if b1=true then[("q":Str)]else[])++((if b2=true then[("r":Str)]else[])++((if b3=true then[("s":Str)]else[])++[])))).Nodup:=by intro a b1 b2 b3;cases a<;>cases b1<;>cases b2<;>cases b3<;>tm_at"d"
 exact h (pT bits 0) (pT bits 1) (pT bits 2) (pT bits 3)
def Ii(h:jl.Nodup):(k7 jl there).Nodup:=by unfold k7;refine aK.mpr ⟨h.filter _,((h.filter _).sublist (List.take_sublist ..)),?_⟩;rintro a e b f rfl;have c:=(aD.mp e).2;have d:=(aD.mp (df f)).2;simp only[eL]at c d;exact d c
def DJ(h:z∈k7 jl there):z∈jl:=by
 rcases ba.mp h with hz|hz
 .exact(aD.mp hz).1
 .grind
def JC(h:jl.Nodup){A:jK}(a:∀z∈jl,z∈A):(k7 jl there).length<=A.length:=kS (Ii h) λz b=>a z (DJ b)
def qk{ps:jK}{w:Str}(b:w∉ps):∀{l:jK}{f:jK},(∀z∈l,z∈ps∨z=w)->(f=ps->jM f l=if w∈l then ps++[w]else ps)/\(f=ps++[w]->jM f l=ps++[w])
 |[],f,_=>⟨λe=>by rw[e,aA (by simp)];rfl,λe=>e⟩
 |a::l,f,h=>by
  have c:=λz g=>h z (aO a g);refine⟨λe=>?_,λe=>?_⟩
  .subst e;show jM (if a∈f then f else f++[a]) l=_;rcases h a (.head _)with d|rfl
   .rw[aB d,(qk b c).1 rfl]
    grind
   .rw[aA b,(qk b c).2 rfl,aB (.head _)]
  .subst e;show jM (if a∈ps++[w]then ps++[w]else(ps++[w])++[a]) l=_;have d:a∈ps++[w]:=by grind
   rw[aB d];exact(qk b c).2 rfl
def vl{ps:jK}:∀{l:jK},(∀z∈l,z∈ps)->jM ps l=ps
 |[],_=>rfl
 |a::l,h=>by show jM (if a∈ps then ps else ps++[a]) l=_;rw[aB (h a (.head _))];exact vl λz b=>h z (.tail _ b)
def Ga(h:ms.Perm (k7 jl ps)):jM ps ms=jM ps (k7 jl ps):=by
 cases e:(jl.filter λx=>decide (x∉ps)).take 1 with
 |nil=>
  have a:∀z∈k7 jl ps,z∈ps:=by
   intro z b;unfold k7 at b
   grind
  rw[vl a,vl λz b=>a z (h.mem_iff.mp b)]
 |cons w r=>
  have d:r=[]:=by
   have:=cq List.length e
   grind
  subst d;have c:w∉ps:=by
   have:w∈jl.filter λx=>decide (x∉ps):=df (i:=1) (by rw[e];simp)
   grind
  have a:∀z∈k7 jl ps,z∈ps∨z=w:=by
   intro z b;unfold k7 at b
   grind
  rw[(qk c a).1 rfl,(qk c λz b=>a z (h.mem_iff.mp b)).1 rfl];by_cases q:w∈k7 jl ps
  .rw[aB q,aB (h.mem_iff.mpr q)]
  .rw[aA q,aA λr=>q (h.mem_iff.mp r)]
def xt{x y:Str}:∀{l:jK},l.Nodup->y∉l->(l.map λz=>if z=x then y else z).Nodup
 |[],_,_=>.nil
 |c::l,a,b=>by
  have⟨e,d⟩:=aL.mp a;refine aL.mpr ⟨?_,xt d λq=>b (.tail _ q)⟩
  grind
def uq{i:Int}(a:x∈ss)(z:Str):z∈lS ss x i↔z∈ss:=by
 unfold lS rO;rw[ba,af];have q:z∈(ss.filter λy=>decide (y≠x))↔z∈(ss.filter λy=>decide (y≠x)).take (clipAt (ss.filter λy=>decide (y≠x)).length i)∨z∈(ss.filter λy=>decide (y≠x)).drop (clipAt (ss.filter λy=>decide (y≠x)).length i):=by rw[<-ba,bw]
 rw[or_left_comm,<-q,aD];by_cases e:z=x
 .subst e;simp[a]
 .simp[e]
def Gb{i:Int}(a:ss.Nodup):(lS ss x i).Nodup:=by
 unfold lS rO;have b:(ss.filter λy=>decide (y≠x)).Nodup:=a.filter _;have c:x∉(ss.filter λy=>decide (y≠x)):=by intro q;have:=(aD.mp q).2;simp at this
 apply(bx.nodup_iff).mpr;rw[bw];exact aL.mpr ⟨c,b⟩
def YW{z:Str×Str}:z∈xs++(ms.filter λp=>decide (f p∉xs)).map f↔z∈xs∨∃p∈ms,z=f p:=by
 rw[ba,aM];constructor
 .grind
 .grind
def JD:(xs++(ms.filter λp=>decide (f p∉xs)).map f).length<=xs.length+ms.length:=by rw[bk,ah];have:=bV (λp=>decide (f p∉xs)) ms;omega
def lW.put{ns:jK}(h:lW os ps xs)(b:∀z∈ms,z∈objs)(c:∀z∈ns,z∈lV)(d:∀z∈ys,z∈xs∨(z.1∈ms/\z.2∈ns)):lW (jM os ms) (jM ps ns) ys where
 o:=λz a=>(ll.mp a).elim (h.o z) (b z)
 p:=λz a=>(ll.mp a).elim (h.p z) (c z)
 no:=sB h.no
 np:=sB h.np
 x:=λz a=>(d z a).elim (λq=>⟨ll.mpr (.inl (h.x z q).1),ll.mpr (.inl (h.x z q).2)⟩) (λq=>⟨ll.mpr (.inr q.1),ll.mpr (.inr q.2)⟩)
def OW(h:2<=n)(a:Fx L)(c:lW os ps xs)(B:xs.length<=200)(D:Dec num 0 one i_ fst snd)
  (k:∀g_,jp [] J g_->K (kN (jM os [one]) (jM ps (j0 lV ((mu num).fmod 16))) (xs++((j0 lV ((mu num).fmod 16)).filter λp=>decide ((one,p)∉xs)).map λp=>(one,p))) g_):(lv L n).fn 864 [kN os ps xs,.int num] J K X:=by
 refine j6 h a (I:=H.pQ) (Y:=[("number",.int num),("state",kN os ps xs)]) rfl rfl λn h=>?_;obtain⟨C,E,F,G,es,o,M,N,O⟩:=D;tm_at"w2";have q:(j0 lV ((mu num).fmod 16)).length<=4:=mD _ _;have f:∀z∈j0 lV ((mu num).fmod 16),lm z:=λz r=>l0 z (lz r);have i:=lZ one o;have lo:=c.lo;have P:=c.lp;refine ki a.sN (qG (c_:=lV) (bits:=(mu num).fmod 16) (by omega) a (by decide) ?_);generalize j0 lV ((mu num).fmod 16)=more at q f k⊢;tm_at"w2";refine j_ jz (λx=>[jz x]) (λY g_=>g_=J/\VL Y "kind" (.int 0)) _ _ _ _ ?_ ⟨rfl,rfl⟩ ?_ ?_
 .rw[kW,ah];show 0+_<=_;omega
 .rintro x Q Y g_ f_ s ⟨rfl,d⟩ j b;tm_at"w2";exact b _ _ ⟨rfl,d⟩
 rintro t g_ ⟨rfl,_⟩;rw[kW,aX];tm_at"w2";refine ki a.qE (pB (more:=[one]) (by omega) a (by omega) (by simp) c.ko (by simpa using i) λR u=>?_);tm_at"w2";refine ki a.qE (pB (by omega) a (by omega) (by omega) c.kp f λw y=>?_);tm_at"w2";refine j_ AV.str (λp=>if(one,p)∉xs then[jz (one,p)]else[]) (λY g_=>g_=w/\VL Y "one" (.str one)/\VL Y "kept" (.lst (xs.map jz))) _ _ _ _ ?_ ⟨rfl,rfl,rfl⟩ ?_ ?_
 .have:=li (g:=λp=>if(one,p)∉xs then[jz (one,p)]else[]) (λk=>by split<;>simp) more;show 0+_<=_;omega
 .rintro p A Y g_ f_ s ⟨rfl,d,l⟩ j b;tm_at"w2";refine sC (x:=(one,p)) i (f p A) c.kx λv m=>?_;cases v
  .rw[aA (by simpa using m),bh]at b;tm_at"w2";exact b _ _ ⟨rfl,d,l⟩
  .rw[aB (m.mp rfl)]at b j;tm_at"w2";exact b _ _ ⟨rfl,d,l⟩
 rintro t g_ ⟨rfl,_⟩;rw[mC (λp=>(one,p)∉xs) (λp=>jz (one,p)),aX];have S:=bV (λp=>decide ((one,p)∉xs)) more;tm_at"w2";apply ly (oP (by rw[ah,ah];omega));tm_at"w2";have e:xs.map jz++(more.filter λp=>decide ((one,p)∉xs)).map (λp=>jz (one,p))=(xs++(more.filter λp=>decide ((one,p)∉xs)).map λp=>(one,p)).map jz:=by rw[bB,c7];rfl
 rw[e];exact k _ (u.trans y)
def OX(q:2<=n)(a:Fx L)(d:lW os ps xs)(s:xs.length<=200)(D:Dec num 9 one i_ fst snd)
  (k:∀g_,jp [] J g_->K (kN (jM os [one]) (jM ps (k7 (j0 lV ((mu num).fmod 16)) ps)) (xs.filter (λx=>decide (x.1≠one))++((k7 (j0 lV ((mu num).fmod 16)) ps).filter λp=>decide ((one,p)∉xs.filter λx=>decide (x.1≠one))).map λp=>(one,p))) g_):(lv L n).fn 864 [kN os ps xs,.int num] J K X:=by
 refine j6 q a (I:=H.pQ) (Y:=[("number",.int num),("state",kN os ps xs)]) rfl rfl λn q=>?_;obtain⟨N,O,P,Q,es,t,R,S,T⟩:=D;tm_at"w2";have u:(j0 lV ((mu num).fmod 16)).length<=4:=mD _ _;have j:∀z∈j0 lV ((mu num).fmod 16),lm z:=λz hz=>l0 z (lz hz);have l:=lZ one t;have lo:=d.lo;have U:=d.lp;refine ki a.sN (qG (c_:=lV) (bits:=(mu num).fmod 16) (by omega) a (by decide) ?_);tm_at"w2";refine ki a.xZ (DC (by omega) a (by omega) (.lst _) j d.kp ?_);have w:(k7 (j0 lV ((mu num).fmod 16)) ps).length<=8:=by unfold k7;have V:=bV (λx=>decide (x∈ps)) (j0 lV ((mu num).fmod 16));rw[bk,fD];omega
 have m:∀z∈k7 (j0 lV ((mu num).fmod 16)) ps,lm z:=λz hz=>by
  rcases ba.mp hz with hz|hz
  .exact j z (aD.mp hz).1
  .exact j z (aD.mp (df hz)).1
 generalize k7 (j0 lV ((mu num).fmod 16)) ps=more at w m k⊢;clear j u;tm_at"w2";refine j_ jz (λx=>if x.1≠one then[jz x]else[]) (λY g_=>g_=J/\VL Y "kind" (.int 9)/\VL Y "one" (.str one)) _ _ _ _ ?_ ⟨rfl,rfl,rfl⟩ ?_ ?_
 .have:=li (g:=λ(x:Str×Str)=>if x.1≠one then[jz x]else[]) (λk=>by split<;>simp) xs;show 0+_<=_;omega
 .rintro x y Y g_ f_ A ⟨rfl,f,h⟩ o b;tm_at"w2";refine ne_str (d.kx x y).1 l λv i=>?_;cases v
  .rw[aA (by simpa using i),bh]at b;tm_at"w2";exact b _ _ ⟨rfl,f,h⟩
  .rw[aB (i.mp rfl)]at b o;tm_at"w2";exact b _ _ ⟨rfl,f,h⟩
 rintro B g_ ⟨rfl,_⟩;rw[mC (λx=>x.1≠one) jz,aX];have r:∀z∈xs.filter (λx=>decide (x.1≠one)),lm z.1/\lm z.2:=λz hz=>d.kx z (aD.mp hz).1;have C:=bq (bV (λx=>decide (x.1≠one)) xs) s;generalize xs.filter (λx=>decide (x.1≠one))=c at r C k⊢;tm_at"w2";refine ki a.qE (pB (more:=[one]) (by omega) a (by omega) (by simp) d.ko (by simpa using l) λW E=>?_);tm_at"w2";refine ki a.qE (pB (by omega) a (by omega) (by omega) d.kp m λF G=>?_);tm_at"w2";refine j_ AV.str (λp=>if(one,p)∉c then[jz (one,p)]else[]) (λY g_=>g_=F/\VL Y "one" (.str one)/\VL Y "kept" (.lst (c.map jz))) _ _ _ _ ?_ ⟨rfl,rfl,rfl⟩ ?_ ?_
 .have:=li (g:=λp=>if(one,p)∉c then[jz (one,p)]else[]) (λk=>by split<;>simp) more;show 0+_<=_;omega
 .rintro p M Y g_ f_ A ⟨rfl,f,h⟩ o b;tm_at"w2";refine sC (x:=(one,p)) l (m p M) r λv i=>?_;cases v
  .rw[aA (by simpa using i),bh]at b;tm_at"w2";exact b _ _ ⟨rfl,f,h⟩
  .rw[aB (i.mp rfl)]at b o;tm_at"w2";exact b _ _ ⟨rfl,f,h⟩
 rintro B g_ ⟨rfl,_⟩;rw[mC (λp=>(one,p)∉c) (λp=>jz (one,p)),aX];have Z:=bV (λp=>decide ((one,p)∉c)) more;tm_at"w2";apply ly (oP (by rw[ah,ah];omega));tm_at"w2";have e:c.map jz++(more.filter λp=>decide ((one,p)∉c)).map (λp=>jz (one,p))=(c++(more.filter λp=>decide ((one,p)∉c)).map λp=>(one,p)).map jz:=by rw[bB,c7];rfl
 rw[e];exact k _ (E.trans G)
def OY(h:2<=n)(a:Fx L)(c:lW os ps xs)(B:xs.length<=200)(D:Dec num 1 one i_ fst snd)
  (k:∀g_,jp [] J g_->K (kN (jM os (j0 objs ((mu num).fmod 32))) (jM ps [fst]) (xs++((j0 objs ((mu num).fmod 32)).filter λp=>decide ((p,fst)∉xs)).map λp=>(p,fst))) g_):(lv L n).fn 864 [kN os ps xs,.int num] J K X:=by
 refine j6 h a (I:=H.pQ) (Y:=[("number",.int num),("state",kN os ps xs)]) rfl rfl λn h=>?_;obtain⟨C,E,F,G,es,M,N,o,O⟩:=D;tm_at"w2";have q:(j0 objs ((mu num).fmod 32)).length<=5:=mD _ _;have f:∀z∈j0 objs ((mu num).fmod 32),lm z:=λz r=>lZ z (lz r);have i:=l0 fst o;have lo:=c.lo;have P:=c.lp;refine ki a.sN (qG (c_:=objs) (bits:=(mu num).fmod 32) (by omega) a (by decide) ?_);generalize j0 objs ((mu num).fmod 32)=more at q f k⊢;tm_at"w2";refine j_ jz (λx=>[jz x]) (λY g_=>g_=J/\VL Y "kind" (.int 1)) _ _ _ _ ?_ ⟨rfl,rfl⟩ ?_ ?_
 .rw[kW,ah];show 0+_<=_;omega
 .rintro x Q Y g_ f_ s ⟨rfl,d⟩ j b;tm_at"w2";exact b _ _ ⟨rfl,d⟩
 rintro t g_ ⟨rfl,_⟩;rw[kW,aX];tm_at"w2";refine ki a.qE (pB (by omega) a (by omega) (by omega) c.ko f λR u=>?_);tm_at"w2";refine ki a.qE (pB (more:=[fst]) (by omega) a (by omega) (by simp) c.kp (by simpa using i) λw y=>?_);tm_at"w2";refine j_ AV.str (λp=>if(p,fst)∉xs then[jz (p,fst)]else[]) (λY g_=>g_=w/\VL Y "first" (.str fst)/\VL Y "kept" (.lst (xs.map jz))) _ _ _ _ ?_ ⟨rfl,rfl,rfl⟩ ?_ ?_
 .have:=li (g:=λp=>if(p,fst)∉xs then[jz (p,fst)]else[]) (λk=>by split<;>simp) more;show 0+_<=_;omega
 .rintro p A Y g_ f_ s ⟨rfl,d,l⟩ j b;tm_at"w2";refine sC (x:=(p,fst)) (f p A) i c.kx λv m=>?_;cases v
  .rw[aA (by simpa using m),bh]at b;tm_at"w2";exact b _ _ ⟨rfl,d,l⟩
  .rw[aB (m.mp rfl)]at b j;tm_at"w2";exact b _ _ ⟨rfl,d,l⟩
 rintro t g_ ⟨rfl,_⟩;rw[mC (λp=>(p,fst)∉xs) (λp=>jz (p,fst)),aX];have S:=bV (λp=>decide ((p,fst)∉xs)) more;tm_at"w2";apply ly (oP (by rw[ah,ah];omega));tm_at"w2";have e:xs.map jz++(more.filter λp=>decide ((p,fst)∉xs)).map (λp=>jz (p,fst))=(xs++(more.filter λp=>decide ((p,fst)∉xs)).map λp=>(p,fst)).map jz:=by rw[bB,c7];rfl
 rw[e];exact k _ (u.trans y)
def Lj(q:2<=n)(a:Fx L)(d:lW os ps xs)(s:xs.length<=200)(D:Dec num 10 one i_ fst snd)
  (k:∀g_,jp [] J g_->K (kN (jM os (k7 (j0 objs ((mu num).fmod 32)) os)) (jM ps [fst]) (xs.filter (λx=>decide (x.2≠fst))++((k7 (j0 objs ((mu num).fmod 32)) os).filter λp=>decide ((p,fst)∉xs.filter λx=>decide (x.2≠fst))).map λp=>(p,fst))) g_):(lv L n).fn 864 [kN os ps xs,.int num] J K X:=by
 refine j6 q a (I:=H.pQ) (Y:=[("number",.int num),("state",kN os ps xs)]) rfl rfl λn q=>?_;obtain⟨N,O,P,Q,es,R,S,t,T⟩:=D;tm_at"w2";have u:(j0 objs ((mu num).fmod 32)).length<=5:=mD _ _;have j:∀z∈j0 objs ((mu num).fmod 32),lm z:=λz hz=>lZ z (lz hz);have l:=l0 fst t;have lo:=d.lo;have U:=d.lp;refine ki a.sN (qG (c_:=objs) (bits:=(mu num).fmod 32) (by omega) a (by decide) ?_);tm_at"w2";refine ki a.xZ (DC (by omega) a (by omega) (.lst _) j d.ko ?_);have w:(k7 (j0 objs ((mu num).fmod 32)) os).length<=10:=by
  unfold k7
  grind
 have m:∀z∈k7 (j0 objs ((mu num).fmod 32)) os,lm z:=λz hz=>by
  rcases ba.mp hz with hz|hz
  .exact j z (aD.mp hz).1
  .exact j z (aD.mp (df hz)).1
 generalize k7 (j0 objs ((mu num).fmod 32)) os=more at w m k⊢;clear j u;tm_at"w2";refine j_ jz (λx=>if x.2≠fst then[jz x]else[]) (λY g_=>g_=J/\VL Y "kind" (.int 10)/\VL Y "first" (.str fst)) _ _ _ _ ?_ ⟨rfl,rfl,rfl⟩ ?_ ?_
 .have:=li (g:=λ(x:Str×Str)=>if x.2≠fst then[jz x]else[]) (λk=>by split<;>simp) xs;show 0+_<=_;omega
 .rintro x y Y g_ f_ A ⟨rfl,f,h⟩ o b;tm_at"w2";refine ne_str (d.kx x y).2 l λv i=>?_;cases v
  .rw[aA (by simpa using i),bh]at b;tm_at"w2";exact b _ _ ⟨rfl,f,h⟩
  .rw[aB (i.mp rfl)]at b o;tm_at"w2";exact b _ _ ⟨rfl,f,h⟩
 rintro B g_ ⟨rfl,_⟩;rw[mC (λx=>x.2≠fst) jz,aX];have r:∀z∈xs.filter (λx=>decide (x.2≠fst)),lm z.1/\lm z.2:=λz hz=>d.kx z (aD.mp hz).1;have C:=bq (bV (λx=>decide (x.2≠fst)) xs) s;generalize xs.filter (λx=>decide (x.2≠fst))=c at r C k⊢;tm_at"w2";refine ki a.qE (pB (by omega) a (by omega) (by omega) d.ko m λV E=>?_);tm_at"w2";refine ki a.qE (pB (more:=[fst]) (by omega) a (by omega) (by simp) d.kp (by simpa using l) λF G=>?_);tm_at"w2";refine j_ AV.str (λp=>if(p,fst)∉c then[jz (p,fst)]else[]) (λY g_=>g_=F/\VL Y "first" (.str fst)/\VL Y "kept" (.lst (c.map jz))) _ _ _ _ ?_ ⟨rfl,rfl,rfl⟩ ?_ ?_
 .have:=li (g:=λp=>if(p,fst)∉c then[jz (p,fst)]else[]) (λk=>by split<;>simp) more;show 0+_<=_;omega
 .rintro p M Y g_ f_ A ⟨rfl,f,h⟩ o b;tm_at"w2";refine sC (x:=(p,fst)) (m p M) l r λv i=>?_;cases v
  .rw[aA (by simpa using i),bh]at b;tm_at"w2";exact b _ _ ⟨rfl,f,h⟩
  .rw[aB (i.mp rfl)]at b o;tm_at"w2";exact b _ _ ⟨rfl,f,h⟩
 rintro B g_ ⟨rfl,_⟩;rw[mC (λp=>(p,fst)∉c) (λp=>jz (p,fst)),aX];have W:=bV (λp=>decide ((p,fst)∉c)) more;tm_at"w2";apply ly (oP (by rw[ah,ah];omega));tm_at"w2";have e:c.map jz++(more.filter λp=>decide ((p,fst)∉c)).map (λp=>jz (p,fst))=(c++(more.filter λp=>decide ((p,fst)∉c)).map λp=>(p,fst)).map jz:=by rw[bB,c7];rfl
 rw[e];exact k _ (E.trans G)
def Gd(j:2<=n)(l:Fx L)(c:lW os ps xs)(t:xs.length<=200)(D:Dec num 2 one i_ fst snd)
  (m:one∈os->K (kN (os.filter λz=>decide (z≠one)) ps (xs.filter λx=>decide (x.1≠one))) J) (o:one∉os->K (.str "key") J):(lv L n).fn 864 [kN os ps xs,.int num] J K X:=by
 refine j6 j l (I:=H.pQ) (Y:=[("number",.int num),("state",kN os ps xs)]) rfl rfl λn j=>?_;obtain⟨u,w,y,A,es,p,B,C,E⟩:=D;have e:=lZ one p;have lo:=c.lo;have F:=c.lp;tm_at"w2";refine qH e c.ko λv b=>?_;cases v
 .tm_at"w2";exact o (by simpa using b)
 .have q:=b.mp rfl;tm_at"w2";refine j_ AV.str (λx=>if x≠one then[AV.str x]else[]) (λY g_=>g_=J/\VL Y "one" (.str one)) _ _ _ _ ?_ ⟨rfl,rfl⟩ ?_ ?_
  .have:=li (g:=λx=>if x≠one then[AV.str x]else[]) (λk=>by split<;>simp) os;show 0+_<=_;omega
  .rintro x f Y g_ f_ r ⟨rfl,d⟩ h a;tm_at"w2";refine ne_str (c.ko x f) e λv b=>?_;cases v
   .rw[aA (by simpa using b),bh]at a;tm_at"w2";exact a _ _ ⟨rfl,d⟩
   .rw[aB (b.mp rfl)]at a h;tm_at"w2";exact a _ _ ⟨rfl,d⟩
  rintro s g_ ⟨rfl,_⟩;rw[AB (λx=>x≠one),aX];tm_at"w2";refine j_ jz (λx=>if x.1≠one then[jz x]else[]) (λY i=>i=g_/\VL Y "one" (.str one)) _ _ _ _ ?_ ⟨rfl,rfl⟩ ?_ ?_
  .have:=li (g:=λ(x:Str×Str)=>if x.1≠one then[jz x]else[]) (λk=>by split<;>simp) xs;show 0+_<=_;omega
  .rintro x f Y i f_ r ⟨rfl,d⟩ h a;tm_at"w2";refine ne_str (c.kx x f).1 e λv b=>?_;cases v
   .rw[aA (by simpa using b),bh]at a;tm_at"w2";exact a _ _ ⟨rfl,d⟩
   .rw[aB (b.mp rfl)]at a h;tm_at"w2";exact a _ _ ⟨rfl,d⟩
  rintro s i ⟨rfl,_⟩;rw[mC (λx=>x.1≠one) jz,aX];tm_at"w2";exact m q
def Ge(j:2<=n)(l:Fx L)(c:lW os ps xs)(A:xs.length<=200)(D:Dec num 4 one i_ fst snd)
  (m:one∈os->i_∉os->K (kN (os.map λz=>if z=one then i_ else z) ps (xs.map λw=>(if w.1=one then i_ else w.1,w.2))) J) (k:i_∈os∨one∉os->K (.str "value") J):(lv L n).fn 864 [kN os ps xs,.int num] J K X:=by
 refine j6 j l (I:=H.pQ) (Y:=[("number",.int num),("state",kN os ps xs)]) rfl rfl λn j=>?_;obtain⟨B,C,E,F,es,o,p,G,M⟩:=D;have g:=lZ one o;have q:=lZ i_ p;have lo:=c.lo;have N:=c.lp;tm_at"w2";refine qH q c.ko λv a=>?_;cases v
 case true=>tm_at"w2";exact k (.inl (a.mp rfl))
 have r:i_∉os:=by simpa using a
 tm_at"w2";refine FW g c.ko λv a=>?_;cases v
 case true=>tm_at"w2";exact k (.inr (a.mp rfl))
 have s:one∈os:=by simpa using a
 tm_at"w2";refine j_ AV.str (λx=>[AV.str (if x=one then i_ else x)]) (λY g_=>g_=J/\VL Y "one" (.str one)/\VL Y "two" (.str i_)) _ _ _ _ ?_ ⟨rfl,rfl,rfl⟩ ?_ ?_
 .rw[kW,ah];show 0+_<=_;omega
 .rintro x h Y g_ f_ t ⟨rfl,d,e⟩ f b;tm_at"w2";refine eq_str (c.ko x h) g λv a=>?_;cases v
  .rw[aA (by simpa using a)]at b f;tm_at"w2";exact b _ _ ⟨rfl,d,e⟩
  .rw[aB (a.mp rfl)]at b f;tm_at"w2";exact b _ _ ⟨rfl,d,e⟩
 rintro u g_ ⟨rfl,_⟩;rw[kW,aX,show(os.map λx=>AV.str (if x=one then i_ else x))=(os.map λz=>if z=one then i_ else z).map .str by rw[c7];rfl];tm_at"w2";refine j_ jz (λw=>[jz (if w.1=one then i_ else w.1,w.2)]) (λY i=>i=g_/\VL Y "one" (.str one)/\VL Y "two" (.str i_)) _ _ _ _ ?_ ⟨rfl,rfl,rfl⟩ ?_ ?_
 .rw[kW,ah];show 0+_<=_;omega
 .rintro⟨x,y⟩ h Y i f_ t ⟨rfl,d,e⟩ f b;tm_at"w2";refine eq_str (c.kx _ h).1 g λv a=>?_;cases v
  .rw[aA (by simpa using a)]at b f;tm_at"w2";exact b _ _ ⟨rfl,d,e⟩
  .rw[aB (a.mp rfl)]at b f;tm_at"w2";exact b _ _ ⟨rfl,d,e⟩
 rintro u i ⟨rfl,_⟩;rw[kW,aX,show(xs.map λw=>jz (if w.1=one then i_ else w.1,w.2))=(xs.map λw=>(if w.1=one then i_ else w.1,w.2)).map jz by rw[c7];rfl];tm_at"w2";exact m s r
def Gf(b:2<=n)(c:Fx L)(a:lW os ps xs)(k:xs.length<=200)(D:Dec num 6 one i_ fst snd)
  (f:one∈os->K (kN (lS os one ((mu num).fmod 14-7)) ps xs) J) (g:one∉os->K (.str "value") J):(lv L n).fn 864 [kN os ps xs,.int num] J K X:=by
 refine j6 b c (I:=H.pQ) (Y:=[("number",.int num),("state",kN os ps xs)]) rfl rfl λn b=>?_;obtain⟨l,m,o,p,es,h,q,r,s⟩:=D;have d:=lZ one h;have lo:=a.lo;have t:=a.lp;tm_at"w2";refine qH d a.ko λv e=>?_;cases v
 .tm_at"w2";exact g (by simpa using e)
 .have j:=e.mp rfl;tm_at"w2";refine ki c.B2 (FX (i:=(mu num).fmod 14-7) b c (by omega) a.ko d ?_);tm_at"w2";exact f j
def Gg(j:2<=n)(l:Fx L)(c:lW os ps xs)(t:xs.length<=200)(D:Dec num 3 one i_ fst snd)
  (m:fst∈ps->K (kN os (ps.filter λz=>decide (z≠fst)) (xs.filter λx=>decide (x.2≠fst))) J) (o:fst∉ps->K (.str "key") J):(lv L n).fn 864 [kN os ps xs,.int num] J K X:=by
 refine j6 j l (I:=H.pQ) (Y:=[("number",.int num),("state",kN os ps xs)]) rfl rfl λn j=>?_;obtain⟨u,w,y,A,es,B,C,p,E⟩:=D;have e:=l0 fst p;have lo:=c.lo;have F:=c.lp;tm_at"w2";refine qH e c.kp λv b=>?_;cases v
 .tm_at"w2";exact o (by simpa using b)
 .have q:=b.mp rfl;tm_at"w2";refine j_ AV.str (λx=>if x≠fst then[AV.str x]else[]) (λY g_=>g_=J/\VL Y "first" (.str fst)) _ _ _ _ ?_ ⟨rfl,rfl⟩ ?_ ?_
  .have:=li (g:=λx=>if x≠fst then[AV.str x]else[]) (λk=>by split<;>simp) ps;show 0+_<=_;omega
  .rintro x f Y g_ f_ r ⟨rfl,d⟩ h a;tm_at"w2";refine ne_str (c.kp x f) e λv b=>?_;cases v
   .rw[aA (by simpa using b),bh]at a;tm_at"w2";exact a _ _ ⟨rfl,d⟩
   .rw[aB (b.mp rfl)]at a h;tm_at"w2";exact a _ _ ⟨rfl,d⟩
  rintro s g_ ⟨rfl,_⟩;rw[AB (λx=>x≠fst),aX];tm_at"w2";refine j_ jz (λx=>if x.2≠fst then[jz x]else[]) (λY i=>i=g_/\VL Y "first" (.str fst)) _ _ _ _ ?_ ⟨rfl,rfl⟩ ?_ ?_
  .have:=li (g:=λ(x:Str×Str)=>if x.2≠fst then[jz x]else[]) (λk=>by split<;>simp) xs;show 0+_<=_;omega
  .rintro x f Y i f_ r ⟨rfl,d⟩ h a;tm_at"w2";refine ne_str (c.kx x f).2 e λv b=>?_;cases v
   .rw[aA (by simpa using b),bh]at a;tm_at"w2";exact a _ _ ⟨rfl,d⟩
   .rw[aB (b.mp rfl)]at a h;tm_at"w2";exact a _ _ ⟨rfl,d⟩
  rintro s i ⟨rfl,_⟩;rw[mC (λx=>x.2≠fst) jz,aX];tm_at"w2";exact m q
def Gh(j:2<=n)(l:Fx L)(c:lW os ps xs)(A:xs.length<=200)(D:Dec num 5 one i_ fst snd)
  (m:fst∈ps->snd∉ps->K (kN os (ps.map λz=>if z=fst then snd else z) (xs.map λw=>(w.1,if w.2=fst then snd else w.2))) J) (k:snd∈ps∨fst∉ps->K (.str "value") J):(lv L n).fn 864 [kN os ps xs,.int num] J K X:=by
 refine j6 j l (I:=H.pQ) (Y:=[("number",.int num),("state",kN os ps xs)]) rfl rfl λn j=>?_;obtain⟨B,C,E,F,es,G,M,o,p⟩:=D;have g:=l0 fst o;have q:=l0 snd p;have lo:=c.lo;have N:=c.lp;tm_at"w2";refine qH q c.kp λv a=>?_;cases v
 case true=>tm_at"w2";exact k (.inl (a.mp rfl))
 have r:snd∉ps:=by simpa using a
 tm_at"w2";refine FW g c.kp λv a=>?_;cases v
 case true=>tm_at"w2";exact k (.inr (a.mp rfl))
 have s:fst∈ps:=by simpa using a
 tm_at"w2";refine j_ AV.str (λx=>[AV.str (if x=fst then snd else x)]) (λY g_=>g_=J/\VL Y "first" (.str fst)/\VL Y "second" (.str snd)) _ _ _ _ ?_ ⟨rfl,rfl,rfl⟩ ?_ ?_
 .rw[kW,ah];show 0+_<=_;omega
 .rintro x h Y g_ f_ t ⟨rfl,d,e⟩ f b;tm_at"w2";refine eq_str (c.kp x h) g λv a=>?_;cases v
  .rw[aA (by simpa using a)]at b f;tm_at"w2";exact b _ _ ⟨rfl,d,e⟩
  .rw[aB (a.mp rfl)]at b f;tm_at"w2";exact b _ _ ⟨rfl,d,e⟩
 rintro u g_ ⟨rfl,_⟩;rw[kW,aX,show(ps.map λx=>AV.str (if x=fst then snd else x))=(ps.map λz=>if z=fst then snd else z).map .str by rw[c7];rfl];tm_at"w2";refine j_ jz (λw=>[jz (w.1,if w.2=fst then snd else w.2)]) (λY i=>i=g_/\VL Y "first" (.str fst)/\VL Y "second" (.str snd)) _ _ _ _ ?_ ⟨rfl,rfl,rfl⟩ ?_ ?_
 .rw[kW,ah];show 0+_<=_;omega
 .rintro⟨x,y⟩ h Y i f_ t ⟨rfl,d,e⟩ f b;tm_at"w2";refine eq_str (c.kx _ h).2 g λv a=>?_;cases v
  .rw[aA (by simpa using a)]at b f;tm_at"w2";exact b _ _ ⟨rfl,d,e⟩
  .rw[aB (a.mp rfl)]at b f;tm_at"w2";exact b _ _ ⟨rfl,d,e⟩
 rintro u i ⟨rfl,_⟩;rw[kW,aX,show(xs.map λw=>jz (w.1,if w.2=fst then snd else w.2))=(xs.map λw=>(w.1,if w.2=fst then snd else w.2)).map jz by rw[c7];rfl];tm_at"w2";exact m s r
def Gi(b:2<=n)(c:Fx L)(a:lW os ps xs)(k:xs.length<=200)(D:Dec num 7 one i_ fst snd)
  (f:fst∈ps->K (kN os (lS ps fst ((mu num).fmod 12-6)) xs) J) (g:fst∉ps->K (.str "value") J):(lv L n).fn 864 [kN os ps xs,.int num] J K X:=by
 refine j6 b c (I:=H.pQ) (Y:=[("number",.int num),("state",kN os ps xs)]) rfl rfl λn b=>?_;obtain⟨l,m,o,p,es,q,r,h,s⟩:=D;have d:=l0 fst h;have lo:=a.lo;have t:=a.lp;tm_at"w2";refine qH d a.kp λv e=>?_;cases v
 .tm_at"w2";exact g (by simpa using e)
 .have j:=e.mp rfl;tm_at"w2";refine ki c.B2 (FX (i:=(mu num).fmod 12-6) b c (by omega) a.kp d ?_);tm_at"w2";exact f j
def OZ(f:2<=n)(b:Fx L)(a:lW os ps xs)(s:xs.length<=200)(D:Dec num 8 one i_ fst snd)
  (k:∀g_,jp [] J g_->K (kN (jM os [one]) (jM ps [snd]) (if(mu num).fmod 2=1 then xs.filter (λx=>decide (x≠(one,snd)))++[(one,snd)]else xs.filter λx=>decide (x≠(one,snd)))) g_):(lv L n).fn 864 [kN os ps xs,.int num] J K X:=by
 refine j6 f b (I:=H.pQ) (Y:=[("number",.int num),("state",kN os ps xs)]) rfl rfl λn f=>?_;obtain⟨A,B,C,E,es,t,F,G,u⟩:=D;have h:=lZ one t;have j:=l0 snd u;have lo:=a.lo;have M:=a.lp;tm_at"w2";refine j_ jz (λx=>if x≠(one,snd)then[jz x]else[]) (λY g_=>g_=J/\VL Y "one" (.str one)/\VL Y "second" (.str snd)) _ _ _ _ ?_ ⟨rfl,rfl,rfl⟩ ?_ ?_
 .have:=li (g:=λ(x:Str×Str)=>if x≠(one,snd)then[jz x]else[]) (λk=>by split<;>simp) xs;show 0+_<=_;omega
 .rintro x l Y g_ f_ N ⟨rfl,m,o⟩ w d;tm_at"w2";refine Li (y:=(one,snd)) (a.kx x l).1 (a.kx x l).2 h j λv c=>?_;cases v
  .rw[aA (by simpa using c),bh]at d;tm_at"w2";exact d _ _ ⟨rfl,m,o⟩
  .rw[aB (c.mp rfl)]at d w;tm_at"w2";exact d _ _ ⟨rfl,m,o⟩
 rintro O g_ ⟨rfl,_⟩;rw[mC (λx=>x≠(one,snd)) jz,aX];have z:=bq (bV (λx=>decide (x≠(one,snd))) xs) s;generalize xs.filter (λx=>decide (x≠(one,snd)))=p at z k⊢;tm_at"w2";refine ki b.qE (pB (more:=[one]) (by omega) b (by omega) (by simp) a.ko (by simpa using h) λP q=>?_);tm_at"w2";refine ki b.qE (pB (more:=[snd]) (by omega) b (by omega) (by simp) a.kp (by simpa using j) λQ r=>?_);tm_at"w";refine yP (i:=(mu num).fmod 2) λv c=>?_;cases v
 .rw[aA (by simpa using c)]at k;tm_at"w2";exact k _ (q.trans r)
 .rw[aB (c.mp rfl)]at k;tm_at"w2";apply ly (oP (by rw[ah];simp;omega));tm_at"w2";have e:p.map jz++[AV.tup [.str one,.str snd]]=(p++[(one,snd)]).map jz:=by rw[bB];rfl
  rw[e];exact k _ (q.trans r)
def Lk(a:2<=n)(b:Fx L)(D:Dec num 11 one i_ fst snd)(k:K (kN os ps xs) J):(lv L n).fn 864 [kN os ps xs,.int num] J K X:=by refine j6 a b (I:=H.pQ) (Y:=[("number",.int num),("state",kN os ps xs)]) rfl rfl λn a=>?_;obtain⟨c,d,e,f,es,g,h,i,j⟩:=D;tm_at"w2";exact k
structure O0 (L:Dt) (num:Int) (os ps:jK) (xs:kd) (r:az Str) (YX YY:jK) (X3:kd):Prop where
 kind:r=none∨r=some ("key":Str)∨r=some ("value":Str)
 X4:lW YX YY X3
 len:X3.length<=xs.length+5
 same:r≠none->YX=os/\YY=ps/\X3=xs
 aaO:∀(n:Nat) (J:jW) (K:KV) (X:KX),2<=n->(∀g_,jp [] J g_->K (match r with|none=>kN YX YY X3|some z=>.str z) g_)->(lv L n).fn 864 [kN os ps xs,.int num] J K X
 ref:∀(n:Nat) (J:jW) (K:KV) (X:KX) (T:pL),5<=n->TabAt J T os ps xs->(∀g_,jp T.lg J g_->TabAt g_ T YX YY X3->K (.str (r.getD "")) g_)->(lv L n).fn 878 [.ref T.t,.int num] J K X
def nO(c:Fx L)(e:lW ji je iQ)(f:iQ.length<=xs.length+5)
  (d:∀(n:Nat) (J:jW) (K:KV) (X:KX),2<=n->(∀g_,jp [] J g_->K (kN ji je iQ) g_)->(lv L n).fn 864 [kN os ps xs,.int num] J K X)
  (r:∀(n:Nat) (J:jW) (K:KV) (X:KX) (T:pL),4<=n->TabAt J T os ps xs->(∀g_,jp T.lg J g_->TabAt g_ T ji je iQ->K .none g_)->(lv L n).fn 871 [.ref T.t,.int num] J K X):O0 L num os ps xs none ji je iQ:=
 ⟨.inl rfl,e,f,λh=>absurd rfl h,d,λn J K X T g i k=>vk g c (λg_=>jp T.lg J g_/\TabAt g_ T ji je iQ) (λ_ _=>False) (λ_ _ h=>h.elim) (λm j l o p _=>r m J l o T j i λg_ a b=>p g_ ⟨a,b⟩) (λg_ h=>k g_ h.1 h.2) (λ_ h=>h.elim) λ_ h=>h.elim⟩
def Gj(c:Fx L)(e:lW os ps xs)
  (d:∀(n:Nat) (J:jW) (K:KV) (X:KX),2<=n->K (.str "key") J->(lv L n).fn 864 [kN os ps xs,.int num] J K X)
  (r:∀(n:Nat) (J:jW) (K:KV) (X:KX) (T:pL),4<=n->TabAt J T os ps xs->X ⟨"KeyError",true⟩ J->(lv L n).fn 871 [.ref T.t,.int num] J K X):O0 L num os ps xs (some ("key":Str)) os ps xs:=
 ⟨.inr (.inl rfl),e,by omega,λ_=>⟨rfl,rfl,rfl⟩,λn J K X a k=>d n J K X a (k J (jp.refl _ _)),λn J K X T a b k=>vk a c (λ_=>False) (λf g_=>f="KeyError"/\g_=J) (λ_ _ h=>.inl h.1) (λm g i j _ l=>r m J i j T g b (l _ _ ⟨rfl,rfl⟩)) (λ_ h=>h.elim) (λg_ h=>by rw[h.2];exact k J (jp.refl _ _) b) λ_ h=>by simp at h⟩
def sD(c:Fx L)(e:lW os ps xs)
  (d:∀(n:Nat) (J:jW) (K:KV) (X:KX),2<=n->K (.str "value") J->(lv L n).fn 864 [kN os ps xs,.int num] J K X)
  (r:∀(n:Nat) (J:jW) (K:KV) (X:KX) (T:pL),4<=n->TabAt J T os ps xs->X ⟨"ValueError",true⟩ J->(lv L n).fn 871 [.ref T.t,.int num] J K X):O0 L num os ps xs (some ("value":Str)) os ps xs:=
 ⟨.inr (.inr rfl),e,by omega,λ_=>⟨rfl,rfl,rfl⟩,λn J K X a k=>d n J K X a (k J (jp.refl _ _)),λn J K X T a b k=>vk a c (λ_=>False) (λf g_=>f="ValueError"/\g_=J) (λ_ _ h=>.inr h.1) (λm g i j _ l=>r m J i j T g b (l _ _ ⟨rfl,rfl⟩)) (λ_ h=>h.elim) (λ_ h=>by simp at h) λg_ h=>by rw[h.2];exact k J (jp.refl _ _) b⟩
def Gk{f:jK}:jM f [x]=if x∈f then f else f++[x]:=rfl
def Q8(g:Fx L)(d:lW os ps xs)(R:xs.length<=195)(num:Int):∃r ji je iQ,O0 L num os ps xs r ji je iQ:=by
 have⟨k,one,i_,fst,snd,S,U,D⟩:=UU num;have s:xs.length<=200:=by omega
 have I:k=0∨k=1∨k=2∨k=3∨k=4∨k=5∨k=6∨k=7∨k=8∨k=9∨k=10∨k=11:=by omega
 have C:=D.m1;have M:=D.m2;have G:=D.m3;have H:=D.m4;have u:∀z∈j0 lV ((mu num).fmod 16),z∈lV:=λz i=>lz i;have y:∀z∈j0 objs ((mu num).fmod 32),z∈objs:=λz i=>lz i;have N:(j0 lV ((mu num).fmod 16)).length<=4:=mD _ _;have O:(j0 objs ((mu num).fmod 32)).length<=5:=mD _ _;rcases I with rfl|rfl|rfl|rfl|rfl|rfl|rfl|rfl|rfl|rfl|rfl|rfl
 .refine⟨none,_,_,_,nO g (d.put (ms:=[one]) (ns:=j0 lV ((mu num).fmod 16)) (ys:=xs++((j0 lV ((mu num).fmod 16)).filter λp=>decide ((one,p)∉xs)).map λp=>(one,p)) (by simpa using C) u λz i=>?_) ?_ (λn J K X f k=>OW f g d s D k) λn J K X T f j k=>Uv f g d j D λg_ ys m i l=>k g_ m (l.congr λz=>?_)⟩
  .grind
  .exact bq JD (by omega)
  .grind
 .refine⟨none,_,_,_,nO g (d.put (ms:=j0 objs ((mu num).fmod 32)) (ns:=[fst]) (ys:=xs++((j0 objs ((mu num).fmod 32)).filter λp=>decide ((p,fst)∉xs)).map λp=>(p,fst)) y (by simpa using G) λz i=>?_) ?_ (λn J K X f k=>OY f g d s D k) λn J K X T f j k=>Ux f g d j D λg_ ys m i l=>k g_ m (l.congr λz=>?_)⟩
  .grind
  .exact bq JD (by omega)
  .grind
 .by_cases h:one∈os
  .refine⟨none,_,_,_,nO g (ji:=os.filter λz=>decide (z≠one)) (je:=ps) (iQ:=xs.filter λx=>decide (x.1≠one)) ⟨λz i=>d.o z (aD.mp i).1,d.p,d.no.filter _,d.np,λz i=>?_⟩ ?_ (λn J K X f k=>Gd f g d s D (λ_=>k J (jp.refl _ _)) λq=>absurd h q) λn J K X T f j k=>OQ f g d j D (λ_ g_ ys m i l=>k g_ m (l.congr λz=>?_)) λq=>absurd h q⟩
   .have⟨a,b⟩:=aD.mp i;exact⟨aD.mpr ⟨(d.x z a).1,b⟩,(d.x z a).2⟩
   .grind
   .rw[i,aD,c9]
  .exact⟨_,_,_,_,Gj g d (λn J K X f k=>Gd f g d s D (λq=>absurd q h) λ_=>k) λn J K X T f j k=>OQ f g d j D (λq=>absurd q h) λ_=>k⟩
 .by_cases h:fst∈ps
  .refine⟨none,_,_,_,nO g (ji:=os) (je:=ps.filter λz=>decide (z≠fst)) (iQ:=xs.filter λx=>decide (x.2≠fst)) ⟨d.o,λz i=>d.p z (aD.mp i).1,d.no,d.np.filter _,λz i=>?_⟩ ?_ (λn J K X f k=>Gg f g d s D (λ_=>k J (jp.refl _ _)) λq=>absurd h q) λn J K X T f j k=>OR f g d j D (λ_ g_ ys m i l=>k g_ m (l.congr λz=>?_)) λq=>absurd h q⟩
   .have⟨a,b⟩:=aD.mp i;exact⟨(d.x z a).1,aD.mpr ⟨(d.x z a).2,b⟩⟩
   .grind
   .rw[i,aD,c9]
  .exact⟨_,_,_,_,Gj g d (λn J K X f k=>Gg f g d s D (λq=>absurd q h) λ_=>k) λn J K X T f j k=>OR f g d j D (λq=>absurd q h) λ_=>k⟩
 .by_cases h:one∈os/\i_∉os
  .refine⟨none,_,_,_,nO g (ji:=os.map λz=>if z=one then i_ else z) (je:=ps) (iQ:=xs.map λw=>(if w.1=one then i_ else w.1,w.2)) ⟨λz i=>?_,d.p,xt d.no h.2,d.np,λz i=>?_⟩ (by rw[ah];omega) (λn J K X f k=>Ge f g d s D (λ_ _=>k J (jp.refl _ _)) λq=>q.elim (λq=>absurd q h.2) λq=>absurd h.1 q) λn J K X T f j k=>OS f g d j D (λ_ _ g_ ys m i l=>k g_ m (l.congr λz=>?_)) λq=>q.elim (λq=>absurd q h.2) λq=>absurd h.1 q⟩
   .have⟨w,t,e⟩:=aM.mp i;by_cases q:w=one
    .rw[aB q]at e;exact e▸M
    .rw[aA q]at e;exact e▸d.o w t
   .obtain⟨w,t,rfl⟩:=aM.mp i;exact⟨aM.mpr ⟨w.1,(d.x w t).1,rfl⟩,(d.x w t).2⟩
   .grind
  .have h':i_∈os∨one∉os:=by by_cases a:i_∈os;exact .inl a;exact .inr λb=>h ⟨b,a⟩
   exact⟨_,_,_,_,sD g d (λn J K X f k=>Ge f g d s D (λa b=>absurd ⟨a,b⟩ h) λ_=>k) λn J K X T f j k=>OS f g d j D (λa b=>absurd ⟨a,b⟩ h) λ_=>k⟩
 .by_cases h:fst∈ps/\snd∉ps
  .refine⟨none,_,_,_,nO g (ji:=os) (je:=ps.map λz=>if z=fst then snd else z) (iQ:=xs.map λw=>(w.1,if w.2=fst then snd else w.2)) ⟨d.o,λz i=>?_,d.no,xt d.np h.2,λz i=>?_⟩ (by rw[ah];omega) (λn J K X f k=>Gh f g d s D (λ_ _=>k J (jp.refl _ _)) λq=>q.elim (λq=>absurd q h.2) λq=>absurd h.1 q) λn J K X T f j k=>OT f g d j D (λ_ _ g_ ys m i l=>k g_ m (l.congr λz=>?_)) λq=>q.elim (λq=>absurd q h.2) λq=>absurd h.1 q⟩
   .have⟨w,t,e⟩:=aM.mp i;by_cases q:w=fst
    .rw[aB q]at e;exact e▸H
    .rw[aA q]at e;exact e▸d.p w t
   .obtain⟨w,t,rfl⟩:=aM.mp i;exact⟨(d.x w t).1,aM.mpr ⟨w.2,(d.x w t).2,rfl⟩⟩
   .grind
  .have h':snd∈ps∨fst∉ps:=by by_cases a:snd∈ps;exact .inl a;exact .inr λb=>h ⟨b,a⟩
   exact⟨_,_,_,_,sD g d (λn J K X f k=>Gh f g d s D (λa b=>absurd ⟨a,b⟩ h) λ_=>k) λn J K X T f j k=>OT f g d j D (λa b=>absurd ⟨a,b⟩ h) λ_=>k⟩
 .by_cases h:one∈os
  .exact⟨none,_,_,_,nO g (ji:=lS os one ((mu num).fmod 14-7)) (je:=ps) (iQ:=xs) ⟨λz i=>d.o z ((uq h z).mp i),d.p,Gb d.no,d.np,λz i=>⟨(uq h _).mpr (d.x z i).1,(d.x z i).2⟩⟩ (by omega) (λn J K X f k=>Gf f g d s D (λ_=>k J (jp.refl _ _)) λq=>absurd h q) λn J K X T f j k=>OU f g d j D (λ_ g_ m l=>k g_ m l) λq=>absurd h q⟩
  .exact⟨_,_,_,_,sD g d (λn J K X f k=>Gf f g d s D (λq=>absurd q h) λ_=>k) λn J K X T f j k=>OU f g d j D (λq=>absurd q h) λ_=>k⟩
 .by_cases h:fst∈ps
  .exact⟨none,_,_,_,nO g (ji:=os) (je:=lS ps fst ((mu num).fmod 12-6)) (iQ:=xs) ⟨d.o,λz i=>d.p z ((uq h z).mp i),d.no,Gb d.np,λz i=>⟨(d.x z i).1,(uq h _).mpr (d.x z i).2⟩⟩ (by omega) (λn J K X f k=>Gi f g d s D (λ_=>k J (jp.refl _ _)) λq=>absurd h q) λn J K X T f j k=>OV f g d j D (λ_ g_ m l=>k g_ m l) λq=>absurd h q⟩
  .exact⟨_,_,_,_,sD g d (λn J K X f k=>Gi f g d s D (λq=>absurd q h) λ_=>k) λn J K X T f j k=>OV f g d j D (λq=>absurd q h) λ_=>k⟩
 .have B:∀z,z∈(if(mu num).fmod 2=1 then xs.filter (λx=>decide (x≠(one,snd)))++[(one,snd)]else xs.filter λx=>decide (x≠(one,snd)))↔(if z=(one,snd)then(mu num).fmod 2=1 else z∈xs):=by intro z;by_cases c:(mu num).fmod 2=1<;>by_cases q:z=(one,snd)<;>simp[c,q,aD]
  refine⟨none,_,_,_,nO g (d.put (ms:=[one]) (ns:=[snd]) (ys:=if(mu num).fmod 2=1 then xs.filter (λx=>decide (x≠(one,snd)))++[(one,snd)]else xs.filter λx=>decide (x≠(one,snd))) (by simpa using C) (by simpa using H) λz i=>?_) ?_ (λn J K X f k=>OZ f g d s D k) λn J K X T f j k=>Uy f g d j D λg_ ys m i l=>k g_ m (l.congr λz=>?_)⟩
  .grind
  .grind
  .rw[i,B]
 .have E:=Ii (there:=ps) (AQ ((mu num).fmod 16));have sub:∀z∈k7 (j0 lV ((mu num).fmod 16)) ps,z∈lV:=λz i=>u z (DJ i);have P:(k7 (j0 lV ((mu num).fmod 16)) ps).length<=4:=JC (AQ _) (A:=lV) u;have B:∀z,z∈xs.filter (λx=>decide (x.1≠one))++((k7 (j0 lV ((mu num).fmod 16)) ps).filter λp=>decide ((one,p)∉xs.filter λx=>decide (x.1≠one))).map (λp=>(one,p))↔(z∈xs/\z.1≠one)∨(z.1=one/\z.2∈k7 (j0 lV ((mu num).fmod 16)) ps):=by grind
  refine⟨none,_,_,_,nO g (d.put (ms:=[one]) (ns:=k7 (j0 lV ((mu num).fmod 16)) ps) (ys:=xs.filter (λx=>decide (x.1≠one))++((k7 (j0 lV ((mu num).fmod 16)) ps).filter λp=>decide ((one,p)∉xs.filter λx=>decide (x.1≠one))).map (λp=>(one,p))) (by simpa using C) sub λz i=>?_) ?_ (λn J K X f k=>OX f g d s D k) λn J K X T f j k=>Uz f g d j D E λg_ Q ys F m i l=>k g_ m ?_⟩
  .grind
  .grind
  .rw[Ga F]at l;exact l.congr λz=>by rw[i,B]
 .have E:=Ii (there:=os) (AP ((mu num).fmod 32));have sub:∀z∈k7 (j0 objs ((mu num).fmod 32)) os,z∈objs:=λz i=>y z (DJ i);have P:(k7 (j0 objs ((mu num).fmod 32)) os).length<=5:=JC (AP _) (A:=objs) y;have B:∀z,z∈xs.filter (λx=>decide (x.2≠fst))++((k7 (j0 objs ((mu num).fmod 32)) os).filter λp=>decide ((p,fst)∉xs.filter λx=>decide (x.2≠fst))).map (λp=>(p,fst))↔(z∈xs/\z.2≠fst)∨(z.2=fst/\z.1∈k7 (j0 objs ((mu num).fmod 32)) os):=by grind
  refine⟨none,_,_,_,nO g (d.put (ms:=k7 (j0 objs ((mu num).fmod 32)) os) (ns:=[fst]) (ys:=xs.filter (λx=>decide (x.2≠fst))++((k7 (j0 objs ((mu num).fmod 32)) os).filter λp=>decide ((p,fst)∉xs.filter λx=>decide (x.2≠fst))).map (λp=>(p,fst))) sub (by simpa using G) λz i=>?_) ?_ (λn J K X f k=>Lj f g d s D k) λn J K X T f j k=>QU f g d j D E λg_ Q ys F m i l=>k g_ m ?_⟩
  .grind
  .grind
  .rw[Ga F]at l;exact l.congr λz=>by rw[i,B]
 .exact⟨none,_,_,_,nO g d (by omega) (λn J K X f k=>Lk f g D (k J (jp.refl _ _))) λn J K X T f j k=>QV f g D (k J (jp.refl _ _) j)⟩
def Gl(h:os.length≠ji.length):¬Alike os ps xs ji je iQ:=λq=>h q.1.1
def Gm(h:ps.length≠je.length):¬Alike os ps xs ji je iQ:=λq=>h q.2.1.1
def UA{l:jK}(h:2<=l.length)(c:l.Nodup):l.reverse≠l:=by
 intro e;cases l with
 |nil=>simp at h
 |cons a t=>
 have b:t≠[]:=by rintro rfl;simp at h
 have d:=(List.dropLast_concat_getLast b).symm;rw[d]at e;rw[dg,List.reverse_append,im,List.singleton_append,eS]at e;injection e with e _;exact(aL.mp c).1 (e▸List.getLast_mem b)
def jp.mP{c:j3}(h:jp [] J g_)(a:J.length<=k):jp [] J (g_.set k c):=h.fresh (jp.put (M:=[k]) (.head _)) (by simpa using a)
def Ll:jK:=["a","a"]
def DK:jK:=["p","p"]
def Lm:Do (.lst (Ll.map .str)):=jO (lQ Ll) ⟨by decide,by tm_at"d"⟩
def Ln:Do (.lst (DK.map .str)):=jO (lQ DK) ⟨by decide,by tm_at"d"⟩
def QW:∀z∈Ll,lm z:=by unfold lm;tm_at"d"
def JE:∀z∈DK,lm z:=by unfold lm;tm_at"d"
def JF{f:iJ}{b:aY}{l':jy}(c:1<=n)(a:Fx L)(h:H.HX f=some (I,b))(e:rC I l=rC I l')(k:(lv L n).fn f l' J K X):(lv L n).fn f l J K X:=by
 obtain⟨m,rfl⟩:∃m,n=m+1:=⟨n-1,by omega⟩
 change ky (L.fns f) _ at k;show ky (L.fns f) _;rw[a.fns,h]at k⊢;unfold ky at k⊢;unfold yI at k⊢;dsimp only at k⊢;rw[e];exact k
def Gn(h:3<=n)(a:Fx L)(hi:J[t]?=some (.inst 833 dt))(b:J[dt]?=some (.dict []))(k:∀g_,jp [dt] J g_->X ⟨"ValueError",true⟩ g_):(lv L n).fn 597 [.ref t,.lst (Ll.map .str),b2,b3] J K X:=by
 refine j6 h a (I:=H.xY) (Y:=[("bools",b3),("properties",b2),("objects",.lst (Ll.map .str)),("self",.ref t)]) rfl rfl λn h=>?_;have m:dt≠t:=by intro e;rw[e,hi]at b;cases b
 have q1:=kH hi;have B:=kH b;tm_at"w";apply nJ a.B7 a.xl;refine tZ (by omega) a (u:=J.length+1) (du:=J.length) mW mV (Seq.lst _) (by decide) QW λiT C lo o p q i=>?_;rw[show jM [] Ll=[("a":Str)] by tm_at"d"]at i;rw[show(J++[j3.dict [],j3.inst 565 J.length]).length=J.length+2 by simp]at p q;have d:jp [] J iT:=(jp.app ..).fresh o (by simp);have r:=d.get (by simp) hi;have d1:=d.get (by simp) b;have D:=d.len;have j:=kn (k:=dt) (c:=.dict [("_objects",.ref (J.length+1))]) r m;have d2:=k_ (c:=.dict [("_objects",.ref (J.length+1))]) d1;have f:jp [dt] iT (iT.set dt (.dict [("_objects",.ref (J.length+1))])):=jp.put (.head _);have g:=i.keep f (by intro z l;rw[aN]at l;subst l;refine⟨?_,?_,?_,?_⟩<;>(dsimp only;omega));have s:=f.len;generalize w:iT.set dt (.dict [("_objects",.ref (J.length+1))])=E at j d2 f g s;tm_at"w";rw[show u6 _ _ _=[(("_objects":Str),AV.ref (J.length+1))]from rfl,w];apply mA j d2 (by tm_at"fx") rfl rfl;tm_at"w";obtain⟨x,od,-⟩:=id g;refine lT x od (by tm_at"fx") (rg (by omega) a g ⟨by decide,by decide,?_⟩);tm_at"w";apply nL (Seq.lst _) (by decide);rw[ah];refine um λv y=>?_;cases v
 case false=>exact absurd (y.mpr (by decide)) (by simp)
 tm_at"w";refine⟨Lm,?_⟩;intro A;tm_at"w";exact k _ (d.more.trans f)
def Go(w:3<=n)(b:Fx L)(y:Seq b1 (os.map .str))(A:∀x∈os,lm x)(B:os.Nodup)(hi:J[t]?=some (.inst 833 dt))(h:J[dt]?=some (.dict []))(k:∀g_,jp [dt] J g_->X ⟨"ValueError",true⟩ g_):(lv L n).fn 597 [.ref t,b1,.lst (DK.map .str),b3] J K X:=by
 refine j6 w b (I:=H.xY) (Y:=[("bools",b3),("properties",.lst (DK.map .str)),("objects",b1),("self",.ref t)]) rfl rfl λn w=>?_;have l1:os.length<=10:=kS (m:=nI) B A;have C:dt≠t:=by intro e;rw[e,hi]at h;cases h
 have q1:=kH hi;have q2:=kH h;tm_at"w";apply nJ b.B7 b.xl;refine tZ (by omega) b (u:=J.length+1) (du:=J.length) mW mV y (by omega) A λiT so lo G M N D=>?_;rw[t6 B]at D;rw[show(J++[j3.dict [],j3.inst 565 J.length]).length=J.length+2 by simp]at M N;have i:jp [] J iT:=(jp.app ..).fresh G (by simp);have O:=i.get (by simp) hi;have d1:=i.get (by simp) h;have r1:=i.len;have o:=kn (k:=dt) (c:=.dict [("_objects",.ref (J.length+1))]) O C;have d2:=k_ (c:=.dict [("_objects",.ref (J.length+1))]) d1;have j:jp [dt] iT (iT.set dt (.dict [("_objects",.ref (J.length+1))])):=jp.put (.head _);have l:=D.keep j (by intro z d;rw[aN]at d;subst d;refine⟨?_,?_,?_,?_⟩<;>(dsimp only;omega));have P:=j.len;generalize Q:iT.set dt (.dict [("_objects",.ref (J.length+1))])=a at o d2 j l P;tm_at"w";rw[show u6 _ _ _=[(("_objects":Str),AV.ref (J.length+1))]from rfl,Q];apply mA o d2 (by tm_at"fx") rfl rfl;tm_at"w";obtain⟨R,od,-⟩:=id l;refine lT R od (by tm_at"fx") (rg (by omega) b l ⟨by omega,by omega,?_⟩);tm_at"w";apply nL y (by rw[ah];omega);rw[ah];refine um λv p=>?_;cases v
 case true=>exact absurd rfl (p.mp rfl)
 tm_at"w";apply nJ b.B7 b.xl;refine tZ (by omega) b (u:=a.length+1) (du:=a.length) mW mV (Seq.lst _) (by decide) JE λj1 sp lp S q r E=>?_;rw[show jM [] DK=[("p":Str)] by tm_at"d"]at E;rw[show(a++[j3.dict [],j3.inst 565 a.length]).length=a.length+2 by simp]at q r;have f:jp [] a j1:=(jp.app ..).fresh S (by simp);have T:=f.get (by simp) o;have d3:=f.get (by simp) d2;have U:=l.j7 f;have r3:=f.len;have F:=kn (k:=dt) (c:=.dict [("_objects",.ref (J.length+1)),("_properties",.ref (a.length+1))]) T C;have d4:=k_ (c:=.dict [("_objects",.ref (J.length+1)),("_properties",.ref (a.length+1))]) d3;have g:jp [dt] j1 (j1.set dt (.dict [("_objects",.ref (J.length+1)),("_properties",.ref (a.length+1))])):=jp.put (.head _);have V:=U.keep g (by intro z d;rw[aN]at d;subst d;refine⟨?_,?_,?_,?_⟩<;>(dsimp only;omega));have s:=E.keep g (by intro z d;rw[aN]at d;subst d;refine⟨?_,?_,?_,?_⟩<;>(dsimp only;omega));have W:=g.len;generalize Z:j1.set dt (.dict [("_objects",.ref (J.length+1)),("_properties",.ref (a.length+1))])=lY at F d4 g V s W;tm_at"w";rw[show u6 _ _ _=[(("_objects":Str),AV.ref (J.length+1)),(("_properties":Str),AV.ref (a.length+1))]from rfl,Z];apply mA F d4 (by tm_at"fx") rfl rfl;tm_at"w";obtain⟨pi,pd,-⟩:=id s;refine lT pi pd (by tm_at"fx") (rg (by omega) b s ⟨by decide,by decide,?_⟩);tm_at"w";apply nL (Seq.lst _) (by decide);rw[ah];refine um λv p=>?_;cases v
 case false=>exact absurd (p.mpr (by decide)) (by simp)
 tm_at"w";refine⟨Ln,?_⟩;intro msg;tm_at"w";exact k _ (((i.more.trans j).trans f.more).trans g)
def yd(d:c+1<=n)(e:Fx L){b:Expr}(h:∀m,c<=m->∀(g:KV) (f:KX),(∀g_,jp [] J g_->f ⟨"ValueError",true⟩ g_)->(lv L m).lam sc b J g f)(k:∀g_,jp [] J g_->K (.bool true) g_):(lv L n).fn 904 [.lam sc b] J K X:=by refine j6 d e (I:=H.B5) (Y:=[("deed",.lam sc b)]) rfl rfl λn d=>?_;tm_at"w";apply kX;refine h n d _ _ λg_ i=>?_;refine⟨rfl,.inr rfl,?_⟩;rw[e.glob];apply jO (a:="ValueError") (by tm_at"d");rw[aB rfl];tm_at"w";exact k g_ i
def O1(d:c+1<=n){b:Expr}(a:Fh sc=true)(h:∀m,c<=m->∀code,aE ((lv L m).par L).toPar 100 (Ja sc code) b [] J K λx g_=>X ⟨x.name,true⟩ g_):(lv L n).lam sc b J K X:=by
 obtain⟨m,rfl⟩:∃m,n=m+1:=⟨n-1,by omega⟩
 exact⟨a,h m (by omega)⟩
def uy:jK:=["a","b","c","d"]
def rR:jK:=["p","q","r","s"]
def X5:jK:=["q","p","s"]
def cad:jK:=["c","a","d"]
def pM:kd:=[("a","p"),("b","p"),("b","q"),("b","s"),("a","r"),("c","r"),("d","r")]
def wB{l:jK}(h:∀z∈l,lm z):pS (.lst (l.map .str))=true:=by exact ve h
def Lo(l:jK):rK (.lst (l.map .str))<=20:=by show mM _+1<=20;have:=rN l;omega
def JG:∀z∈uy,lm z:=by unfold lm;tm_at"d"
def JH:∀z∈rR,lm z:=by unfold lm;tm_at"d"
def JI(ok:∀z∈N,lm z)(e:ss=N)(a:b=.lst (N.map .str))(k:K (.bool false) J):lF P iK .NotEq (.lst (ss.map .str)) b J K X:=by
 subst e a;refine nE (wB ok) (wB ok) (Lo _) λv c=>?_;cases v
 .exact k
 .exact absurd rfl (c.mp rfl)
def JJ(e:N.length=4)(f:N.Nodup)(h:∀w∈N,∀x∈N,∀y∈N,∀z∈N,PyProof.Rows.sortedS [w,x,y,z]=true->[w,x,y,z].Nodup->[w,x,y,z]=N)(c:ss.Perm N)(g:PyProof.Rows.sortedS ss=true):ss=N:=by
 have d:=c.length_eq;have i:=c.nodup_iff.mpr f;have b:=λz=>(c.mem_iff (a:=z)).mp;rw[e]at d
 match ss,d with
 |[w,x,y,z],_=>exact h w (b w (by simp)) x (b x (by simp)) y (b y (by simp)) z (b z (by simp)) g i
def Gp(a:ss.Perm uy)(b:PyProof.Rows.sortedS ss=true):ss=uy:=JJ rfl (by tm_at"d") (by tm_at"d") a b
def Gq(a:ss.Perm rR)(b:PyProof.Rows.sortedS ss=true):ss=rR:=JJ rfl (by tm_at"d") (by tm_at"d") a b
def wC{l:jK}(h:z.cps.all (·<128)=true)(e:uK z=l.map .str)(k:KI (l.map .str) (λ_=>True) J):oX (rI L fn) (.str z) J KI:=by refine HY rfl (Ap ?_);exact⟨h,by rw[e];exact k⟩
def QX(hd:7<=n)(a:Fx L){K:KS}{X:wM}(k:∀g_ T os ps xs,jp [] J g_->TabAt g_ T os ps xs->os.Perm uy->ps.Perm rR->(∀o∈uy,∀p∈rR,(o,p)∈xs↔(o,p)∈pM)->K .next [("table",.ref T.t)] g_):rS ((lv L n).par L) 200 (oV H.sP) (H.sP.body.take 8) [] J K X:=by
 tm_at"w2";refine⟨vf a rfl,?_⟩;tm_at"w2";refine ki a.B5 (yd (c:=5) (by omega) a (λm e KD XD C=>O1 (c:=4) e (by tm_at"d") λm e code=>?_) λiT l_=>?_)
 .tm_at"w2";apply nJ a.B8 a.xo;refine Gn (by omega) a mW mV λg_ D=>?_;exact C g_ ((jp.app ..).fresh D (by simp))
 tm_at"w2";refine⟨vf a rfl,?_⟩;tm_at"w2";refine ki a.B5 (yd (c:=5) (by omega) a (λm e KD XD C=>O1 (c:=4) e (by tm_at"d") λm e code=>?_) λb lE=>?_)
 .tm_at"w2";apply nJ a.B8 a.xo;refine Go (os:=[("a":Str)]) (by omega) a (.lst _) (by unfold lm;tm_at"d") (by tm_at"d") mW mV λg_ D=>?_;exact C g_ ((jp.app ..).fresh D (by simp))
 tm_at"w2";apply nJ a.B8 a.xo;refine JF (l':=[.ref (b.length+1),.tup [],.tup [],.tup []]) (by omega) a (I:=H.xY) rfl rfl ?_;refine AI (os:=[]) (ps:=[]) (rows:=[]) (by omega) a mW mV (.tup _) (.tup _) (.tup _) (by simp) (by simp) .nil .nil (by simp) λj1 o p E qK e hT=>?_;have Lf:jp [] b j1:=(jp.app ..).fresh qK (by simp);have kA:jp [] J j1:=(l_.trans lE).trans Lf;have lA:=(l_.trans lE).len;have w:TabAt j1 ⟨b.length+1,b.length,o,p,E⟩ [] [] []:=hT;have x:∀z∈pL.lg ⟨b.length+1,b.length,o,p,E⟩,J.length<=z:=λz d=>by have:=e z d;rw[show(b++[j3.dict [],j3.inst 833 b.length]).length=b.length+2 by simp]at this;omega
 obtain⟨T,F⟩:∃T:pL,T=⟨b.length+1,b.length,o,p,E⟩:=⟨_,rfl⟩
 rw[<-F]at w x;have ht:b.length+1=T.t:=by rw[F]
 clear hT e qK;rw[ht];clear ht F;obtain⟨i3,d3,-⟩:=id w;tm_at"w2";refine DF (ms:=DK) (xs:=[]) (by omega) a rfl w (by simp) (by unfold lm;tm_at"d") (.lst _) JE (by decide) λlY x4 rQ j T4=>?_;have l:=T4.congr (ys:=[(("a":Str),("p":Str))]) λz=>by
  rw[j];unfold DK;constructor
  .grind
  .intro h;rw[aN]at h;subst h;exact .inr ⟨rfl,by simp⟩
 rw[show(if("a":Str)∈([]:jK)then[]else[]++[("a":Str)])=[("a":Str)] by tm_at"d",show jM [] DK=[("p":Str)] by tm_at"d"]at l;have kB:jp [] J lY:=kA.fresh rQ λz d=>.inr (x z d);clear T4 w i3 d3 j;obtain⟨i4,d4,-⟩:=id l;tm_at"w2";refine ki a.wc (F_ (os:=[("a":Str)]) (ps:=[("p":Str)]) (xs:=[(("a":Str),("p":Str))]) (by omega) a l (by unfold lm;tm_at"d") λoY GI=>?_);have G:=l.j7 GI;have kC:=kB.trans GI;clear l i4 d4;obtain⟨i5,d5,-⟩:=id G;tm_at"w2";refine Jz (ms:=X5) (O:=uy) (P:=rR) (by omega) a G (by simp) (by unfold lm;tm_at"d") (.lst _) (by unfold lm;tm_at"d") (by tm_at"d") (by tm_at"d") (by tm_at"d") (by tm_at"d") (by tm_at"d") (by tm_at"d") λBD m6 x6 M N r y=>?_;rw[show(if("b":Str)∈[("a":Str)]then[("a":Str)]else[("a":Str)]++[("b":Str)])=[("a":Str),"b"] by tm_at"d"]at y;have kD:jp [] J BD:=kC.fresh N λz d=>.inr (x z d);clear G i5 d5;obtain⟨i6,d6,-⟩:=id y;have s6:∀z∈x6,z.1∈[("a":Str),"b"]/\z.2∈jM [("p":Str)] m6:=λz d=>by
  rcases(r z).mp d with⟨h,_⟩|⟨h1,h2⟩
  .rw[aN]at h;subst h;exact⟨by tm_at"d",ll.mpr (.inl (by tm_at"d"))⟩
  .exact⟨by rw[h1];tm_at"d",ll.mpr (.inr (M.mem_iff.mpr h2))⟩
 have Q:∀z∈X5,z∈rR:=by tm_at"d"
 have R:∀z∈[("p":Str)],z∈rR:=by tm_at"d"
 tm_at"w2";refine JA (ms:=cad) (O:=uy) (P:=rR) (by omega) a y s6 (by unfold lm;tm_at"d") (.lst _) (by unfold lm;tm_at"d") (by tm_at"d") (by tm_at"d") (by tm_at"d") (λz d=>(ll.mp d).elim (λq=>R z q) λq=>Q z (M.mem_iff.mp q)) (by tm_at"d") (by tm_at"d") λML m7 x7 S U V f=>?_;have kE:jp [] J ML:=kD.fresh U λz d=>.inr (x z d);clear y i6 d6;have A:(jM [("a":Str),"b"] m7).Perm uy:=(cJ f.o.nd (by tm_at"d")).mpr λz=>by
  rw[ll,S.mem_iff];have q:∀z∈uy++[("a":Str),"b"]++cad,(z∈[("a":Str),"b"]∨z∈cad)↔z∈uy:=by tm_at"d"
  exact⟨λh=>(q z (by simp only[ba];exact h.elim (λh=>.inl (.inr h)) λh=>.inr h)).mp h,λh=>(q z (by simp only[ba];exact .inl (.inl h))).mpr h⟩
 have B:(if("r":Str)∈jM [("p":Str)] m6 then jM [("p":Str)] m6 else jM [("p":Str)] m6++[("r":Str)]).Perm rR:=(cJ f.p.nd (by tm_at"d")).mpr λz=>by
  have q:∀z∈rR++[("p":Str)]++X5++[("r":Str)],((z∈[("p":Str)]∨z∈X5)∨z∈[("r":Str)])↔z∈rR:=by tm_at"d"
  have q2:z∈(if("r":Str)∈jM [("p":Str)] m6 then jM [("p":Str)] m6 else jM [("p":Str)] m6++[("r":Str)])↔(z∈[("p":Str)]∨z∈X5)∨z∈[("r":Str)]:=by rw[<-Gk,ll,ll,M.mem_iff]
  rw[q2];exact⟨λh=>(q z (by simp only[ba];exact h.elim (λh=>.inl (h.elim (λh=>.inl (.inr h)) .inr)) .inr)).mp h,λh=>(q z (by simp only[ba];exact .inl (.inl (.inl h)))).mpr h⟩
 have hC:∀o∈uy,∀p∈rR,(o,p)∈x7↔(o,p)∈pM:=λo ho p hp=>by
  rw[V,r];revert p o
  tm_at"d"
 generalize jM [("a":Str),"b"] m7=g at A f;generalize (if("r":Str)∈jM [("p":Str)] m6 then jM [("p":Str)] m6 else jM [("p":Str)] m6++[("r":Str)])=i at B f;have lO:g.length=4:=A.length_eq;have lP:i.length=4:=B.length_eq;obtain⟨i7,d7,-⟩:=id f;tm_at"w2";refine mi i7 d7 a.pn rfl a.p0 (qi (by omega) a f λacz s=>⟨rfl,?_⟩);have W:=f.j7 s;obtain⟨i8,d8,-⟩:=id W;tm_at"w2";apply kX;refine jO (lQ g) ⟨by omega,λss Y Z=>?_⟩;have e1:ss=uy:=Gp (Y.trans A) Z;tm_at"w2";apply JI JG e1 rfl;tm_at"w2";refine mi i8 d8 a.mX rfl a.nv (nK (by omega) a W λX7 u=>⟨rfl,?_⟩);have T9:=W.j7 u;obtain⟨i9,d9,-⟩:=id T9;tm_at"w2";apply kX;refine jO (lQ i) ⟨by omega,λss Y Z=>?_⟩;have e1:ss=rR:=Gq (Y.trans B) Z;tm_at"w2";apply JI JH e1 rfl;tm_at"w2";exact k X7 T g i x7 ((kE.trans s).trans u) T9 A B hC
section
def JQ:Expr->az AV
 |.Constant k _ _=>vA k
 |.Tuple [.Constant a _ _,.Constant b _ _] _ _=>match vA a,vA b with
  |some x,some y=>some (.tup [x,y])
  |_,_=>none
 |_=>none
def litsOf:j5->az (jy)
 |[]=>some []
 |e::es=>match JQ e,litsOf es with
  |some a,some l=>some (a::l)
  |_,_=>none
variable {P:tD}{c:nW}{Y:j9}{J:jW}
def X8{n:Nat}{e:Expr}{a:AV}{K:KV}{X:KX}(h:JQ e=some a)(k:K a J):aE P.toPar (n+2) c e Y J K X:=by
 unfold JQ at h;split at h
 .unfold aE;exact jO h k
 .rename_i x _ _ y _ _ _ _;split at h
  .rename_i u v b d;cases h;unfold aE;apply jO (K:=λa=>_) b;unfold aE;apply jO (K:=λa=>_) d;exact⟨by show(2:Nat)<=100000;decide,k⟩
  .cases h
 .cases h
def JK{f:Expr->jW->KV->Prop}(c:∀e a (K:KV),JQ e=some a->K a J->f e J K):∀{es:j5}{l:jy}{K:jy->jW->Prop},litsOf es=some l->K l J->oj f es J K
 |[],l,K,h,k=>by cases h;exact k
 |e::es,l,K,h,k=>by
  unfold litsOf at h;split at h
  .rename_i a l' d g;cases h;have b:oj f (e::es) J K=f e J λa i=>oj f es i λl jf=>K (a::l) jf:=by cases e<;>first|rfl|cases d
   rw[b];exact c e a _ d (JK c g k)
  .cases h
def UC{n:Nat}{x:Str}{b d pos:Pos}{e:Expr}{es:j5}{r:p6}{l:jy}{K:KS}{X:wM}(h:litsOf (e::es)=some l)(f:l.length<=100000)(g:m9 c x=true)(k:rS P (n+1) c r ((x,.lst l)::Y) J K X):rS P (n+2) c (.Assign [.Name x b] (.List (e::es) d) pos::r) Y J K X:=by unfold rS aS;unfold aE;exact JK (λe a K h k=>X8 h k) h ⟨f,g,k⟩
def rh{X:wM}:∀(a b:p6) (n:Nat) (Y:j9) (J:jW) (K:KS),rS P (n+1+a.length) c (a++b) Y J K X=rS P (n+1+a.length) c a Y J (λfl d g_=>match fl with|.next=>rS P (n+1) c b d g_ K X|fl=>K fl d g_) X
 |[],b,n,Y,J,K=>by
  conv=>rhs;unfold rS
  rfl
 |st::a,b,n,Y,J,K=>by rw[eS,aI,<-Nat.add_assoc];have e:=rh (X:=X) a b n;unfold rS;dsimp only;congr 1;funext fl f g;cases fl<;>first|exact e f g K|rfl
end
def Gr(a:1<=n)(b:Fx L){i:Int}(k:X ⟨"ValueError",true⟩ J):(lv L n).fn 738 [.ref t,.int i,v] J K X:=by refine j6 a b (I:=H.N8) (Y:=[("value",v),("pair",.int i),("self",.ref t)]) rfl rfl λn a=>?_;tm_at"w";apply sS;tm_at"w";exact k
def Lp:∀x∈pM,lm x.1/\lm x.2:=by unfold lm;tm_at"d"
def QY(O:7<=n)(e:Fx L){K:KS}{X:wM}(h:TabAt J T os ps xs)(I:os.Perm uy)(M:ps.Perm rR)(N:∀o∈uy,∀p∈rR,(o,p)∈xs↔(o,p)∈pM)(k:∀Y,K (.ret (.bool true)) Y J):rS ((lv L n).par L) 192 (oV H.sP) (H.sP.body.drop 8) [("table",.ref T.t)] J K X:=by
 obtain⟨i,d,-⟩:=id h;apply UC (l:=pM.map jz) rfl (by tm_at"d") rfl;generalize B:pM.map jz=G;tm_at"w2";have f:uK ("abcd":Str)=uy.map AV.str:=rfl;have g:uK ("pqrs":Str)=rR.map AV.str:=rfl;have j:("abcd":Str).cps.all (·<128)=true:=by tm_at"d"
 have r:("pqrs":Str).cps.all (·<128)=true:=by tm_at"d"
 apply wC j f;refine j_ AV.str (λo=>rR.map λp=>AV.bool (decide ((o,p)∈pM))) (λY g_=>g_=J/\VL Y "table" (.ref T.t)) _ _ _ _ ?_ ⟨rfl,rfl⟩ ?_ ?_
 .decide+kernel
 .rintro o z Y g_ f_ C ⟨rfl,b⟩ s c;tm_at"w";apply wC r g;refine j_ AV.str (λp=>[AV.bool (decide ((o,p)∈pM))]) (λY u=>u=g_/\VL Y "table" (.ref T.t)/\VL Y "o" (.str o)) _ _ _ _ ?_ ⟨rfl,b,rfl⟩ ?_ ?_
  .rw[kW];exact s
  .rintro p A Y g_ f_ C ⟨rfl,b,D⟩ s c;tm_at"w";refine jO (k9 i d) (jO e.nh (DH (by omega) e h (λq1 P=>?_) λq=>?_))
   .rw[show decide ((o,p)∈xs)=decide ((o,p)∈pM)from decide_eq_decide.mpr (N o z p A)];tm_at"w";exact c _ _ ⟨rfl,b,D⟩
   .exact absurd ⟨I.mem_iff.mpr z,M.mem_iff.mpr A⟩ q
  .rintro E g_ ⟨rfl,b,_⟩;rw[kW];tm_at"w";exact c _ _ ⟨rfl,b⟩
 .rintro E g_ ⟨rfl,_⟩;rw[aX];generalize SZ:uy.flatMap (λo=>rR.map λp=>AV.bool (decide ((o,p)∈pM)))=w;tm_at"w";apply wC j f;refine j_ AV.str (λo=>rR.map λp=>AV.bool (decide ((o,p)∈pM))) (λY u=>u=g_/\VL Y "crosses" (.lst G)) _ _ _ _ ?_ ⟨rfl,rfl⟩ ?_ ?_
  .decide+kernel
  .rintro o z Y g_ f_ C ⟨rfl,b⟩ s c;tm_at"w";apply wC r g;refine j_ AV.str (λp=>[AV.bool (decide ((o,p)∈pM))]) (λY u=>u=g_/\VL Y "crosses" (.lst G)/\VL Y "o" (.str o)) _ _ _ _ ?_ ⟨rfl,b,rfl⟩ ?_ ?_
   .rw[kW];exact s
   .rintro p A Y g_ f_ C ⟨rfl,b,D⟩ s c;tm_at"w";rw[<-B];apply AC (x:=(o,p)) (JG o z) (JH p A) Lp;tm_at"w";exact c _ _ ⟨rfl,b,D⟩
   .rintro E g_ ⟨rfl,b,_⟩;rw[kW];tm_at"w";exact c _ _ ⟨rfl,b⟩
  .rintro E g_ ⟨rfl,_⟩;rw[aX,SZ];have y:pS (.lst w)=true:=by show mR w=true;rw[<-SZ,rL];intro a m;have⟨o,_,m⟩:=ee.mp m;obtain⟨p,_,rfl⟩:=aM.mp m;rfl
   have F:rK (.lst w)<=20:=by
    show mM w+1<=20;have:=nH (n:=0) (l:=w) (by rw[<-SZ];intro a m;have⟨o,_,m⟩:=ee.mp m;obtain⟨p,_,rfl⟩:=aM.mp m;exact ao 0)
    omega
   tm_at"w";refine nE y y F λv B=>?_;cases v
   case true=>exact absurd rfl (B.mp rfl)
   tm_at"w";refine xk i d e.yO e.qF (Gr (by omega) e ?_);refine⟨rfl,.inr rfl,?_⟩;rw[e.glob];apply jO (a:="ValueError") (by tm_at"d");rw[aB rfl];tm_at"w";exact k _
def O2(a:8<=n)(b:Fx L)(k:∀g_,jp [] J g_->K (.bool true) g_):(lv L n).fn 914 [] J K X:=by refine j6 a b (I:=H.sP) (Y:=[]) rfl rfl λn a=>?_;rw[<-bw 8 H.sP.body];apply(rh (H.sP.body.take 8) (H.sP.body.drop 8) 191 [] J _).mpr;refine QX a b λg_ T os ps xs c h d e f=>?_;exact QY a b h d e f λY=>k g_ c
def UD (J:jW)(k:Nat):Prop:=(∃l,J[k]?=some (.list l))∨∃l,J[k]?=some (.set l)
def TabAt.sol(h:TabAt J T os ps xs):∀k∈T.lg,UD J k:=by
 obtain⟨-,-,⟨-,-,⟨_,b,-⟩,c,-⟩,⟨-,-,⟨_,d,-⟩,e,-⟩,⟨_,s,-⟩,-⟩:=h;intro k a;unfold pL.lg at a;simp only[af,bl,cI]at a;rcases a with rfl|rfl|rfl|rfl|rfl
 .exact .inr ⟨_,b⟩
 .exact .inl ⟨_,c⟩
 .exact .inr ⟨_,d⟩
 .exact .inl ⟨_,e⟩
 .exact .inr ⟨_,s⟩
def Gs{C:Nat}(h:J[k]?=some (.inst C dl)):¬UD J k:=by rintro(⟨l,e⟩|⟨l,e⟩)<;>(rw[h]at e;cases e)
def Gu(h:J[k]?=some (.dict m)):¬UD J k:=by rintro(⟨l,e⟩|⟨l,e⟩)<;>(rw[h]at e;cases e)
def lD.ye(h:lD J a ss)(f:jp M J g_)(b:∀k∈M,UD J k/\k≠a.su/\k≠a.lu):lD g_ a ss:=h.keep f λk c=>⟨λe=>Gs h.i (e▸(b k c).1),λe=>Gu h.d (e▸(b k c).1),(b k c).2.1,(b k c).2.2⟩
def TabAt.ye(h:TabAt J U os ps xs)(b:jp M J g_)(c:∀k∈M,UD J k/\k∉U.lg):TabAt g_ U os ps xs:=by
 have f:∀k∈M,k≠U.o.su/\k≠U.o.lu/\k≠U.p.su/\k≠U.p.lu/\k≠U.k:=λk a=>by have:=(c k a).2;unfold pL.lg at this;simpa using this
 refine⟨b.get (λq=>Gs h.i (c _ q).1) h.i,b.get (λq=>Gu h.d (c _ q).1) h.d,h.o.ye b λk a=>⟨(c k a).1,(f k a).1,(f k a).2.1⟩,h.p.ye b λk a=>⟨(c k a).1,(f k a).2.2.1,(f k a).2.2.2.1⟩,?_,h.ns,h.nl,h.DS,h.DT⟩;have⟨els,s,e⟩:=h.s;exact⟨els,b.get (λq=>(f _ q).2.2.2.2 rfl) s,e⟩
def TabAt.apart(h:TabAt J T os ps xs)(g:TabAt J U ji je iQ)(b:∀k∈U.lg,k∉T.lg)(c:jp T.lg J g_):TabAt g_ U ji je iQ:=g.ye c λk a=>⟨h.sol k a,λq=>b k q a⟩
def DL(h:UD J k):k<J.length:=by rcases h with⟨l,e⟩|⟨l,e⟩<;>exact kH e
abbrev X9:=pL×jK×jK×kd
variable {cs:List X9}
def Lq (c:X9):AV:=.tup [.ref c.1.t,kN c.2.1 c.2.2.1 c.2.2.2]
structure uJ (J:jW) (T:pL) (os ps:jK) (xs:kd) (cp:Nat) (cs:List X9):Prop where
 t:TabAt J T os ps xs
 s:lW os ps xs
 c:J[cp]?=some (.list (cs.map Lq))
 all:∀c∈cs,TabAt J c.1 c.2.1 c.2.2.1 c.2.2.2/\lW c.2.1 c.2.2.1 c.2.2.2/\(∀k∈c.1.lg,k∉T.lg)/\cp∉c.1.lg
 X_:cp∉T.lg
def Ci:p6:=match H.kZ.body.drop 3 with|.For _ _ b _ _::_=>b|_=>[]
def DM:jy:=[.str "key",.str "value"]
def QZ(os ps:jK)(xs:kd):rK (kN os ps xs)<=20:=by
 have b:=rN os;have c:=rN ps;have d:mM (xs.map jz)<=1:=nH λa m=>by obtain⟨x,_,rfl⟩:=aM.mp m;exact ao 1
 have:mM [AV.lst (os.map .str),.lst (ps.map .str),.lst (xs.map jz)]<=2:=nH λa m=>by
  rcases af.mp m with rfl|m
  .show mM _+1<=2;omega
  rcases af.mp m with rfl|m
  .show mM _+1<=2;omega
  rcases af.mp m with rfl|m
  .show mM _+1<=2;omega
  cases m
 show mM _+1<=20;omega
def UE(h:lW os ps xs):pS (kN os ps xs)=true:=by exact jU.mpr ⟨wB h.ko,jU.mpr ⟨wB h.kp,jU.mpr ⟨show mR _=true from xq h.kx,rfl⟩⟩⟩
def Ya(E:7<=n)(i:Fx L){K:KS}{X:wM}{r:az Str}{a:AV}(O:O0 L num os ps xs r ji je iQ)(h:TabAt J T os ps xs)(u:VL Y "table" (.ref T.t))(A:VL Y "state" (kN os ps xs))(w:VL Y "number" (.int num))(x:VL Y "copies" a)
  (k:∀c g_,jp T.lg J g_->TabAt g_ T ji je iQ->VL c "table" (.ref T.t)->VL c "state" (kN ji je iQ)->VL c "number" (.int num)->VL c "copies" a->K .next c g_):rS ((lv L n).par L) 195 (oV H.kZ) (Ci.take 4) Y J K X:=by
 tm_at"w";refine ki i.pQ (O.aaO _ _ _ _ (by omega) λF j=>?_);have y:=h.j7 j;have d:pS (.str "")=true:=by tm_at"d"
 obtain m|⟨z,m,f,o,B⟩:r=none∨∃z,r=some z/\pS (.str z)=true/\AV.str z∈DM/\AV.str z≠.str "":=by
  rcases O.kind with e|e|e
  .exact .inl e
  .exact .inr ⟨_,e,by tm_at"d",.head _,λq=>by injection q with q;exact absurd q (by tm_at"d")⟩
  .exact .inr ⟨_,e,by tm_at"d",.tail _ (.head _),λq=>by injection q with q;exact absurd q (by tm_at"d")⟩
 .subst m;generalize g:kN ji je iQ=C;tm_at"w";refine ki i.B3 (O.ref _ _ _ _ T (by omega) y λD p s=>?_);tm_at"w";refine Dw (l:=DM) (g▸UE O.X4) (by tm_at"d") (g▸QZ ..) λv b=>?_;cases v
  case true=>have:=b.mp rfl;rw[<-g]at this;unfold DM at this;simp[kN]at this
  tm_at"w";refine nE d d (by decide) λv b=>?_;cases v
  case true=>exact absurd rfl (b.mp rfl)
  tm_at"w";refine u9 d d (by decide) λv b=>?_;cases v
  case false=>exact absurd (b.mpr rfl) (by simp)
  tm_at"w";exact k _ _ (j.more.trans p) s u (by rw[g];rfl) w x
 .subst m;obtain⟨rfl,rfl,rfl⟩:=O.same (by simp);tm_at"w";refine ki i.B3 (O.ref _ _ _ _ T (by omega) y λD p s=>?_);rw[show(some z).getD ""=z from rfl];tm_at"w";refine Dw (l:=DM) f (by tm_at"d") (by show 0<=20;omega) λv b=>?_;cases v
  case false=>exact absurd (b.mpr o) (by simp)
  tm_at"w";refine nE f f (by show 0<=20;omega) λv b=>?_;cases v
  case true=>exact absurd rfl (b.mp rfl)
  tm_at"w";refine u9 f d (by show 0<=20;omega) λv b=>?_;cases v
  case true=>exact absurd (b.mp rfl) B
  tm_at"w";exact k _ _ (j.more.trans p) s u A w x
def Yb(P:7<=n)(f:Fx L){K:KS}{X:wM}(S:uJ J T os ps xs cp cs)(Q:cs.length<=90)(w:VL Y "table" (.ref T.t))(y:VL Y "state" (kN os ps xs))(R:VL Y "number" (.int num))(z:VL Y "copies" (.ref cp))
  (k:∀j g_ Sy,uJ g_ T os ps xs cp Sy->Sy.length<=cs.length+1->VL j "table" (.ref T.t)->VL j "state" (kN os ps xs)->VL j "copies" (.ref cp)->K .next j g_):rS ((lv L n).par L) 191 (oV H.kZ) (Ci.drop 4) Y J K X:=by
 have g:∀g_ Sy,uJ g_ T os ps xs cp Sy->∀o,jp [] g_ o->uJ o T os ps xs cp Sy:=λg_ Sy a o p=>⟨a.t.j7 p,a.s,p.get (by simp) a.c,λc hc=>⟨(a.all c hc).1.j7 p,(a.all c hc).2⟩,a.X_⟩
 have hc:=S.c;obtain⟨i,d,-⟩:=id S.t;tm_at"w";refine yP λv V=>?_;cases v
 .tm_at"w";refine ki f.wc (F_ (by omega) f S.t S.s.kx λb h=>?_);tm_at"w";exact k _ _ cs (g _ _ S _ h) (by omega) w y z
 .tm_at"w";refine AG (by omega) f S.t S.s.x (by have:=S.s.mul;omega) λb U h A D=>?_;have GE:=h.get (by simp) hc;have E:∀k∈T.lg,k<J.length:=λk e=>DL (S.t.sol k e);have F:=kH hc;tm_at"w";apply pj GE (by rw[ah];omega);have l:jp [cp] b (b.set cp (.list (cs.map Lq++[.tup [.ref U.t,kN os ps xs]]))):=jp.put (.head _);have r:∀(u:pL),cp∉u.lg->∀k∈[cp],UD b k/\k∉u.lg:=λu G k e=>by rw[aN]at e;subst e;exact⟨.inl ⟨_,GE⟩,G⟩
  have B:cp∉U.lg:=λq=>by have:=A _ q;omega
  have m:uJ (b.set cp (.list (cs.map Lq++[.tup [.ref U.t,kN os ps xs]]))) T os ps xs cp (cs++[(U,os,ps,xs)]):=by
   refine⟨(S.t.j7 h).ye l (r T S.X_),S.s,?_,λc hc=>?_,S.X_⟩
   .rw[bB];exact k_ GE
   .rcases ba.mp hc with hc|hc
    .have⟨I,M,N,C⟩:=S.all c hc;exact⟨(I.j7 h).ye l (r _ C),M,N,C⟩
    .rw[aN]at hc;subst hc;exact⟨D.ye l (r _ B),S.s,λk e q=>by have:=A k e;have:=E k q;omega,B⟩
  generalize b.set cp (.list (cs.map Lq++[.tup [.ref U.t,kN os ps xs]]))=W at l m;tm_at"w";refine ki f.wc (F_ (by omega) f m.t m.s.kx λZ O=>?_);tm_at"w";exact k _ _ _ (g _ _ m _ O) (by simp) w y z
def Yc(x:7<=n)(b:Fx L)(hl:nums.length<=100){K:KS}{X:wM}(k:∀Y g_ T os ps xs cp cs,uJ g_ T os ps xs cp cs->cs.length<=20->VL Y "table" (.ref T.t)->VL Y "state" (kN os ps xs)->VL Y "copies" (.ref cp)->K .next Y g_):rS ((lv L n).par L) 200 (oV H.kZ) (H.kZ.body.take 4) [("script",.lst (nums.map .int))] J K X:=by
 tm_at"w";apply nJ b.B8 b.xo;refine JF (l':=[.ref (J.length+1),.tup [],.tup [],.tup []]) (by omega) b (I:=H.xY) rfl rfl ?_;refine AI (os:=[]) (ps:=[]) (rows:=[]) (by omega) b mW mV (.tup _) (.tup _) (.tup _) (by simp) (by simp) .nil .nil (by simp) λd o p B C D y=>?_;have g:=y;obtain⟨T,h⟩:∃T:pL,T=⟨J.length+1,J.length,o,p,B⟩:=⟨_,rfl⟩
 rw[<-h]at g;have z:J.length+1=T.t:=by rw[h]
 clear y D C;rw[z];clear z h;tm_at"w";refine .inl ?_;tm_at"w";refine .inl ?_;tm_at"w";refine .inl ?_;tm_at"w";refine .inr ?_;have E:∀k∈T.lg,k<d.length:=λk i=>DL (g.sol k i);have f:uJ (d++[.list []]) T [] [] [] d.length []:=⟨g.j7 (jp.app ..),⟨by simp,by simp,.nil,.nil,by simp⟩,mH,by simp,λq=>by have:=E _ q;omega⟩
 generalize d++[j3.list []]=F at f;generalize d.length=cp at f;tm_at"w";apply AA (by rw[ah];omega);tm_at"w";refine nN (λl Y g_=>∃(ms:List Int) (os ps:jK) (xs:kd) (cs:List X9),l=ms.map AV.int/\uJ g_ T os ps xs cp cs/\xs.length+5*ms.length<=100/\cs.length+ms.length<=20/\VL Y "table" (.ref T.t)/\VL Y "state" (kN os ps xs)/\VL Y "copies" (.ref cp)) (λ_ _ _ _=>trivial) ?_ ?_ _ _ _ ?_
 .rintro a l Y g_ G ⟨ms,os,ps,xs,cs,e,S,b1,b2,j,m,u⟩ i _ _;cases ms with
  |nil=>cases e
  |cons num ms=>
  injection e with M N;subst M N;rw[aI]at b1 b2;apply jO rfl;show rS ((lv L n).par L) 195 (oV H.kZ) Ci (("number",.int num)::Y) g_ G _;rw[<-bw 4 Ci];apply(rh (Ci.take 4) (Ci.drop 4) 190 _ g_ _).mpr;have⟨r,ji,je,iQ,O⟩:=Q8 b S.s (by omega) num;refine Ya x b O S.t j m rfl u λkI d A P Q R U V=>?_;have f:uJ d T ji je iQ cp cs:=⟨P,O.X4,A.get S.X_ S.c,λc w=>⟨S.t.apart (S.all c w).1 (S.all c w).2.2.1 A,(S.all c w).2⟩,S.X_⟩
  refine Yb x b f (by omega) Q R U V λoZ F W Z lc u1 u2 u3=>?_;exact(i _ _ ⟨ms,ji,je,iQ,W,rfl,Z,by have:=O.len;omega,by omega,u1,u2,u3⟩).1
 .rintro Y g_ ⟨ms,os,ps,xs,cs,e,S,b1,b2,j,m,u⟩;tm_at"w";exact k _ _ T os ps xs cp cs S (by omega) j m u
 .refine⟨nums.take (clipAt (nums.map AV.int).length 20),[],[],[],[],List.map_take.symm,f,?_,?_,rfl,rfl,rfl⟩
  .rw[bL,fD];have:=iB (nums.map AV.int).length 20;rw[show((20:Nat):Int)=20 from rfl]at this;omega
  .rw[bL,fD];have:=iB (nums.map AV.int).length 20;rw[show((20:Nat):Int)=20 from rfl]at this;omega
def Yd(B:7<=n)(j:Fx L){K:KS}{X:wM}(S:uJ J T os ps xs cp cs)(f:VL Y "table" (.ref T.t))(g:VL Y "state" (kN os ps xs))(C:VL Y "copies" (.ref cp))
  (k:∀m g_,TabAt g_ T os ps xs->VL m "table" (.ref T.t)->VL m "state" (kN os ps xs)->K .next m g_):rS ((lv L n).par L) 196 (oV H.kZ) ((H.kZ.body.drop 4).take 1) Y J K X:=by
 have o:=S.c;tm_at"w";apply Oe o;refine nN (λl Y g_=>∃(ms:List X9),l=ms.map Lq/\jp [] J g_/\(∀c∈ms,c∈cs)/\VL Y "table" (.ref T.t)/\VL Y "state" (kN os ps xs)) ?_ ?_ ?_ _ _ _ ⟨cs,rfl,jp.refl _ _,λ_ h=>h,f,g⟩
 .rintro l Y g_ ⟨ms,-,b,-⟩;exact b.get (by simp) o
 .rintro a l Y g_ D ⟨ms,e,b,sub,f,g⟩ r _ _;cases ms with
  |nil=>cases e
  |cons c ms=>
  injection e with s u;subst s u;obtain⟨w,y,-⟩:=S.all c (sub c (.head _));have p:=w.j7 b;unfold Lq
  conv=>whnf
  tm_at"go";refine ki j.wc (F_ (by omega) j p y.kx λE q=>?_);have z:=p.j7 q;obtain⟨i,d,-⟩:=id z;tm_at"w";apply uG i d j.Ss;tm_at"w";refine eg (r _ _ ?_);exact⟨ms,rfl,b.trans q,λx A=>sub x (.tail _ A),f,g⟩
 .rintro Y g_ ⟨ms,e,b,sub,f,g⟩;tm_at"w";exact k _ _ (S.t.j7 b) f g
def Ye(G:7<=n)(h:Fx L){K:KS}{X:wM}(m:TabAt J T os ps xs)(r:lW os ps xs)(b:VL Y "table" (.ref T.t))(d:VL Y "state" (kN os ps xs))
  (k:∀s,VL s "table" (.ref T.t)->VL s "state" (kN os ps xs)->K .next s J):rS ((lv L n).par L) 195 (oV H.kZ) ((H.kZ.body.drop 5).take 1) Y J K X:=by
 conv=>whnf
 tm_at"s1";tm_at"s1";tm_at"s1";apply Aq;refine nN (λl Y g_=>∃(ms:jK),l=ms.map AV.str/\g_=J/\(∀c∈ms,lm c)/\VL Y "table" (.ref T.t)/\VL Y "state" (kN os ps xs)) (λ_ _ _ _=>trivial) ?_ ?_ _ _ _ ⟨objs,rfl,rfl,lZ,b,d⟩
 .rintro a l Y g_ I ⟨ms,e,rfl,ok,b,d⟩ C _ M;cases ms with
  |nil=>cases e
  |cons o ms=>
  injection e with u w;subst u w;have z:=ok o (.head _)
  conv=>whnf
  tm_at"s1";tm_at"s1";tm_at"s1";tm_at"s1";apply Aq;refine nN (λl Y D=>∃(ns:jK),l=ns.map AV.str/\D=g_/\(∀c∈ns,lm c)/\VL Y "table" (.ref T.t)/\VL Y "state" (kN os ps xs)/\VL Y "o" (.str o)) (λ_ _ _ _=>trivial) ?_ ?_ _ _ _ ⟨lV,rfl,rfl,l0,b,d,rfl⟩
  .rintro a l Y g_ E ⟨ns,e,rfl,i,b,d,j⟩ y _ F;cases ns with
   |nil=>cases e
   |cons p ns=>
   injection e with u w;subst u w;have op:=i p (.head _)
   conv=>whnf
   tm_at"go";refine qH z r.ko λv A=>?_;cases v
   .have q:o∉os:=by simpa using A
    tm_at"w";refine ki h.Ao (DI (by omega) h m (λa _=>absurd a q) λ_=>?_);tm_at"w";refine nE rfl rfl (cg 20) λv f=>?_;cases v
    case true=>exact absurd rfl (f.mp rfl)
    tm_at"w";apply xg (v:=true) rfl;tm_at"w";apply xg (v:=true) rfl;tm_at"w";refine nE rfl rfl (cg 20) λv f=>?_;cases v
    case true=>exact absurd rfl (f.mp rfl)
    tm_at"w";refine eg (y _ _ ?_);exact⟨ns,rfl,rfl,λx g=>i x (.tail _ g),b,d,j⟩
   .tm_at"w";refine qH op r.kp λv B=>?_;cases v
    .have q:p∉ps:=by simpa using B
     tm_at"w";refine ki h.Ao (DI (by omega) h m (λ_ a=>absurd a q) λ_=>?_);tm_at"w";refine nE rfl rfl (cg 20) λv f=>?_;cases v
     case true=>exact absurd rfl (f.mp rfl)
     tm_at"w";apply xg (v:=true) rfl;tm_at"w";apply xg (v:=true) rfl;tm_at"w";refine nE rfl rfl (cg 20) λv f=>?_;cases v
     case true=>exact absurd rfl (f.mp rfl)
     tm_at"w";refine eg (y _ _ ?_);exact⟨ns,rfl,rfl,λx g=>i x (.tail _ g),b,d,j⟩
    .tm_at"w";apply AC (x:=(o,p)) z op r.kx;tm_at"w";refine ki h.Ao (DI (by omega) h m (λ_ _=>?_) λq=>absurd ⟨A.mp rfl,B.mp rfl⟩ q);tm_at"w";refine nE rfl rfl (cg 20) λv f=>?_;cases v
     case true=>exact absurd rfl (f.mp rfl)
     tm_at"w";apply xg (v:=false) rfl;tm_at"w";apply xg (v:=false) rfl;tm_at"w";refine nE rfl rfl (cg 20) λv f=>?_;cases v
     case true=>exact absurd rfl (f.mp rfl)
     tm_at"w";refine eg (y _ _ ?_);exact⟨ns,rfl,rfl,λx g=>i x (.tail _ g),b,d,j⟩
  .rintro Y g_ ⟨ns,e,rfl,i,b,d,j⟩;tm_at"w";refine eg (C _ _ ?_);exact⟨ms,rfl,rfl,λx g=>ok x (.tail _ g),b,d⟩
 .rintro Y g_ ⟨ms,e,rfl,ok,b,d⟩;tm_at"w";exact k _ b d
def Yf(A:7<=n)(c:Fx L){K:KS}{X:wM}(m:TabAt J T os ps xs)(a:lW os ps xs)(o:VL Y "table" (.ref T.t))(p:VL Y "state" (kN os ps xs))
  (k:∀f g_,TabAt g_ T os ps xs->VL f "table" (.ref T.t)->VL f "state" (kN os ps xs)->VL f "rows" (.lst (rowsOf os ps xs))->K .next f g_):rS ((lv L n).par L) 194 (oV H.kZ) ((H.kZ.body.drop 6).take 2) Y J K X:=by
 have lo:=a.lo;have B:=a.lp;have C:(os.map AV.str).length<=100000:=by rw[ah];omega
 have D:(ps.map AV.str).length<=100000:=by rw[ah];omega
 tm_at"w";refine ki c.B4 (Js (by omega) c (by omega) (by omega) a.ko a.kp a.kx ?_);generalize q:rowsOf os ps xs=rows;tm_at"w";refine Ch (by omega) c m λE r=>?_;have g:=m.j7 r;tm_at"w";tm_at"call";tm_at"call";rw[<-q];have e:pS (.lst (mJ os ps xs))=true:=show mR _=true from xr a.ko a.kp;have h:rK (.lst (mJ os ps xs))<=20:=by show mM _+1<=20;have:=AM (os:=os) (ps:=ps) (xs:=xs);omega
 refine nE (b:=.lst (mJ os ps xs)) e e h λv d=>?_;cases v
 case true=>exact absurd rfl (d.mp rfl)
 obtain⟨s,d1,-⟩:=id g;tm_at"w";refine jO (k9 s d1) (jO c.nh (AO (j:=0) (by omega) c g rfl λF u=>?_));have i:=g.j7 u;obtain⟨w,d2,-⟩:=id i;tm_at"w";tm_at"call";refine nE (lJ a.ko) (lJ a.ko) (uo _) λv d=>?_;cases v
 case true=>exact absurd rfl (d.mp rfl)
 tm_at"w";refine jO (k9 w d2) (jO c.nh (AO (j:=1) (by omega) c i rfl λG x=>?_));have l:=i.j7 x;obtain⟨y,d3,-⟩:=id l;tm_at"w";tm_at"call";refine nE (lJ a.kp) (lJ a.kp) (uo _) λv d=>?_;cases v
 case true=>exact absurd rfl (d.mp rfl)
 tm_at"w";refine jO (k9 y d3) (jO c.nh (AO (j:=2) (by omega) c l rfl λI z=>?_));tm_at"w";refine nE oS oS Cg λv d=>?_;cases v
 case true=>exact absurd rfl (d.mp rfl)
 tm_at"w";exact k _ _ (l.j7 z) o p rfl
def wD{α β:Type}(f:α->β):∀l:List α,l.zip (l.map f)=l.map λa=>(a,f a)
 |[]=>rfl
 |a::l=>by rw[bg,List.zip_cons_cons,wD f l];rfl
def sE (ps:jK)(xs:kd)(o:Str):List aY:=ps.map λp=>decide ((o,p)∈xs)
def Ik(h:∀z∈xs,z.1∈os/\z.2∈ps)(z:Str×Str):z∈qL os ps (os.map (sE ps xs))↔z∈xs:=by
 unfold qL;rw[wD,ee];constructor
 .rintro⟨q,b,a⟩;obtain⟨o,e,rfl⟩:=aM.mp b;unfold sE at a;rw[wD,ee]at a
  grind
 .intro a;have⟨c,d⟩:=h z a;refine⟨(z.1,sE ps xs z.1),bz c,?_⟩;unfold sE;rw[wD,ee];refine⟨(z.2,decide ((z.1,z.2)∈xs)),bz (f:=λp=>(p,decide ((z.1,p)∈xs))) d,?_⟩;rw[aB (cH a)];exact .head _
def Q1(ps:jK)(xs:kd)(o:Str):AV.tup (ps.map λp=>AV.bool (decide ((o,p)∈xs))).reverse=yb (sE ps.reverse xs o):=by unfold yb sE;rw[c7,<-eh];rfl
def O3(os ps:jK)(xs:kd):(rowsOf os ps xs).reverse=os.reverse.map (t9 ps xs):=by unfold rowsOf;rw[eh]
def Yg(hd:7<=n)(a:Fx L){K:KS}{X:wM}(B:TabAt J T os ps xs)(b:lW os ps xs)(V:VL Y "table" (.ref T.t))(W:VL Y "state" (kN os ps xs))(C:VL Y "rows" (.lst (rowsOf os ps xs)))
  (k:∀e g_ U,TabAt g_ T os ps xs->TabAt g_ U os.reverse ps.reverse xs->(∀k∈T.lg,k∉U.lg)->VL e "table" (.ref T.t)->VL e "state" (kN os ps xs)->VL e "rows" (.lst (rowsOf os ps xs))->VL e "other" (.ref U.t)->K .next e g_):rS ((lv L n).par L) 192 (oV H.kZ) ((H.kZ.body.drop 8).take 2) Y J K X:=by
 have lo:=b.lo;have lp:=b.lp;have Z:(os.map AV.str).length<=100000:=by rw[ah];omega
 have l2:(ps.map AV.str).length<=100000:=by rw[ah];omega
 have D:(rowsOf os ps xs).length<=100000:=by unfold rowsOf;rw[ah];omega
 tm_at"w";apply wt Z;tm_at"w";apply wt l2;generalize g:rowsOf os ps xs=rows at C D;tm_at"w";apply wt D;rw[<-g,O3];apply Aq;refine j_ (t9 ps xs) (λo=>[yb (sE ps.reverse xs o)]) (λ_ g_=>g_=J) _ _ _ _ ?_ rfl ?_ ?_
 .rw[kW,ah,cn];show 0+_<=_;omega
 .rintro o ho Y g_ f_ K' rfl ha h
  conv=>whnf
  tm_at"go";apply On (l:=ps.map λp=>AV.bool (decide ((o,p)∈xs))) (by rw[ah];omega);rw[Q1];tm_at"w";exact h _ _ rfl
 .rintro e g_ rfl;rw[aX,kW,<-eh,<-eh,show(os.reverse.map λo=>yb (sE ps.reverse xs o))=(os.reverse.map (sE ps.reverse xs)).map yb by rw[c7];rfl];tm_at"w";apply nJ a.B8 a.xo;refine AI (by omega) a mW mV (.lst _) (.lst _) (.lst _) (λx c=>b.ko x (cb.mp c)) (λx c=>b.kp x (cb.mp c)) ((List.reverse_perm os).nodup_iff.mpr b.no) ((List.reverse_perm ps).nodup_iff.mpr b.np) (by rw[cn,cn];have:=b.mul;omega) λiT o p E F G I=>?_;have kq:jp [] g_ iT:=(jp.app ..).fresh F (by simp);have i:=TabAt.congr I λz=>Ik (λz M=>⟨cb.mpr (b.x z M).1,cb.mpr (b.x z M).2⟩) z;have lt:∀k∈T.lg,k<g_.length:=λk h=>DL (B.sol k h);have N:∀k∈T.lg,k∉pL.lg ⟨g_.length+1,g_.length,o,p,E⟩:=λk h q=>by
   have h1:=G k q
   grind
  have j:=B.j7 kq;obtain⟨U,d⟩:∃U:pL,U=⟨g_.length+1,g_.length,o,p,E⟩:=⟨_,rfl⟩
  rw[<-d]at i N;have O:g_.length+1=U.t:=by rw[d]
  clear I G F;rw[O];clear O d;have P:Alike os ps xs os.reverse ps.reverse xs:=⟨⟨(cn ..).symm,λx c=>cb.mpr c⟩,⟨(cn ..).symm,λx c=>cb.mpr c⟩,λ_=>Iff.rfl⟩
  obtain⟨i1,d1,-⟩:=id j;obtain⟨m,r,-⟩:=id i;tm_at"w";refine mB rfl i1 d1 a.tU (mN m r) a.uF (AN (by omega) a j i λjf Q v f=>?_);cases v
  case false=>exact absurd (f.mpr P) (by simp)
  have s:=j.j7 Q;have u:=i.j7 Q;obtain⟨i2,d2,-⟩:=id s;obtain⟨w,y,-⟩:=id u;tm_at"w";refine qI rfl i2 d2 a.Av (mN w y) a.uF (DG (by omega) a s u λj1 R v f=>?_);cases v
  case true=>exact absurd P (f.mp rfl)
  have A:=s.j7 R;have U3:=u.j7 R;obtain⟨i3,d3,-⟩:=id A;tm_at"w";tm_at"call";tm_at"call";refine mB rfl i3 d3 a.tU rfl a.Oy (JB (by omega) a A (g▸xr b.ko b.kp) λlY S v f=>?_);cases v
  case false=>exact absurd (f.mpr (by rw[<-g];rfl)) (by simp)
  tm_at"w";exact k _ _ U (A.j7 S) (U3.j7 S) N V W (by rw[g];exact C) rfl
abbrev W1(os ps:jK)(xs:kd):jy:=[.tup (os.map AV.str).reverse,.tup (ps.map AV.str),.lst (rowsOf os ps xs)]
abbrev W2(os ps:jK)(xs:kd):jy:=[.tup (os.map AV.str++[AV.str "z"]),.tup (ps.map AV.str),.lst (rowsOf os ps xs)]
abbrev W3(os ps:jK)(xs:kd):jy:=[.tup (os.map AV.str),.tup (ps.map AV.str),.lst (rowsOf os ps xs++[.tup []])]
abbrev W4(os ps:jK)(xs:kd):jy:=[.tup (os.map AV.str),.tup (ps.map AV.str++[AV.str "z"]),.lst (rowsOf os ps xs)]
def O4(hd:6<=n)(a:Fx L)(f:lW os ps xs)(h:TabAt J T os ps xs){K:KS}{X:wM}(k:∀(g_:jW) (c:Nat) (R:List (jy)),jp [] J g_->J.length<=c->g_[c]?=some (.list (R.map AV.tup))->R.length<=1->(∀w∈R,mR w=true/\mJ os ps xs≠w)->∀Y,VL Y "table" (.ref T.t)->VL Y "state" (kN os ps xs)->VL Y "rows" (.lst (rowsOf os ps xs))->VL Y "wrong" (.ref c)->K .next Y g_):rS ((lv L n).par L) 200 (oV H.sO) (H.sO.body.take 3) [("rows",.lst (rowsOf os ps xs)),("state",kN os ps xs),("table",.ref T.t)] J K X:=by
 have lo:=f.lo;have lp:=f.lp;have hm:=f.mul;tm_at"w";refine .inr ?_;have N:jp [] J (J++[j3.list []]):=jp.app ..;have O:(J++[j3.list []])[J.length]?=some (.list []):=mH;generalize aa1:J++[j3.list []]=S at N O;have P:=h.j7 N;have pV:("z":Str)∉os:=λq=>by have:=f.o _ q;revert this;tm_at"d"
 have LJ:("z":Str)∉ps:=λq=>by have:=f.p _ q;revert this;tm_at"d"
 have oz:lm "z":=by unfold lm;tm_at"d"
 obtain⟨i1,d1,-⟩:=id P;tm_at"w";tm_at"call";apply Od (by decide);tm_at"w";refine AG (by omega) a P f.x (by omega) λjf U u y l=>?_;obtain⟨V,W,-⟩:=id l;tm_at"w2";refine DF (b:=.tup []) (ms:=[]) (by omega) a rfl l f.x oz (.tup _) (by simp) (by simp;omega) λj1 ys A B g=>?_;rw[aA pV]at g;have m:jp [] S j1:=u.fresh A λk Z=>.inr (y k Z);have i:=P.j7 m;obtain⟨C,d3,-⟩:=id i;obtain⟨D,E,-⟩:=id g;tm_at"w2";refine mB rfl C d3 a.tU (mN D E) a.uF (AN (by omega) a i g λlY j v d=>?_);cases v
 case true=>exact absurd (d.mp rfl) (Gl (by simp))
 have r:=i.j7 j;have s:=g.j7 j;obtain⟨F,d4,-⟩:=id r;obtain⟨G,I,-⟩:=id s;tm_at"w2";refine qI rfl F d4 a.Av (mN G I) a.uF (DG hd a r s λoY M v d=>?_);cases v
 case false=>exact absurd (d.mpr (Gl (by simp))) (by simp)
 have k5:jp [] S oY:=(m.trans j).trans M;clear l y u V W A B g m i C d3 D E j r s F d4 G I M d;have Q:=P.j7 k5;obtain⟨i5,d5,-⟩:=id Q;tm_at"w2";refine AG (by omega) a Q f.x (by omega) λjf U u y l=>?_;obtain⟨V,W,-⟩:=id l;tm_at"w2";refine Jy (b:=.tup []) (ms:=[]) (by omega) a rfl l f.x oz (.tup _) (by simp) (by simp;omega) λj1 ys A B g=>?_;rw[aA LJ]at g;have m:jp [] oY j1:=u.fresh A λk Z=>.inr (y k Z);have i:=Q.j7 m;obtain⟨C,d3,-⟩:=id i;obtain⟨D,E,-⟩:=id g;tm_at"w2";refine mB rfl C d3 a.tU (mN D E) a.uF (AN (by omega) a i g λlY j v d=>?_);cases v
 case true=>exact absurd (d.mp rfl) (Gm (by simp))
 have r:=i.j7 j;have s:=g.j7 j;obtain⟨F,d4,-⟩:=id r;obtain⟨G,I,-⟩:=id s;tm_at"w2";refine qI rfl F d4 a.Av (mN G I) a.uF (DG hd a r s λBD M v d=>?_);cases v
 case false=>exact absurd (d.mpr (Gm (by simp))) (by simp)
 have k6:jp [] S BD:=k5.trans ((m.trans j).trans M);clear l y u V W A B g m i C d3 D E j r s F d4 G I M d k5 Q i5 d5 i1 d1;have w6:=k6.get (by simp) O;tm_at"w2";have l1:(os.map AV.str).length<=100:=by rw[ah];omega
 have l2:(ps.map AV.str).length<=100:=by rw[ah];omega
 have l3:(os.map AV.str).reverse.length<=100:=by rw[cn];exact l1
 have aa2:∀v,(v=true↔(1:Int)<os.length)->v=true->(os.map AV.str).reverse≠os.map AV.str:=by intro v d hvt e;rw[<-eh]at e;have:=d.mp hvt;exact UA (by omega) f.no (x8 e)
 have okr:pS (.tup (os.map AV.str).reverse)=true:=by rw[<-eh];exact lJ λz B=>f.ko z (cb.mp B)
 have oW1:mR (W1 os ps xs)=true:=jU.mpr ⟨okr,jU.mpr ⟨lJ f.kp,jU.mpr ⟨oS,rfl⟩⟩⟩;tm_at"call";rw[ah];refine yQ rfl λv d=>?_;cases v
 .tm_at"w2";exact k _ J.length [] (N.trans k6) (ao _) w6 (by simp) (by simp) _ rfl rfl rfl rfl
 .tm_at"w2";refine wt (by omega) ?_;tm_at"w2";tm_at"call";tm_at"call";refine pj w6 (by simp) ?_;have w7:=k_ (c:=.list [.tup (W1 os ps xs)]) w6;tm_at"w2";exact k _ J.length [W1 os ps xs] ((N.trans k6).mP (ao _)) (ao _) w7 (by simp) (λw O=>by rw[aN.mp O];exact⟨oW1,λe=>by injection e with e _;injection e with e;exact aa2 true d rfl e.symm⟩) _ rfl rfl rfl rfl
def yf:∀vs:List (jy),ur (vs.map λ_=>AV.bool false)=some (vs.map λ_=>false)
 |[]=>rfl
 |_::vs=>by show(ur (vs.map λ_=>AV.bool false)).map (false::·)=_;rw[yf vs];rfl
def LB(vs:List (jy)):(vs.map λ_=>false).any _root_.id=false:=by simp
def AT(h:c∈M)(e:J[c]?=some c')(d:j3):jp M J (J.set c d)/\(J.set c d)[c]?=some d:=⟨jp.put h,k_ e⟩
def O6(hd:6<=n)(g:Fx L)(d:lW os ps xs)(h:TabAt J T os ps xs){K:KS}{X:wM}{a:List (jy)}(i:J[c]?=some (.list (a.map AV.tup)))(R:c∉T.lg)(S:a.length<=1)(j:∀w∈a,mR w=true/\mJ os ps xs≠w)(l:VL Y "table" (.ref T.t))(v2:VL Y "state" (kN os ps xs))(v3:VL Y "rows" (.lst (rowsOf os ps xs)))(v4:VL Y "wrong" (.ref c))(k:∀D g_,jp [c] J g_->K (.ret (.bool true)) D g_):rS ((lv L n).par L) 197 (oV H.sO) (H.sO.body.drop 3) Y J K X:=by
 have lo:=d.lo;have lp:=d.lp;have E:lm "z":=by unfold lm;tm_at"d"
 have F:(os.map AV.str).length<=100:=by rw[ah];omega
 have U:(ps.map AV.str).length<=100:=by rw[ah];omega
 have l3:(os.map AV.str).reverse.length<=100:=by rw[cn];exact F
 have l4:(os.map AV.str++[AV.str "z"]).length<=101:=by rw[bk];exact Nat.add_le_add_right F 1
 have l5:(ps.map AV.str++[AV.str "z"]).length<=101:=by rw[bk];exact Nat.add_le_add_right U 1
 have l6:(rowsOf os ps xs).length<=100:=by unfold rowsOf;rw[ah];omega
 have m:∀z∈os++[("z":Str)],lm z:=λz hz=>by
  rcases ba.mp hz with hz|hz
  .exact d.ko z hz
  .rw[aN.mp hz];exact E
 have o:∀z∈ps++[("z":Str)],lm z:=λz hz=>by
  rcases ba.mp hz with hz|hz
  .exact d.kp z hz
  .rw[aN.mp hz];exact E
 have V:(os.map AV.str++[AV.str "z"])=(os++[("z":Str)]).map AV.str:=by rw[bB];rfl
 have W:(ps.map AV.str++[AV.str "z"])=(ps++[("z":Str)]).map AV.str:=by rw[bB];rfl
 have p:mR (W2 os ps xs)=true:=jU.mpr ⟨by rw[V];exact lJ m,jU.mpr ⟨lJ d.kp,jU.mpr ⟨oS,rfl⟩⟩⟩;have q:mR (W3 os ps xs)=true:=jU.mpr ⟨lJ d.ko,jU.mpr ⟨lJ d.kp,jU.mpr ⟨show mR _=true from FE.mpr ⟨oS (os:=os) (ps:=ps) (xs:=xs),rfl⟩,rfl⟩⟩⟩;have r:mR (W4 os ps xs)=true:=jU.mpr ⟨lJ d.ko,jU.mpr ⟨by rw[W];exact lJ o,jU.mpr ⟨oS,rfl⟩⟩⟩;have s:mJ os ps xs≠(W2 os ps xs):=by intro e;injection e with e _;injection e with e;have:=cq List.length e;simp at this
 have u:mJ os ps xs≠(W3 os ps xs):=by intro e;injection e with _ e;injection e with _ e;injection e with e _;injection e with e;have:=cq List.length e;simp at this
 have x:mJ os ps xs≠(W4 os ps xs):=by intro e;injection e with _ e;injection e with e _;injection e with e;have:=cq List.length e;simp at this
 have Z:(a.map AV.tup).length<=1:=by rw[ah];exact S
 tm_at"w2";refine ly (oP (by simp only[ah,aI,bL];omega)) ?_;tm_at"w2";tm_at"call";tm_at"call";refine pj i (by omega) ?_;have⟨p8,G⟩:=AT (M:=[c]) (.head _) i (.list (a.map AV.tup++[.tup (W2 os ps xs)]));tm_at"w2";tm_at"call";tm_at"call";refine ly (oP (by simp only[aI,bL];omega)) ?_;tm_at"w2";refine pj G (by rw[bk,aI,bL];omega) ?_;have⟨p9,I⟩:=AT (M:=[c]) (.head _) G (.list (a.map AV.tup++[.tup (W2 os ps xs)]++[.tup (W3 os ps xs)]));tm_at"w2";tm_at"call";refine ly (oP (by simp only[ah,aI,bL];omega)) ?_;tm_at"w2";tm_at"call";refine pj I (by rw[bk,bk,aI,bL,aI,bL];omega) ?_;have⟨y,f⟩:=AT (M:=[c]) (.head _) I (.list (a.map AV.tup++[.tup (W2 os ps xs)]++[.tup (W3 os ps xs)]++[.tup (W4 os ps xs)]));have b:=(p8.trans p9).trans y;have N:a.map AV.tup++[.tup (W2 os ps xs)]++[.tup (W3 os ps xs)]++[.tup (W4 os ps xs)]=(a++[W2 os ps xs,W3 os ps xs,W4 os ps xs]).map AV.tup:=by simp
 rw[N]at f b;have O:∀w∈a++[W2 os ps xs,W3 os ps xs,W4 os ps xs],mR w=true/\mJ os ps xs≠w:=by
  intro w hw;rcases ba.mp hw with hw|hw
  .exact j w hw
  simp only[af,bl,cI]at hw;rcases hw with rfl|rfl|rfl
  .exact⟨p,s⟩
  .exact⟨q,u⟩
  .exact⟨r,x⟩
 have I3:(a++[W2 os ps xs,W3 os ps xs,W4 os ps xs]).length<=4:=by rw[bk];show _+3<=4;omega
 tm_at"w2";rw[N];generalize a++[W2 os ps xs,W3 os ps xs,W4 os ps xs]=vs at f b O I3;generalize ((J.set c _).set c _).set c _=iT at f b;refine Oe f ?_;refine p5 AV.tup (λ_=>[AV.bool false]) (λY g_=>jp [c] J g_/\g_[c]?=some (.list (vs.map AV.tup))/\VL Y "table" (.ref T.t)) 1000 (λ_ _ hh=>hh.2.1) vs _ _ _ ?_ ?_ ?_ ?_
 .rw[kW,ah];show 0+_<=_;omega
 .exact⟨b,f,Su l rfl⟩
 .rintro w hw Y g_ f_ K' ⟨b,P,l⟩ ha A;have⟨B,C⟩:=O w hw;have h':=h.ye b λk A=>by rw[aN.mp A];exact⟨.inl ⟨_,i⟩,R⟩
  obtain⟨i',d',-⟩:=id h';tm_at"w";refine mB rfl i' d' g.tU rfl g.Oy (JB (by omega) g h' B λl8 Q v hv=>?_);cases v
  case true=>exact absurd (hv.mp rfl) C
  tm_at"w";exact A _ _ ⟨b.trans Q.more,Q.get (by simp) P,l⟩
 .rintro D g_ ⟨b,P,-⟩;rw[kW,aX];tm_at"w";refine kX (jO (yf vs) ?_);rw[LB];tm_at"w";exact k _ g_ b
def Lu(a:7<=n)(b:Fx L)(f:lW os ps xs)(h:TabAt J T os ps xs)(k:∀g_,jp [] J g_->K (.bool true) g_):(lv L n).fn 909 [.ref T.t,kN os ps xs,.lst (rowsOf os ps xs)] J K X:=by refine j6 a b (I:=H.sO) (Y:=[("rows",.lst (rowsOf os ps xs)),("state",kN os ps xs),("table",.ref T.t)]) rfl rfl λn a=>?_;rw[<-bw 3 H.sO.body];refine(rh (H.sO.body.take 3) (H.sO.body.drop 3) 196 _ J _).mpr ?_;refine O4 a b f h λw c x g i j l d Y m o p r=>?_;have s:∀k∈T.lg,k<J.length:=λk e=>DL (h.sol k e);exact O6 a b f (h.j7 g) j (λq=>by have:=s _ q;omega) l d m o p r λy g_ u=>k g_ (g.fresh u λk e=>by rw[aN.mp e];exact .inr i)
def Il{l:jK}{a:Str}:(oh ((l++[a]).map AV.str).length (-1)).bind (λj=>((l++[a]).map AV.str)[j]?)=some (AV.str a):=by unfold oh;rw[aA (by decide),aB (by simp;omega),show(-1+(((l++[a]).map AV.str).length:Int)).toNat=l.length by simp;omega];simp
def Ym(f:8<=n)(a:Fx L){K:KS}{X:wM}(c:TabAt J T os ps xs)(g:TabAt J U os.reverse ps.reverse xs)(h:lW os ps xs)(i:VL Y "table" (.ref T.t))(j:VL Y "state" (kN os ps xs))(m:VL Y "rows" (.lst (rowsOf os ps xs)))(l:VL Y "other" (.ref U.t))
  (k:∀b g_,TabAt g_ T os ps xs->TabAt g_ U os.reverse ps.reverse xs->VL b "table" (.ref T.t)->VL b "state" (kN os ps xs)->VL b "other" (.ref U.t)->K .next b g_):rS ((lv L n).par L) 190 (oV H.kZ) ((H.kZ.body.drop 10).take 1) Y J K X:=by
 tm_at"w";refine ki a.sO (Lu (by omega) a h c λo d=>?_);tm_at"w";refine ki a.sP (O2 f a λp e=>?_);tm_at"w";exact k _ _ ((c.j7 d).j7 e) ((g.j7 d).j7 e) i j l
def Yn(hd:7<=n)(b:Fx L){K:KS}{X:wM}(N:TabAt J T os ps xs)(f:TabAt J U os.reverse ps.reverse xs)(O:∀k∈T.lg,k∉U.lg)(c:lW os ps xs)(v1:VL Y "table" (.ref T.t))(v2:VL Y "state" (kN os ps xs))(v4:VL Y "other" (.ref U.t))
  (k:∀P g_,K (.ret (.bool true)) P g_):rS ((lv L n).par L) 189 (oV H.kZ) (H.kZ.body.drop 11) Y J K X:=by
 have lo:=c.lo;have lp:=c.lp;have l1:(os.map AV.str).length<=100000:=by rw[ah];omega
 have l2:(ps.map AV.str).length<=100000:=by rw[ah];omega
 tm_at"w";tm_at"call";rw[ah];refine yQ rfl λv Q=>?_;cases v
 .tm_at"w";exact k _ _
 tm_at"w";tm_at"call";rw[ah];refine yQ rfl λv R=>?_;cases v
 .tm_at"w";exact k _ _
 have C:=Q.mp rfl;have S:=R.mp rfl;obtain⟨d,o,D⟩:∃d o,os=d++[o]:=by
  rcases List.eq_nil_or_concat os with e|⟨l,a,e⟩
  .rw[e]at C;simp at C
  .exact⟨l,a,by rw[e,List.concat_eq_append]⟩
 obtain⟨p,Vf,E⟩:∃p Vf,ps=p::Vf:=by
  cases ps with
  |nil=>simp at S
  |cons p l=>exact⟨p,l,rfl⟩
 have h:o∈os:=by rw[D];simp
 have i:p∈ps:=by rw[E];simp
 have V:=c.ko o h;have op:=c.kp p i;obtain⟨F,G,-⟩:=id f;tm_at"w";apply jO (a:=AV.str o) (by rw[D];exact Il);tm_at"w";apply jO (a:=AV.str p) (by rw[E];exact ul (j:=0) rfl);tm_at"w";refine jO (k9 F G) (jO b.nh (DH (by omega) b f (λ_ _=>?_) λq=>absurd ⟨cb.mpr h,cb.mpr i⟩ q));tm_at"w";refine xk F G b.yO b.qF (Jw (by omega) b f (λz m=>⟨cb.mpr (c.x z m).1,cb.mpr (c.x z m).2⟩) V op (by rw[cn,cn];have:=c.mul;omega) λiT ys W m g=>?_);rw[aB (cb.mpr h),aB (cb.mpr i)]at g;have r:=f.apart N O W;have na:¬Alike os ps xs os.reverse ps.reverse ys:=λq=>by
  have:=q.2.2 (o,p)
  grind
 obtain⟨Z,d1,-⟩:=id r;obtain⟨s,u,-⟩:=id g;tm_at"w";refine mB rfl Z d1 b.tU (mN s u) b.uF (AN (by omega) b r g λjf I v w=>?_);cases v
 case true=>exact absurd (w.mp rfl) na
 have y:=r.j7 I;have M:=g.j7 I;obtain⟨i2,d2,-⟩:=id y;obtain⟨A,B,-⟩:=id M;tm_at"w";refine qI rfl i2 d2 b.Av (mN A B) b.uF (DG (by omega) b y M λj1 qK v w=>?_);cases v
 case false=>exact absurd (w.mpr na) (by simp)
 tm_at"w";refine ki b.wc (F_ (by omega) b (y.j7 qK) c.kx λlY rQ=>?_);tm_at"w";exact k _ _
def UG(i:9<=n)(c:Fx L)(p:nums.length<=100)(k:∀g_,K (.bool true) g_):(lv L n).fn 919 [.lst (nums.map .int)] J K X:=by
 refine j6 i c (I:=H.kZ) (Y:=[("script",.lst (nums.map .int))]) rfl rfl λn i=>?_;have e:7<=n:=by omega
 rw[<-bw 4 H.kZ.body];apply(rh (H.kZ.body.take 4) (H.kZ.body.drop 4) 195 _ J _).mpr;refine Yc e c p λy q T os ps xs cp cs S _ a b f=>?_;rw[<-bw 1 (H.kZ.body.drop 4)];apply(rh ((H.kZ.body.drop 4).take 1) ((H.kZ.body.drop 4).drop 1) 194 _ q _).mpr;refine Yd e c S a b f λr h d a b=>?_;have g:=S.s;show rS ((lv L n).par L) 195 (oV H.kZ) (H.kZ.body.drop 5) r h _ _;rw[<-bw 1 (H.kZ.body.drop 5)];apply(rh ((H.kZ.body.drop 5).take 1) ((H.kZ.body.drop 5).drop 1) 193 _ h _).mpr;refine Ye e c d g a b λt a b=>?_;show rS ((lv L n).par L) 194 (oV H.kZ) (H.kZ.body.drop 6) t h _ _;rw[<-bw 2 (H.kZ.body.drop 6)];apply(rh ((H.kZ.body.drop 6).take 2) ((H.kZ.body.drop 6).drop 2) 191 _ h _).mpr;refine Yf e c d g a b λu m d a b f=>?_;show rS ((lv L n).par L) 192 (oV H.kZ) (H.kZ.body.drop 8) u m _ _;rw[<-bw 2 (H.kZ.body.drop 8)];apply(rh ((H.kZ.body.drop 8).take 2) ((H.kZ.body.drop 8).drop 2) 189 _ m _).mpr;refine Yg e c d g a b f λw o U d j x a b f l=>?_;show rS ((lv L n).par L) 190 (oV H.kZ) (H.kZ.body.drop 10) w o _ _;rw[<-bw 1 (H.kZ.body.drop 10)];apply(rh ((H.kZ.body.drop 10).take 1) ((H.kZ.body.drop 10).drop 1) 188 _ o _).mpr;refine Ym i c d j g a b f l λz A d j a b l=>?_;exact Yn e c d j x g a b l λB g_=>k g_
end
section
open PySem PySem.W PyProof.Rows
open H
variable {l:jr}{a:bM ae}{P:aW}{I:Fn}
def Im(P:aW):∀p∈kf P,(mU P).get? p.1=some p.2:=λp a=>by have h:=kf_in P;rw[gE]at h;exact h p a
def Io(P:aW):∀p∈kx P,(mU P).get? p.1=some p.2:=λp a=>by have h:=V8 P;rw[gE]at h;exact h p a
def lr{c d:Type}[BEq c][LawfulBEq c]:∀{K:List (c×d)}{a:c}{o:d},K.lookup a=some o->(a,o)∈K
 |[],_,_,h=>by cases h
 |(b,q)::K,a,o,h=>by
  rw[cZ]at h;cases e:a==b with
  |true=>rw[e]at h;cases h;cases aG.mp e;exact .head _
  |false=>rw[e]at h;exact .tail _ (lr h)
def O7 (P:aW)(a:iJ):bM cU:=match(kf P).lookup a with
 |some ⟨_,_,.dict es _,_⟩=>es
 |_=>#[]
def UH (P:aW)(x:Str):az ae:=match nsFind (O7 P 3) x with
 |some v=>some v
 |none=>nsFind (O7 P 0) x
def UI (p:Str×AV):az ae:=match p.2 with
 |.val v=>some v
 |.lst l=>if l.length=5 then some (.ref 836)else some (.ref 837)
 |_=>none
def Yp(P:aW):yM.map (λp=>UH P p.1)=yM.map UI:=by tm_at"k"
def AZ (es:bM cU):aY:=es.toList.all λe=>match e.key with|.str _ _=>true|_=>false
def JL(P:aW):(AZ (O7 P 0)&&AZ (O7 P 3))=true:=by tm_at"k"
def Sz (p:Str×AV):aY:=match p.2 with
 |.val _=>true
 |_=>p.1==("_law_objects":Str)||p.1==("_law_properties":Str)
def UJ:yM.all Sz=true:=by tm_at"k"
def Yq:B6 "_law_objects"=some (.lst [.str "a",.str "b",.str "c",.str "d",.str "e"]):=by tm_at"k"
def Yr:B6 "_law_properties"=some (.lst [.str "p",.str "q",.str "r",.str "s"]):=by tm_at"k"
def Q2(P:aW):rJ.map (λp=>(kf P).lookup p.1)=rJ.map λp=>some (o (t "function") (.func p.2.1.fd)):=by tm_at"k"
def wE (P:aW)(I:Fn):aY:=match I.fd.code with
 |.ref c=>(match(kx P).lookup c with
  |some ⟨cl,_,.fields vs,_⟩=>cl !=.none&&(match(vs[1]?:az ae)with|some (.str q _)=>q==I.fd.qualname|_=>false)
  |_=>false)
 |_=>false
def O8(P:aW):(rJ.all λp=>wE P p.2.1)=true:=by tm_at"k"
def O9 (I:Fn):aY:=(match I.fd.body with|.stmts _=>true|_=>false)&&I.fd.globals==mainGlobals&&I.fd.builtins==builtinsNs&&I.fd.scope.kind==.function&&!I.fd.scope.isGenerator&&!I.fd.scope.isCoroutine&&I.names.all (λx=>I.fd.scope.names.lookup x==some .local||I.fd.scope.names.lookup x==some .cell)
def DN (I:Fn):aY:=I.fd.closure.isEmpty&&lM I.fd.scope.names&&I.fd.scope.names.all (λp=>p.2 !=.free)
def O_:(rJ.all λp=>O9 p.2.1)=true:=by tm_at"k"
def Lw:(rJ.all λp=>p.1==475||p.1==585||DN p.2.1)=true:=by tm_at"k"
def UV (P:aW):Dt:={Kf:=kf P,tb:=XQ,glob:=B6,fns:=HX,Du:=Jj}
def fx1(P:aW):Fx (UV P):=by constructor<;>tm_at"k"
def xu (I:Fn):Prop:=I.dflt=[]/\∀vs:jr,vs.length=I.names.length->bindArgs I.fd ⟨vs,[]⟩=pure (I.names.zip vs)
def vm (I:Fn)(nd:Nat):Prop:=∀(vs:jr) (items:bM ae),items.size=nd->vs.length<=I.names.length->I.names.length<=vs.length+nd->∃k,bindArgs I.fd ⟨vs,[]⟩=seqItems? I.fd.defaults>>=k/\k (some items)=pure (I.names.zip (vs++items.toList.drop (vs.length+nd-I.names.length)))
def aa5(h:I.names.length=0)(d:I.dflt=[])(k:bindArgs I.fd ⟨[],[]⟩=pure (I.names.zip [])):xu I:=⟨d,λvs a=>by
 match vs,a.trans h with
 |[],_=>exact k⟩
def aa6(h:I.names.length=1)(d:I.dflt=[])(k:∀a,bindArgs I.fd ⟨[a],[]⟩=pure (I.names.zip [a])):xu I:=⟨d,λvs c=>by
 match vs,c.trans h with
 |[a],_=>exact k a⟩
def aa7(h:I.names.length=2)(d:I.dflt=[])(k:∀a b,bindArgs I.fd ⟨[a,b],[]⟩=pure (I.names.zip [a,b])):xu I:=⟨d,λvs c=>by
 match vs,c.trans h with
 |[a,b],_=>exact k a b⟩
def aa8(h:I.names.length=3)(d:I.dflt=[])(k:∀a b c,bindArgs I.fd ⟨[a,b,c],[]⟩=pure (I.names.zip [a,b,c])):xu I:=⟨d,λvs g=>by
 match vs,g.trans h with
 |[a,b,c],_=>exact k a b c⟩
def aa9(h:I.names.length=4)(d:I.dflt=[])(k:∀a b c e,bindArgs I.fd ⟨[a,b,c,e],[]⟩=pure (I.names.zip [a,b,c,e])):xu I:=⟨d,λvs g=>by
 match vs,g.trans h with
 |[a,b,c,e],_=>exact k a b c e⟩
def Ys(c:l.length<=2)(d:2<=l.length+1):(∃a,l=[a])∨∃a b,l=[a,b]:=by
 match l,c,d with
 |[],_,d=>simp at d
 |[a],_,_=>exact .inl ⟨a,rfl⟩
 |[a,b],_,_=>exact .inr ⟨a,b,rfl⟩
 |_::_::_::_,c,_=>simp at c
def SA(g:l.length<=3)(d:3<=l.length+1):(∃a b,l=[a,b])∨∃a b c,l=[a,b,c]:=by
 match l,g,d with
 |[],_,d=>simp at d
 |[a],_,d=>simp at d
 |[a,b],_,_=>exact .inl ⟨a,b,rfl⟩
 |[a,b,c],_,_=>exact .inr ⟨a,b,c,rfl⟩
 |_::_::_::_::_,g,_=>simp at g
def Yt(g:l.length<=4)(h:4<=l.length+3):(∃a,l=[a])∨(∃a b,l=[a,b])∨(∃a b c,l=[a,b,c])∨∃a b c d,l=[a,b,c,d]:=by
 match l,g,h with
 |[],_,h=>simp at h
 |[a],_,_=>exact .inl ⟨a,rfl⟩
 |[a,b],_,_=>exact .inr (.inl ⟨a,b,rfl⟩)
 |[a,b,c],_,_=>exact .inr (.inr (.inl ⟨a,b,c,rfl⟩))
 |[a,b,c,d],_,_=>exact .inr (.inr (.inr ⟨a,b,c,d,rfl⟩))
 |_::_::_::_::_::_,g,_=>simp at g
def UK(h:a.size=1):∃x,a=#[x]:=by
 have⟨l⟩:=a
 match l,h with
 |[x],_=>exact⟨x,rfl⟩
def aa_(h:a.size=3):∃x y z,a=#[x,y,z]:=by
 have⟨l⟩:=a
 match l,h with
 |[x,y,z],_=>exact⟨x,y,z,rfl⟩
def aba:vm Jh 1:=λvs items hi c d=>by
 obtain⟨x,rfl⟩:=UK hi;obtain⟨a,rfl⟩|⟨a,b,rfl⟩:=Ys (l:=vs) (c:vs.length<=2) (d:2<=vs.length+1)
 all_goals exact⟨_,rfl,rfl⟩
def abb:vm xY 3:=λvs items hi g h=>by
 obtain⟨x,y,z,rfl⟩:=aa_ hi;obtain⟨a,rfl⟩|⟨a,b,rfl⟩|⟨a,b,c,rfl⟩|⟨a,b,c,d,rfl⟩:=Yt (l:=vs) (g:vs.length<=4) (h:4<=vs.length+3)
 all_goals exact⟨_,rfl,rfl⟩
def abc:vm FC 1:=λvs items hi d g=>by
 obtain⟨x,rfl⟩:=UK hi;obtain⟨a,b,rfl⟩|⟨a,b,c,rfl⟩:=SA (l:=vs) (d:vs.length<=3) (g:3<=vs.length+1)
 all_goals exact⟨_,rfl,rfl⟩
def abd:vm FD 1:=λvs items hi d g=>by
 obtain⟨x,rfl⟩:=UK hi;obtain⟨a,b,rfl⟩|⟨a,b,c,rfl⟩:=SA (l:=vs) (d:vs.length<=3) (g:3<=vs.length+1)
 all_goals exact⟨_,rfl,rfl⟩
def sT (S:Sys)(I:Fn):Prop:=∀(V:jj) (F:jn) (J:jW) (fs:jS) (R:mO) (s:aj) (vs:jr) (l:jy) (Y:j9),j4 S V F J fs R s->jV V F vs l->rC I l=some Y->
  ∃binds,BindsTo s I.fd ⟨vs,[]⟩ binds/\rD V F binds Y
section
variable {S:Sys}{I:Fn}{P:aW}(hk:∀b o,(mU P).get? b=some o->S.B.H.get? b=some o)
def xw{V:jj}{F:jn}:∀{c_:jK}{vs:jr}{l:jy},jV V F vs l->rD V F (c_.zip vs) (c_.zip l)
 |[],_,_,_=>trivial
 |_::_,_,_,.nil=>trivial
 |x::c_,_,_,.cons h r=>⟨rfl,h,xw (c_:=c_) r⟩
def bp(h:xu I):sT S I:=λV F J fs R s vs l Y H r e=>by
 have⟨a,c⟩:=h;unfold rC at e;rw[a]at e;split at e
 .rename_i q;cases e;rw[List.drop_nil,bh];have d:l.length=I.names.length:=by have:=q.1;have:=q.2;simp at this;omega
  exact⟨_,.of_eq (c vs (r.length.trans d)),xw r⟩
 .cases e
def JM{V:jj}{F:jn}:∀{items:jr}{dflt:jy},(∀v∈items,kQ V F v (.tup []))->dflt=items.map (λ_=>.tup [])->jV V F items dflt
 |[],_,_,e=>by subst e;exact .nil
 |v::items,_,h,e=>by subst e;exact .cons (h v (.head _)) (JM (λw a=>h w (.tail _ a)) rfl)
def bd{nd:Nat}{T:iJ}{o:dq}{items:bM ae}{n:Nat}(h:vm I nd)(g:S.B.H.get? T=some o)(j:o.cls≠.none)(p:o.data=.seq items n)(hi:items.size=nd)(u:I.fd.defaults=.ref T)
  (w:∀v∈items.toList,∃a oa m,v=.ref a/\S.B.H.get? a=some oa/\oa.cls=.type "tuple"/\oa.data=.seq #[] m) (c:I.dflt=items.toList.map λ_=>.tup []):sT S I:=λV F J fs R s vs l Y H r e=>by
 have x:I.dflt.length=nd:=by rw[c,ah];exact hi
 unfold rC at e;split at e
 .rename_i q;cases e;rw[x]at q⊢;have y:=r.length;have⟨k,A,C⟩:=h vs items hi (by omega) (by omega);refine⟨_,.of_defaults u (H.lw _ _ (H.base _ _ g j)) p A C,xw (jV.append ?_ r)⟩;rw[y];refine jV.drop _ (JM (λv D=>?_) c);obtain⟨a,oa,m,rfl,E,d,G⟩:=w v D;exact .tup (H.base _ _ E (by rw[d];nofun)) d G .nil
 .cases e
def fq{c:Type}{Q:c->Prop}{a:c}{l:List c}(h:Q a)(t:∀x∈l,Q x):∀x∈a::l,Q x:=List.forall_mem_cons.mpr ⟨h,t⟩
def fm{a:iJ}{b:aY}{l:List (iJ×Fn×aY)}(h:sT S I)(t:∀x∈l,sT S x.2.1):∀x∈(a,I,b)::l,sT S x.2.1:=fq h t
include hk
def bd1{T a:iJ}(h:vm I 1)(c:(T,o (t "tuple") (H.sq [r a] 0))∈kf P)(d:(a,o (t "tuple") (H.sq [] 0))∈kx P)(g:I.fd.defaults=.ref T)(j:I.dflt=[.tup []]):sT S I:=
 bd (items:=#[r a]) (n:=0) h (hk _ _ (Im P _ c)) (by nofun) rfl rfl g (λv k=>by rw[aN.mp k];exact⟨a,_,0,rfl,hk _ _ (Io P _ d),rfl,rfl⟩) j
def bd3{T a b c:iJ}(h:vm I 3)(g:(T,o (t "tuple") (H.sq [r a,r b,r c] 0))∈kf P)(j:∀x∈[a,b,c],(x,o (t "tuple") (H.sq [] 0))∈kx P)(k:I.fd.defaults=.ref T)(l:I.dflt=[.tup [],.tup [],.tup []]):sT S I:=
 bd (items:=#[r a,r b,r c]) (n:=0) h (hk _ _ (Im P _ g)) (by nofun) rfl rfl k (λv m=>by
  obtain⟨x,p,rfl⟩:∃x∈[a,b,c],v=.ref x:=by
   have d:=m;simp only[af,bl,cI]at d;rcases d with rfl|rfl|rfl
   .exact⟨a,by simp,rfl⟩
   .exact⟨b,by simp,rfl⟩
   .exact⟨c,by simp,rfl⟩
  exact⟨x,_,0,rfl,hk _ _ (Io P _ (j x p)),rfl,rfl⟩) l
def kf_at{a:iJ}{x:dq}(h:(kf P).lookup a=some x):S.B.H.get? a=some x:=hk _ _ (Im P _ (lr h))
def wF{a:iJ}{x:dq}(h:(kx P).lookup a=some x):S.B.H.get? a=some x:=hk _ _ (Io P _ (lr h))
def abf:sT S Jh:=bd1 hk aba (lr (K:=kf P) (a:=480) (by tm_at"k")) (lr (K:=kx P) (a:=479) (by tm_at"k")) (by tm_at"k") rfl
def abg:sT S xY:=bd3 hk abb (a:=589) (b:=590) (c:=591) (lr (K:=kf P) (a:=592) (by tm_at"k")) (fq (lr (K:=kx P) (by tm_at"k"))<|fq (lr (K:=kx P) (by tm_at"k"))<|fq (lr (K:=kx P) (by tm_at"k")) nofun) (by tm_at"k") rfl
def abh:sT S FC:=bd1 hk abc (lr (K:=kf P) (a:=740) (by tm_at"k")) (lr (K:=kx P) (a:=739) (by tm_at"k")) (by tm_at"k") rfl
def abi:sT S FD:=bd1 hk abd (lr (K:=kf P) (a:=749) (by tm_at"k")) (lr (K:=kx P) (a:=748) (by tm_at"k")) (by tm_at"k") rfl
def Cj:∀p∈rJ,sT S p.2.1:=by
 unfold rJ
 repeat first
  |exact List.forall_mem_nil _
  |with_reducible refine fm (abf hk) ?_
  |with_reducible refine fm (abg hk) ?_
  |with_reducible refine fm (abh hk) ?_
  |with_reducible refine fm (abi hk) ?_
  |refine fm (bp (aa7 rfl rfl λa b=>by tm_at"k")) ?_
  |refine fm (bp (aa6 rfl rfl λa=>by tm_at"k")) ?_
  |refine fm (bp (aa8 rfl rfl λa b c=>by tm_at"k")) ?_
  |refine fm (bp (aa9 rfl rfl λa b c d=>by tm_at"k")) ?_
  |refine fm (bp (aa5 rfl rfl (by tm_at"k"))) ?_
end
def DO{c d:Type}{f g:c->d}{l:List c}(h:l.map f=l.map g){a:c}(m:a∈l):f a=g a:=gE.mp h a m
def Lx:rJ.map (λp=>p.2.1.body)=rJ.map λp=>match p.2.1.fd.body with|.stmts b=>b|_=>[]:=by tm_at"k"
def Ck(h:wE P I=true):∃c' o vs t,I.fd.code=.ref c'/\(kx P).lookup c'=some o/\o.cls≠.none/\o.data=.fields vs/\vs[1]?=some (.str I.fd.qualname t):=by
 unfold wE at h;split at h
 .rename_i c d;split at h
  .rename_i l m vs n g;have⟨j,a⟩:=db.mp h;split at a
   .rename_i q t k;rw[<-aG.mp a];exact⟨c,_,vs,t,d,g,by simpa using j,rfl,k⟩
   .cases a
  .cases h
 .cases h
section
variable {S:Sys}{P:aW}(hk:∀b o,(mU P).get? b=some o->S.B.H.get? b=some o)
include hk
def Gv{f:iJ}{I:Fn}{b:aY}(a:(f,I,b)∈rJ):(∃o,S.B.H.get? f=some o/\o.data=.func I.fd/\o.cls≠.none)/\(∃c' o vs t,I.fd.code=.ref c'/\S.B.H.get? c'=some o/\o.cls≠.none/\o.data=.fields vs/\vs[1]?=some (.str I.fd.qualname t))/\
  I.fd.body=.stmts I.body/\I.fd.globals=mainGlobals/\I.fd.builtins=builtinsNs/\I.fd.scope.kind=.function/\I.fd.scope.isGenerator=false/\I.fd.scope.isCoroutine=false/\∀x∈I.names,I.fd.scope.names.lookup x=some .local∨I.fd.scope.names.lookup x=some .cell:=by
 have g:=DO (Q2 P) a;have h:=aZ.mp (O8 P) _ a;have c:=aZ.mp O_ _ a;have j:=DO Lx a;unfold O9 at c;simp only[aJ,aG,bJ,aZ,cz]at c;have⟨⟨⟨⟨⟨⟨d,k⟩,l⟩,m⟩,n⟩,p⟩,q⟩:=c;refine⟨⟨_,kf_at hk g,rfl,nofun⟩,?_,?_,k,l,m,n,p,q⟩
 .have⟨c',o,vs,t,u,w,y,A,C⟩:=Ck h;exact⟨c',o,vs,t,u,wF hk w,y,A,C⟩
 .split at d
  .rename_i D e;rw[j,e]
  .cases d
def Gw{f:iJ}{I:Fn}{b:aY}(a:(f,I,b)∈rJ)(h:DN I=true):P0 S f I:=by have⟨c,d,g,j,k,l,m,n,p⟩:=Gv hk a;unfold DN at h;simp only[aJ,aZ,List.isEmpty_iff,dC]at h;have⟨⟨q,u⟩,w⟩:=h;exact⟨c,d,g,j,k,q,l,m,n,u,w,p,Cj hk _ a⟩
def SC (I:Fn)(a:iJ):aY:=I.fd.scope.names.all (λp=>(p.2 !=.free||p.1==("__class__":Str))&&p.2 !=.cell)&&I.names.all (λx=>I.fd.scope.names.lookup x==some .local)&&(match I.fd.closure with|[(x,b)]=>x==("__class__":Str)&&b==a|_=>false)
def Cm{f a:iJ}{o:dq}{I:Fn}{b:aY}(g:(f,I,b)∈rJ)(h:SC I a=true)(k:(kx P).lookup a=some o):IU S f I:=by
 have⟨l,m,n,u,w,y,A,C,G⟩:=Gv hk g;unfold SC at h;simp only[aJ,aZ,cz,dC,aG]at h;have⟨⟨j,D⟩,c⟩:=h;refine⟨l,m,n,u,w,?_,y,A,C,λp d e=>(j p d).1.elim (λq=>absurd e q) id,λp d=>(j p d).2,D,Cj hk _ g⟩;split at c
 .rename_i x E e;simp only[aJ,aG]at c;obtain⟨rfl,rfl⟩:=c;exact⟨E,o,e,wF hk k⟩
 .cases c
def UL(f:iJ)(I:Fn)(b:aY)(h:HX f=some (I,b)):P0 S f I∨IU S f I:=by
 have c:=lr h;have h1:=aZ.mp Lw _ c;rcases eW.mp h1 with h1|h1
 .rcases eW.mp h1 with h1|h1
  .cases aG.mp h1;have e:HX 475=some (N4,false):=by tm_at"k"
   rw[e]at h;cases h;exact .inr (Cm (a:=463) (o:=o (t "cell") (.cell (some (r 565)))) hk c (by tm_at"k") (by tm_at"k"))
  .cases aG.mp h1;have e:HX 585=some (N5,false):=by tm_at"k"
   rw[e]at h;cases h;exact .inr (Cm (a:=573) (o:=o (t "cell") (.cell (some (r 682)))) hk c (by tm_at"k") (by tm_at"k"))
 .exact .inl (Gw hk c h1)
end
def t7:List (iJ×iJ×Str):=[(652,650,"Triple.bools"),(746,742,"Definition.add_object"),(755,751,"Definition.add_property"),(762,758,"Definition.remove_object"),(769,765,"Definition.remove_property"),(913,911,"_law_first")]
def JN (P:aW)(t:iJ×iJ×Str):aY:=match(kx P).lookup t.1 with
 |some ⟨cl,_,.fields vs,_⟩=>cl==.type "code"&&(vs[11]?:az ae)==some (.ref t.2.1)&&vs.getD 11 .none==.ref t.2.1&&(match vs.getD 18 .none with|.str _ _=>true|_=>false)&&(match vs.getD 7 .none with|.int _ _=>true|_=>false)&&(match vs.getD 9 .none with|.bool _=>true|_=>false)&&(match vs.getD 10 .none with|.int _ _=>true|_=>false)&&t.1 !=t.2.1
 |_=>false
def Ly(P:aW):t7.all (JN P)=true:=by tm_at"k"
def UM(P:aW):t7.map (λt=>(kx P).lookup t.2.1)=t7.map λ_=>some (o N (fl [])):=by tm_at"k"
def Lz:t7.all (λt=>t7.all λt'=>t.2.1 !=t'.2.1||t.1==t'.1)=true:=by tm_at"k"
def Pa(P:aW):(kf P).lookup 3=some (o (t "dict") (.dict (O7 P 3) 46)):=by tm_at"k"
def en_ (P:aW)(a:iJ):Nat:=match(kf P).lookup a with
 |some ⟨_,_,.dict _ n,_⟩=>n
 |_=>0
def Yu(P:aW):(kf P).lookup 0=some (o (t "dict") (.dict (O7 P 0) (en_ P 0))):=by tm_at"k"
def abj(P:aW):(kx P).lookup 4=some (O (t "module") (some 0) .plain []):=by tm_at"k"
def bm4(P:aW):nsFind (O7 P 3) "__builtins__"=some (.ref 4):=by tm_at"k"
def U9 (P:aW):bM cU:=match(kx P).lookup 2 with
 |some ⟨_,_,.dict es _,_⟩=>es
 |_=>#[]
def Pb(P:aW):(kx P).lookup 2=some (o N (.dict (U9 P) 10)):=by tm_at"k"
def Yv(P:aW):AZ (U9 P)=true:=by tm_at"k"
def abk(P:aW):nsFind (U9 P) "thirdparty.any"=none:=by tm_at"k"
def abl(P:aW):nsFind (U9 P) "sys.recursionlimit"=none:=by tm_at"k"
def yR{es:bM cU}(h:AZ es=true):StrKeys es:=by
 intro e a;unfold AZ at h;have:=aZ.mp h e (by simpa using a);split at this
 .rename_i n t q;exact⟨n,t,q⟩
 .cases this
def SD (p:iJ×dq):aY:=p.2.cls !=.type "function"||(match p.2.data with|.func _=>true|_=>false)
def UN(P:aW):(kf P).all SD=true:=by tm_at"k"
section
variable {S:Sys}{P:aW}(hk:∀b o,(mU P).get? b=some o->S.B.H.get? b=some o)
include hk
def Yw:kJ S.B (kf P):=λa o h=>⟨kf_at hk h,by have:=aZ.mp (SR P) _ (lr h);simpa using this⟩
omit hk in
def abm(f:iJ)(h:typeIn (kf P) (.ref f)=some (.type "function")):fnIn (kf P) f=true:=by unfold typeIn at h;have⟨o,g,j⟩:=ay.mp h;have a:=aZ.mp (UN P) _ (lr g);unfold SD at a;rw[j]at a;have⟨c,k,d,l⟩:=o;cases d<;>first|(unfold fnIn;rw[g];done)|simp at a
def abn:z6 S.B:=by have h:=wF hk (Pb P);refine⟨_,_,_,h,rfl,?_⟩;unfold staticOf;rw[show S.B.H.get? cStatics=_ from h];exact abk P
def gl1:tj S.B:=⟨_,_,_,_,_,kf_at hk (Pa P),nofun,rfl,yR (db.mp (JL P)).2,bm4 P,by decide,wF hk (abj P),rfl,rfl,rfl⟩
def Pc(tb:S.B.tabs=t7):∀t∈S.B.tabs,S.B.H.IsCode t.1 t.2.1 #[]/\S.B.H.TableAt t.1 t.2.1 #[]:=by
 rw[tb];intro t d;have a:=aZ.mp (Ly P) _ d;have g:=wF hk (DO (UM P) d);unfold JN at a;split at a
 .rename_i L M vs Q n;have h:=wF hk n;simp only[aJ,aG,dC]at a;have⟨⟨⟨⟨⟨⟨⟨p,q⟩,u⟩,j⟩,k⟩,l⟩,m⟩,w⟩:=a;split at j
  .rename_i c x y;split at k
   .rename_i fl A C;split at l
    .rename_i D E;split at m
     .rename_i G J K;exact⟨⟨_,vs,c,x,fl,A,D,G,J,_,h,rfl,u,y,C,E,K,g,rfl,trivial,w⟩,⟨_,vs,h,p,rfl,q⟩,g⟩
     .cases m
    .cases l
   .cases k
  .cases j
 .cases a
def Q9(tb:S.B.tabs=t7):sF S.B:=⟨λt a=>⟨_,(Pc hk tb t a).2⟩,λt a t' c e=>by rw[tb]at a c;have:=aZ.mp (aZ.mp Lz _ a) _ c;rw[e]at this;simpa using this⟩
omit hk in
def Yx(tb:S.B.tabs=t7):KM S.B XQ:=λa h=>by
 rw[tb];unfold XQ at h;simp only[af,bl,cI]at h;rcases h with rfl|rfl|rfl|rfl|rfl|rfl
 .exact⟨_,_,.head _⟩
 .exact⟨_,_,.tail _ (.head _)⟩
 .exact⟨_,_,.tail _ (.tail _ (.head _))⟩
 .exact⟨_,_,.tail _ (.tail _ (.tail _ (.head _)))⟩
 .exact⟨_,_,.tail _ (.tail _ (.tail _ (.tail _ (.head _))))⟩
 .exact⟨_,_,.tail _ (.tail _ (.tail _ (.tail _ (.tail _ (.head _)))))⟩
def Q3(f:iJ)(I:Fn)(x:Str)(es:j5)(h:Jj f=some (I,x,es)):yL S f I x es:=by
 unfold Jj at h;split at h
 .rename_i e;subst e;cases h;have⟨c',a,vs,tk,c,d,g,j,k⟩:=Ck (show wE P Ji=true by tm_at"k");exact⟨⟨o (t "function") (.func Sn),kf_at hk (by tm_at"k"),rfl,nofun⟩,⟨c',a,vs,tk,c,wF hk d,g,j,k⟩,by tm_at"k",by tm_at"k",by tm_at"k",by tm_at"k",by tm_at"k",by tm_at"k",by tm_at"k",by tm_at"k",λp l=>by
   have h:Ji.fd.scope.names.all (λp=>p.2 !=.cell&&p.2 !=.free)=true:=by tm_at"k"
   simpa using aZ.mp h p l,by tm_at"k",λs v=>.of_eq (by tm_at"k")⟩
 .cases h
end
def UO(P:aW):(kf P).lookup 836=some (o (t "list") (H.sq [s "a" 1316,s "b" 1317,s "c" 1318,s "d" 1319,s "e" 1320] 0)):=by tm_at"k"
def UP(P:aW):(kf P).lookup 837=some (o (t "list") (H.sq [s "p" 1322,s "q" 1323,s "r" 1324,s "s" 1325] 0)):=by tm_at"k"
def UQ:UI ("_law_objects",.lst [.str "a",.str "b",.str "c",.str "d",.str "e"])=some (.ref 836):=by tm_at"k"
def UR:UI ("_law_properties",.lst [.str "p",.str "q",.str "r",.str "s"])=some (.ref 837):=by tm_at"k"
section
variable {S:Sys}{P:aW}(hk:∀b o,(mU P).get? b=some o->S.B.H.get? b=some o)
include hk
def Q4:M8 S B6:=λx a h V F J fs R s M A Q E env H m n q=>by
 have d:=lr h;have g:=DO (Yp P) d;have j:=db.mp (JL P);have k:s.heap.Ns env.globals (nsFind (O7 P 3)):=by rw[m];exact⟨_,_,_,H.lw _ _ (H.base _ _ (kf_at hk (Pa P)) nofun),rfl,yR j.2,λ_=>rfl⟩
 have p:s.heap.Ns env.builtins (nsFind (O7 P 0)):=by rw[n];exact⟨_,_,_,H.lw _ _ (H.base _ _ (kf_at hk (Yu P)) nofun),rfl,yR j.1,λ_=>rfl⟩
 have load:∀v,UH P x=some v->Q v s->wpAny M A (loadGlobal env x) Q E s:=λv e l=>by
  unfold UH at e;split at e
  .rename_i w c;cases e;exact PySem.Calls.loadGlobal_global k c l
  .rename_i c;exact PySem.Calls.loadGlobal_builtin k c p e l
 have lo:=aZ.mp UJ _ d;unfold Sz at lo;dsimp only at lo;split at lo
 .exact load _ g (q _ (.val _))
 .rcases eW.mp lo with e|e
  .cases aG.mp e;rw[Yq]at h;cases h;rw[UQ]at g;refine load _ g (q _ (.lst (H.base _ _ (kf_at hk (UO P)) nofun) rfl rfl ?_));exact .cons (.str _ _) (.cons (.str _ _) (.cons (.str _ _) (.cons (.str _ _) (.cons (.str _ _) .nil))))
  .cases aG.mp e;rw[Yr]at h;cases h;rw[UR]at g;refine load _ g (q _ (.lst (H.base _ _ (kf_at hk (UP P)) nofun) rfl rfl ?_));exact .cons (.str _ _) (.cons (.str _ _) (.cons (.str _ _) (.cons (.str _ _) .nil)))
end
def US{S:Sys}(a:∀b o,(mU P).get? b=some o->S.B.H.get? b=some o)(c:ml S)(tb:S.B.tabs=t7):Am S (UV P):=⟨c,Yw a,abm,abn a,Q9 a tb,gl1 a,Yx tb,Q4 a,UL a,Q3 a⟩
def Gx (w:cy)(s:aj):Sys:={prog:=pw,w:=w,jR:=vO pw w,B:={H:=s.heap,os:=s.os,tabs:=t7}}
def Ip (s:aj):jn:=λa=>match s.heap.get? a with
 |some o=>if o.cls=.none then none else some o
 |none=>none
def DP{s:aj}{a:iJ}{o:dq}(h:s.heap.get? a=some o)(c:o.cls≠.none):Ip s a=some o:=by unfold Ip;rw[h];exact aA c
def start{w:cy}{s:aj}(d:∀b o,(mU w.params).get? b=some o->s.heap.get? b=some o)(j:s.gens=#[]):Holds (Gx w s).jR (Gx w s).B [] (Ip s) [] [] [] s where
 base:=λa o h c=>DP h c
 lw:=λa o h=>by
  unfold Ip at h;split at h
  .rename_i o' e;split at h
   .cases h
   .cases h;exact e
  .cases h
 old:=OldK.refl _
 lim:=⟨nsFind (U9 w.params),⟨_,_,_,wF (S:=Gx w s) d (Pb w.params),rfl,yR (Yv w.params),λ_=>rfl⟩,abl w.params⟩
 bare:=.of_eq j
 os:=rfl
 len:=rfl
 nd:=.nil
 new:=λa h=>by cases h
 there:=λa h=>by cases h
 cells:=λk a c h=>by cases h
 frames:=trivial
 res:=λp h=>by cases h
 tabs:=λt g=>by
  have h:=Pc (S:=Gx w s) d rfl t g;refine⟨⟨#[],h.1,h.2,λpos n e=>by cases e⟩,?_,?_,?_,?_⟩
  .unfold Ip;rw[show s.heap.get? t.2.1=_ from h.2.2];rfl
  .show(s.heap.get? t.2.1).isSome=true;rw[show s.heap.get? t.2.1=_ from h.2.2];rfl
  .have:t7.all (λt=>t.2.1 !=cStatics)=true:=by tm_at"k"
   simpa using aZ.mp this t g
  .obtain⟨o,vs,l,m,-⟩:=h.2.1;rw[DP l (by rw[m];nofun)];rfl
 mS:=by show(s.heap.get? cStatics).isSome=true;rw[show s.heap.get? cStatics=_ from wF (S:=Gx w s) d (Pb w.params)];rfl
def AU{R:WRecords}{j:Str->az iJ}{h:cj}{V:jj}{F:jn}:∀{c:List WData}{vs:jr}{as:jj},WShape.hasItems R c .int=true->ReadsAllW R j h vs c as->∃a:List Int,c=a.map .int/\jV V F vs (a.map .int)
 |[],_,_,_,.nil=>⟨[],rfl,.nil⟩
 |d::c,_,_,k,.cons l m=>by
  have g:WShape.has R d .int=true/\WShape.hasItems R c .int=true:=by simpa [WShape.hasItems]using k
  obtain⟨i,rfl⟩:=hasW_int g.1;obtain⟨a,rfl,n⟩:=AU (V:=V) (F:=F) g.2 m;cases l;exact⟨i::a,rfl,.cons (.int _ _) n⟩
def Q5{R:WRecords}{a:List Int}(h:WTm.holds R LC.row.pre {args:=[.list (a.map .int)]}=true):a.length<=63:=by
 have h':WTm.holds R (.and (.not (.lt (.lit (.int 63)) (.len (.arg 0)))) (.lit (.bool true))) {args:=[.list (a.map .int)]}=true:=h;unfold WTm.holds at h';simp[WTm.value,PySem.W.less?]at h';rw[show Num.less? (WData.int 63) (WData.int a.length)=some (decide ((63:Int)<a.length))from rfl]at h';by_cases c:(63:Int)<a.length
 .rw[cH c]at h';cases h'
 .omega
def abo:nsFind (O7 P 3) "law"=some (.ref 919):=by tm_at"k"
def walk1:Re:=by
 intro w G c mg mb J K a o pm cd M dV kV ha hd P Qn k Q args A as L l R m U W;have n:∀b o,(mU w.params).get? b=some o->c.heap.get? b=some o:=λb o h=>L.keeps b o (by rw[show G.heap=_ from K];exact h);have H:=start n Q;have⟨X,Y⟩:=pre_splitW l;obtain⟨d,r,rfl,h3,h4⟩:=hasAllW_cons X;cases hasAllW_nil h4;obtain⟨ds,rfl,h5⟩:=hasW_list h3;cases m with
 |cons r1 r2=>
 cases r2;cases r1 with
 |list e1 C e3 rs=>
 obtain⟨j,rfl,u⟩:=AU (V:=[]) (F:=Ip c) h5 rs;have hl:j.length<=63:=Q5 Y;have ea:a=919:=by obtain⟨o3,es,ep,D,g2,-,g3⟩:=J.T.g;have q:=kf_at (S:=Gx w c) n (Pa w.params);have q':c.heap.get? mainGlobals=_:=q;rw[q']at D;obtain rfl:=eY D;have g5:Data.dict (O7 w.params 3) 46=.dict es ep:=g2;have g6:=(Data.dict.inj g5).1;subst g6;have E:=g3 Cn.name;rw[k,show Cn.name=("law":Str) by tm_at"k",abo]at E;cases E;rfl
 subst ea;have LO:Am (Gx w c) (UV w.params):=US (S:=Gx w c) n rfl rfl;have fa:kj (3*9) true [] callerA:=⟨by decide,by decide,rfl,rfl,λ_=>rfl⟩
 have x:=(RV LO 9).1 919 [.lst (j.map .int)] [] (λa _=>a=.bool true) wW (UG (ao 9) (fx1 w.params) (by omega) λ_=>rfl) [] (Ip c) [] [] c callerA _ fa H (.one (.lst (DP e1 (by rw[C];nofun)) C e3 u));refine dQ (b7 x λr s' p=>?_);rcases r with e|(_|_|_|v)
 .have⟨_,_,_,_,_,_,z⟩:=p;exact z.elim
 .exact p
 .exact p
 .exact p
 .obtain⟨jF,F',av,g_,g,y,rv,rfl⟩:=p;cases rv;exact⟨.inl ⟨_,_,_,rfl,λ_=>rfl,.bool true,by tm_at"k",λ_=>⟨.nil,λ_ h=>by cases h⟩⟩,y.old,y.os,y.bare⟩
end
end Mine
end
theorem PySem.Challenge.cw_jw0001_01_holds : PySem.Challenge.rw_jw0001_01.Holds :=
  Mine.H.head Mine.walk1
