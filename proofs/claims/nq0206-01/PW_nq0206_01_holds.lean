import PyProof.Rows.All
import Wide.All
import OpenK.AllK
import Wide.FinOn
import KE.KFromBytes
import KE.KDictOf
import Lean
import PySem.Challenge.RW_nq0206_01
open PySem PySem.W PySem.Calls PyProof.Rows
set_option Elab.async false
set_option autoImplicit true
set_option maxRecDepth 100000
set_option linter.all false
set_option genSizeOf false
set_option genInjectivity false
set_option bootstrap.genMatcherCode false
noncomputable section
namespace Mine.Internal
abbrev q0a :=@Option.some.inj
abbrev q0b :=@List.getElem?_eq_some_iff
abbrev q0c :=@Nat.le_refl
abbrev q0d :=@Nat.le_trans
abbrev q0e :=@List.getElem?_append_left
abbrev q0f :=@Bool.false_ne_true
abbrev q0g :=@List.mem_cons_self
abbrev q0h :=@List.getElem?_eq_getElem
abbrev q0i :=@List.append_assoc
abbrev q0j :=@List.getElem?_set_ne
abbrev q0k :=@List.mem_cons_of_mem
abbrev q0l :=@Nat.lt_of_lt_of_le
abbrev q0m :=@List.mem_cons
abbrev q0n :=@Heap.get?_push_size
abbrev q0o :=@Array.getElem?_eq_getElem
abbrev q0p :=@Heap.get?_push_of_some
abbrev q0q :=@List.append_nil
abbrev q0r :=@Nat.lt_of_le_of_lt
abbrev q0s :=@Heap.lt_size
abbrev q0t :=@Nat.ne_of_lt
abbrev q0u :=@Nat.le_add_right
abbrev q0v :=@Prod.mk.inj
abbrev q0w :=@List.length_map
abbrev q0x :=@List.length_append
abbrev q0y :=@List.getElem?_map
abbrev q0z :=@Option.map_eq_some_iff
abbrev q1a :=@Option.bind_eq_some_iff
abbrev q1b :=@Nat.le_of_lt
abbrev q1c :=@Nat.lt_irrefl
abbrev q1d :=@Nat.ne_of_gt
abbrev q1e :=@wpAny_pure
abbrev q1f :=@wpAny_bind
abbrev q1g :=@wpAny_of_eq
abbrev q1h :=@wpAny_mono
abbrev q1i :=@wpAny_ite
abbrev q1j :=@congrFun
abbrev q1k :=@if_pos
abbrev q1l :=@if_neg
abbrev q1m :=@List.mem_range
abbrev q1n :=@List.length_set
abbrev q1o :=@List.map_append
abbrev q1p :=@List.map_cons
abbrev q1q :=@List.mem_append
abbrev q1r :=@Bool.not_eq_true
abbrev q1s :=@congrArg
noncomputable abbrev q1t :=@absurd
abbrev q1u :=@wpAny_holding
abbrev q1v :=@beq_iff_eq
abbrev q1w :=@decide_eq_true
abbrev q1x :=@decide_eq_false
abbrev q1y :=@wpAny_field
abbrev q1z :=@wpAny_call_entry
abbrev q2a :=@wpAny_newObj_type
abbrev q2b :=@builtinLookup_eq_fast
abbrev q2c :=@List.not_mem_nil
abbrev q2d :=@beq_eq_false_iff_ne
abbrev q2e :=@List.mem_singleton
abbrev q2f :=@Nat.not_lt_zero
abbrev q2g :=@Nat.le_succ
abbrev q2h :=@List.getElem?_append_right
abbrev q2i :=@Array.getElem?_toList
abbrev q2j :=@Nat.add_le_add_left
abbrev q2k :=@List.mem_of_getElem?
abbrev q2l :=@And.imp_left
abbrev q2m :=@List.drop_eq_getElem_cons
abbrev q2n :=@Nat.lt_succ_self
abbrev q2o :=@wpAny_seqItems
abbrev q2p :=@List.forall_mem_cons
abbrev q2q :=@Nat.le_of_eq
noncomputable abbrev RL:OpenLaw:=PySem.Challenge.rw_nq0206_01
theorem zwa:namesResolve RL.row.prog=true:=by kernel_rfl
theorem zwb:namesMeet RL.row.prog RL.row.prog.main.body (λ_ n=>attrL n)=true:=by kernel_rfl
theorem zwc:looksOpen RL.row.prog=true:=by unfold looksOpen;rw[zwa,zwb];kernel_rfl
theorem Y5:RL.wellSaid=true:=by unfold OpenLaw.wellSaid OpenRow.wellSaid OpenRow.partSaid;rw[zwc];kernel_rfl
noncomputable def br:Program:=PySem.Challenge.rw_nq0206_01.prog
noncomputable def yz(s:Stmt):Arguments×List Stmt×Scope:=if h:s.ctorIdx=0 then Stmt.FunctionDef.elim (motive_2:=λ_=>Arguments×List Stmt×Scope) s h λ_ a b _ _ _ s _ _ _=>(a,b,s) else(⟨[],[],none,[],[],none,[]⟩,[],⟨.function,[],false,false,[]⟩)
noncomputable def Ki(s:Stmt):List Stmt:=if h:s.ctorIdx=2 then Stmt.ClassDef.elim (motive_2:=λ_=>List Stmt) s h λ_ _ _ b _ _ _ _ _ _ _=>b else[]
def cL(i:Nat):Arguments×List Stmt×Scope:=yz (br.main.body.getD i (.Pass ⟨0,0,0,0⟩))
def aU(i j:Nat):Arguments×List Stmt×Scope:=yz ((Ki (br.main.body.getD i (.Pass ⟨0,0,0,0⟩))).getD j (.Pass ⟨0,0,0,0⟩))
noncomputable def nH(a:Arguments×List Stmt×Scope)(name qualname:PySem.Str)(globals:Addr)(closure:List (PySem.Str×Addr))(oU wm doc n7:Value)(uJ:Option Addr)(code rU:Value)(builtins:Addr):FuncData:=⟨name,qualname,a.1,.stmts a.2.1,a.2.2,globals,closure,oU,wm,doc,n7,uJ,code,rU,builtins⟩
noncomputable def bF(x:PySem.Str)(t:Tok)(v:Value)(P:Params):DictEntry:=⟨PyData.keyHash P x,.str x t,v⟩
noncomputable def aN(a t:Nat)(ns:List PySem.Str)(F:Arguments×List Stmt×Scope)(nm qn:PySem.Str)(i j k l e:Nat)(D:Value)(m:PySem.Str)(u:Nat):List Obj:=[⟨(.type "tuple"),none,(.seq #[] 0),#[]⟩,⟨.none,none,(.fields #[]),#[]⟩,⟨(.type "tuple"),none,(.seq ((ns.zipIdx.map λx=>Value.str x.1 (t+3+x.2)).toArray) 0),#[]⟩,⟨(.type "tuple"),none,(.seq #[] 0),#[]⟩,⟨.none,none,(.func (nH F nm qn 0 [] .none .none .none .none none .none .none 0)),#[]⟩,⟨(.type "code"),none,(.fields #[(.str nm t),(.str qn (t+1)),(.str "/claim/cut.py" (t+2)),(.int (Int.ofNat i) 0),(.int (Int.ofNat j) 0),(.int (Int.ofNat k) 0),(.int 0 0),(.int (Int.ofNat l) 0),(.ref a),(.bool true),(.int 273 0),(.ref (a+1)),.none,(.ref (a+2)),(.ref (a+3)),(.ref (a+4)),(.int (Int.ofNat e) 0),(.int (Int.ofNat i) 0),(.str "/claim/cut.py" (e+1))]),#[]⟩,⟨(.type "function"),none,(.func (nH F nm qn 3 [] D .none .none (.str m u) none (.ref (a+5)) .none 0)),#[]⟩]
def cq(x:String)(t:Tok)(P:Params):DictEntry:=bF (PySem.Str.ofString x) t (.builtin x) P
def aK(x:String)(t:Tok)(P:Params):DictEntry:=bF (PySem.Str.ofString x) t (.type x) P
def am(x:PySem.Str)(t:Tok)(a:Nat)(P:Params):DictEntry:=bF x t (.ref a) P
noncomputable def gG:Obj:=⟨(.type "tuple"),none,(.seq #[] 0),#[]⟩
noncomputable def qK:Obj:=⟨.none,none,(.fields #[]),#[]⟩
noncomputable def eZ(v:Array Value):Obj:=⟨(.type "tuple"),none,(.seq v 0),#[]⟩
noncomputable def nG(v:Array Value):Obj:=⟨.none,none,(.fields v),#[]⟩
noncomputable def bM(x:String)(v:Array Value):Obj:=⟨(.type x),none,(.fields v),#[]⟩
def bQ(x:PySem.Str)(t:Tok)(y:PySem.Str)(u:Tok)(P:Params):DictEntry:=bF x t (.str y u) P
def cP(x:PySem.Str)(t:Tok)(y:String)(P:Params):DictEntry:=bF x t (.builtin y) P
def cu(x:PySem.Str)(t:Tok)(P:Params):DictEntry:=bF x t .none P
noncomputable def dK(P:Params)(l:List (Params->DictEntry)):Array DictEntry:=(l.map λf=>f P).toArray
noncomputable def gw:Nat->List Obj->BT->BT
 |_,[],t=>t
 |n,o::r,t=>gw (n+1) r (t.ins n o)
noncomputable def ctJ(l:List Str):Str:=⟨(l.flatMap (·.cps.toList)).toArray⟩
def Xr(P:Params):List Obj:=[⟨(.type "dict"),none,(.dict (dK P [bQ "__name__" 1 "builtins" 160,cP "__doc__" 2 "builtins.__doc__:str#opaque",cP "__package__" 3 "builtins.__package__:str#opaque",cP "__loader__" 4 "builtins.__loader__:shared#opaque",cP "__spec__" 5 "builtins.__spec__#opaque",cq "__build_class__" 6,cq "__import__" 7,cq "abs" 8,cq "all" 9,cq "any" 10,cq "ascii" 11,cq "bin" 12,cq "breakpoint" 13,cq "callable" 14,cq "chr" 15,cq "compile" 16,cq "delattr" 17,cq "dir" 18,cq "divmod" 19,cq "eval" 20,cq "exec" 21,cq "format" 22,cq "getattr" 23,cq "globals" 24,cq "hasattr" 25,cq "hash" 26,cq "hex" 27,cq "id" 28,cq "input" 29,cq "isinstance" 30,cq "issubclass" 31,cq "iter" 32,cq "aiter" 33,cq "len" 34,cq "locals" 35,cq "max" 36,cq "min" 37,cq "next" 38,cq "anext" 39,cq "oct" 40,cq "ord" 41,cq "pow" 42,cq "print" 43,cq "repr" 44,cq "round" 45,cq "setattr" 46,cq "sorted" 47,cq "sum" 48,cq "vars" 49,cu "None" 50,bF "Ellipsis" 51 .ellipsis,bF "NotImplemented" 52 .notImplemented,bF "False" 53 (.bool false),bF "True" 54 (.bool true),aK "bool" 55,aK "memoryview" 56,aK "bytearray" 57,aK "bytes" 58,aK "classmethod" 59,aK "complex" 60,aK "dict" 61,aK "enumerate" 62,aK "filter" 63,aK "float" 64,aK "frozenset" 65,aK "property" 66,aK "int" 67,aK "list" 68,aK "map" 69,aK "object" 70,aK "range" 71,aK "reversed" 72,aK "set" 73,aK "slice" 74,aK "staticmethod" 75,aK "str" 76,aK "super" 77,aK "tuple" 78,aK "type" 79,aK "zip" 80,bF "__debug__" 81 (.bool true),aK "BaseException" 82,aK "BaseExceptionGroup" 83,aK "Exception" 84,aK "GeneratorExit" 85,aK "KeyboardInterrupt" 86,aK "SystemExit" 87,aK "ArithmeticError" 88,aK "AssertionError" 89,aK "AttributeError" 90,aK "BufferError" 91,aK "EOFError" 92,aK "ImportError" 93,aK "LookupError" 94,aK "MemoryError" 95,aK "NameError" 96,aK "OSError" 97,aK "ReferenceError" 98,aK "RuntimeError" 99,aK "StopAsyncIteration" 100,aK "StopIteration" 101,aK "SyntaxError" 102,aK "SystemError" 103,aK "TypeError" 104,aK "ValueError" 105,aK "Warning" 106,aK "FloatingPointError" 107,aK "OverflowError" 108,aK "ZeroDivisionError" 109,aK "BytesWarning" 110,aK "DeprecationWarning" 111,aK "EncodingWarning" 112,aK "FutureWarning" 113,aK "ImportWarning" 114,aK "PendingDeprecationWarning" 115,aK "ResourceWarning" 116,aK "RuntimeWarning" 117,aK "SyntaxWarning" 118,aK "UnicodeWarning" 119,aK "UserWarning" 120,aK "BlockingIOError" 121,aK "ChildProcessError" 122,aK "ConnectionError" 123,aK "FileExistsError" 124,aK "FileNotFoundError" 125,aK "InterruptedError" 126,aK "IsADirectoryError" 127,aK "NotADirectoryError" 128,aK "PermissionError" 129,aK "ProcessLookupError" 130,aK "TimeoutError" 131,aK "IndentationError" 132,aK "_IncompleteInputError" 133,aK "IndexError" 134,aK "KeyError" 135,aK "ModuleNotFoundError" 136,aK "NotImplementedError" 137,aK "PythonFinalizationError" 138,aK "RecursionError" 139,aK "UnboundLocalError" 140,aK "UnicodeError" 141,aK "BrokenPipeError" 142,aK "ConnectionAbortedError" 143,aK "ConnectionRefusedError" 144,aK "ConnectionResetError" 145,aK "TabError" 146,aK "UnicodeDecodeError" 147,aK "UnicodeEncodeError" 148,aK "UnicodeTranslateError" 149,aK "ExceptionGroup" 150,bF "EnvironmentError" 151 (.type "OSError"),bF "IOError" 152 (.type "OSError"),cq "open" 153,cP "quit" 154 "builtins.quit#opaque",cP "exit" 155 "builtins.exit#opaque",cP "copyright" 156 "builtins.copyright#opaque",cP "credits" 157 "builtins.credits#opaque",cP "license" 158 "builtins.license#opaque",cP "help" 159 "builtins.help#opaque"]) 159),#[]⟩,
⟨(.type "dict"),none,(.dict (dK P [am "builtins" 162 4,am "__main__" 163 5,am "_collections" 246 13]) 3),#[]⟩,
⟨.none,none,(.dict (dK P [bF "im\x70ort.loaded._collections" 185 (.bool true),am "class._frozen_importlib.BuiltinImporter" 187 15,am "watched.im\x70ort" 208 19,am "class._frozen_importlib.ModuleSpec" 218 23,bF "sys.modules.booked-epoch" 247 (.int 3 0),bF "sys.modules.landed._collections" 248 (.bool true),bF "im\x70ort.later-laid._collections" 263 (.bool true),am "watched.library" 265 28,bQ "watched.library-objects" 0 "\x0d" 0,bQ "watched.library-deep._collections" 266 "\x04\x00\x00\x0c\x04\x00\x00\x0c\x04\x00\x00\x03\x04\x00\x00\x0c\x08\x04dict\x02" 0]) 10),#[]⟩,
⟨(.type "dict"),none,(.dict (dK P [bQ "__name__" 165 "__main__" 164,cu "__doc__" 166,cu "__package__" 167,cP "__loader__" 168 "__main__.__loader__#opaque",cu "__spec__" 169,am "__annotations__" 170 6,am "__builtins__" 171 4,bQ "__file__" 173 "/claim/cut.py" 172,cu "__cached__" 174,bF "deque" 272 (.type "collections.deque")]) 10),#[]⟩,
⟨(.type "module"),(some 0),.plain,#[]⟩,
⟨(.type "module"),(some 3),.plain,#[]⟩,
⟨(.type "dict"),none,(.dict (dK P []) 0),#[]⟩,
gG,
qK,
bM "code" #[(.str "<module>" 176),(.str "<module>" 177),(.str "/claim/cut.py" 178),(.int 1 0),(.int 0 0),(.int 0 0),(.int 0 0),(.int 0 0),(.ref 7),(.bool false),(.int 175 0),(.ref 8),.none,.none,.none,.none,(.int 179 0),(.int 1 0),(.str "/claim/cut.py" 180)],
⟨(.type "frame"),none,.plain,#[(some (.ref 9)),(some (.ref 3)),(some (.ref 3)),none,(some (.str "__main__" 164)),none,(some (.ref 0))]⟩,
eZ #[(.str "deque" 182)],
⟨(.type "dict"),none,(.dict (dK P [bQ "__name__" 250 "_collections" 249,cP "__doc__" 251 "off-the-table:_collections.__doc__:shared#opaque",bQ "__package__" 253 "" 252,cP "__loader__" 254 "off-the-table:_collections.__loader__:shared#opaque",cP "__spec__" 255 "off-the-table:_collections.__spec__:shared#opaque",cP "_count_elements" 256 "_collections._count_elements",bF "deque" 257 (.type "collections.deque"),bF "defaultdict" 258 (.type "collections.defaultdict"),cP "_deque_iterator" 259 "off-the-table:_collections._deque_iterator:shared#opaque",cP "_deque_reverse_iterator" 260 "off-the-table:_collections._deque_reverse_iterator:shared#opaque",bF "_tuplegetter" 261 (.type "collections._tuplegetter"),bF "OrderedDict" 262 (.type "collections.OrderedDict")]) 12),#[]⟩,
⟨(.type "module"),(some 12),.plain,#[]⟩,
⟨(.type "dict"),none,(.dict (dK P [bQ "__module__" 191 "_frozen_importlib" 188,bF "__firstlineno__" 192 (.int 971 189),cP "__doc__" 193 "_frozen_importlib.BuiltinImporter.__doc__:str#opaque",bQ "_ORIGIN" 194 "built-in" 190,cP "find_spec" 195 "_frozen_importlib.BuiltinImporter.find_spec#opaque",cP "create_module" 196 "_frozen_importlib.BuiltinImporter.create_module#opaque",cP "exec_module" 197 "_frozen_importlib.BuiltinImporter.exec_module#opaque",cP "get_code" 198 "_frozen_importlib.BuiltinImporter.get_code#opaque",cP "get_source" 199 "_frozen_importlib.BuiltinImporter.get_source#opaque",cP "is_package" 200 "_frozen_importlib.BuiltinImporter.is_package#opaque",cP "load_module" 201 "_frozen_importlib.BuiltinImporter.load_module#opaque",am "__static_attributes__" 202 16,am "__dict__" 204 17,am "__weakref__" 206 18]) 14),#[]⟩,
⟨(.type "type"),none,(.cls ⟨"BuiltinImporter",[(.type "object")],[(.ref 15),(.type "object")],14,"BuiltinImporter",true,[],[],false,none,false⟩),#[]⟩,
gG,
bM "getset_descriptor" #[(.str "__dict__" 203),(.ref 15),(.builtin "function.__dict__"),(.builtin "function.__dict__#set")],
bM "getset_descriptor" #[(.str "__weakref__" 205),(.ref 15),(.builtin "ExceptionGroup.__weakref__"),.none],
⟨.none,none,(.seq #[(.int 14 0),(.str (ctJ ["\x06¿\n__module__\x06¼\x11_frozen_importlib\x06À\x0f__firstlineno__\x04½\x00ϋ","\x06Á\x07__doc__\t4_frozen_importlib.BuiltinImporter.__doc__:str#opaque","\x06Â\x07_ORIGIN\x06¾\x08built-in\x06Ã\tfind_spec\t2_frozen_importlib.BuiltinImporter.find_spec#opaque","\x06Ä\x0dcreate_module\t6_frozen_importlib.BuiltinImporter.create_module#opaque","\x06Å\x0bexec_module\t4_frozen_importlib.BuiltinImporter.exec_module#opaque","\x06Æ\x08get_code\t1_frozen_importlib.BuiltinImporter.get_code#opaque","\x06Ç\nget_source\t3_frozen_importlib.BuiltinImporter.get_source#opaque","\x06È\nis_package\t3_frozen_importlib.BuiltinImporter.is_package#opaque","\x06É\x0bload_module\t4_frozen_importlib.BuiltinImporter.load_module#opaque","\x06Ê\x15__static_attributes__\x04\x00\x00\x10\x06Ì\x08__dict__\x04\x00\x00\x11","\x06Î\x0b__weakref__\x04\x00\x00\x12"]) 0),(.bool true),(.bool true),(.str "" 207),(.int 22 0),(.str (ctJ ["\x06å\n__module__\x06Û\x11_frozen_importlib\x06æ\x0f__firstlineno__\x04Ü\x00Ȳ","\x06ç\x07__doc__\t/_frozen_importlib.ModuleSpec.__doc__:str#opaque","\x06è\x08__init__\t,_frozen_importlib.ModuleSpec.__init__#opaque","\x06é\x08__repr__\t,_frozen_importlib.ModuleSpec.__repr__#opaque","\x06ê\x06__eq__\t*_frozen_importlib.ModuleSpec.__eq__#opaque","\x06ë\x06cached\t*_frozen_importlib.ModuleSpec.cached#opaque","\x06ì\x06parent\t*_frozen_importlib.ModuleSpec.parent#opaque","\x06í\x0chas_location\t0_frozen_importlib.ModuleSpec.has_location#opaque","\x06î\x15__static_attributes__\x04\x00\x00\x18\x06ð\x08__dict__\x04\x00\x00\x19","\x06ò\x0b__weakref__\x04\x00\x00\x1a\x06ó\x08__hash__\x00"]) 0),(.bool true),(.bool true),(.str "" 244)] 1),#[]⟩,
⟨(.type "list"),none,(.seq #[] 0),#[]⟩,
⟨(.type "dict"),none,(.dict (dK P [bQ "name" 210 "_collections" 209,am "loader" 211 15,bQ "origin" 212 "built-in" 186,cu "loader_state" 213,cu "submodule_search_locations" 214,am "_uninitialized_submodules" 215 20,bF "_set_fileattr" 216 (.bool false),cu "_cached" 217,bF "_initializing" 245 (.bool false)]) 9),#[]⟩,
⟨(.type "dict"),none,(.dict (dK P [bQ "__module__" 229 "_frozen_importlib" 219,bF "__firstlineno__" 230 (.int 562 220),cP "__doc__" 231 "_frozen_importlib.ModuleSpec.__doc__:str#opaque",cP "__init__" 232 "_frozen_importlib.ModuleSpec.__init__#opaque",cP "__repr__" 233 "_frozen_importlib.ModuleSpec.__repr__#opaque",cP "__eq__" 234 "_frozen_importlib.ModuleSpec.__eq__#opaque",cP "cached" 235 "_frozen_importlib.ModuleSpec.cached#opaque",cP "parent" 236 "_frozen_importlib.ModuleSpec.parent#opaque",cP "has_location" 237 "_frozen_importlib.ModuleSpec.has_location#opaque",am "__static_attributes__" 238 24,am "__dict__" 240 25,am "__weakref__" 242 26,cu "__hash__" 243]) 13),#[]⟩,
⟨(.type "type"),none,(.cls ⟨"ModuleSpec",[(.type "object")],[(.ref 23),(.type "object")],22,"ModuleSpec",true,[],[],false,none,false⟩),#[]⟩,
eZ #[(.str "_cached" 221),(.str "_set_fileattr" 222),(.str "_uninitialized_submodules" 223),(.str "loader" 224),(.str "loader_state" 225),(.str "name" 226),(.str "origin" 227),(.str "submodule_search_locations" 228)],
bM "getset_descriptor" #[(.str "__dict__" 239),(.ref 23),(.builtin "function.__dict__"),(.builtin "function.__dict__#set")],
bM "getset_descriptor" #[(.str "__weakref__" 241),(.ref 23),(.builtin "ExceptionGroup.__weakref__"),.none],
⟨(.ref 23),(some 21),.plain,#[]⟩,
⟨.none,none,(.seq #[(.int 12 0),(.str (ctJ ["\x06ú\x08__name__\x06ù\x0c_collections\x06û\x07__doc__\t\x1f_collections.__doc__:str#opaque","\x06ý\x0b__package__\x06ü\x00\x06þ\n__loader__\x04\x00\x00\x0f\x06ÿ\x08__spec__\x04\x00\x00\x1b","\x06Ā\x0f_count_elements\t\x1c_collections._count_elements","\x06ā\x05deque\x08\x11collections.deque\x06Ă\x0bdefaultdict\x08\x17collections.defaultdict","\x06ă\x0f_deque_iterator\x08\x1bcollections._deque_iterator","\x06Ą\x17_deque_reverse_iterator\x08#collections._deque_reverse_iterator","\x06ą\x0c_tuplegetter\x08\x18collections._tuplegetter","\x06Ć\x0bOrderedDict\x08\x17collections.OrderedDict"]) 0),(.bool true),(.bool false),(.str "_collections" 264)] 0),#[]⟩]
def ch0(P:Params):List Obj:=Xr P
def xp(P:Params):BT:=gw 0 (ch0 P) .nil
def Yu(w:World)(os:OsState):SharedT:=⟨xp w.params,29,{},#[],{},273,os⟩
def Rz(P:Params):List Obj:=[gG,
qK,
bM "code" #[(.str "<module>" 274),(.str "<module>" 275),(.str "/claim/cut.py" 276),(.int 1 0),(.int 0 0),(.int 0 0),(.int 0 0),(.int 0 0),(.ref 29),(.bool false),(.int 273 0),(.ref 30),.none,.none,.none,.none,(.int 277 0),(.int 1 0),(.str "/claim/cut.py" 278)],
⟨(.type "frame"),none,.plain,#[(some (.ref 31)),(some (.ref 3)),(some (.ref 3)),none,(some (.str "__main__" 164)),none,(some (.ref 0))]⟩]
noncomputable def ch1(P:Params):List Obj:=Rz P
def tr1(P:Params):BT:=gw 29 (ch1 P) (xp P)
def To(w:World)(os:OsState):SharedT:=⟨tr1 w.params,33,{},#[],{},279,os⟩
noncomputable def kV:Pos:=⟨0,0,0,0⟩
noncomputable def VF:Pos:=⟨0,0,0,0⟩
noncomputable def Vx:Pos:=⟨0,0,0,0⟩
def mU:Env:={scope:=br.main.scope,locals:=mainNs,globals:=mainNs,cells:=[],code:=(.ref 31),frame:=some 32}
def fS:Code:=.body (behindTheImports br) mU
-- ann (some (.ref 6)) pre 12 fin 1
def Ry(P:Params):List Obj:=aN 33 279 ["k"] (cL 1) "_wall" "_wall" 2 1 0 3 283 .none "__main__" 164++(aN 40 288 ["func_name","name"] (cL 3) "func_std_string" "func_std_string" 6 1 0 3 293 .none "cpy313.pstats" 286++(aN 47 296 ["target","source","cc","nc","tt","ct","callers","t_cc","t_nc","t_tt","t_ct","t_callers"] (cL 4) "add_func_stats" "add_func_stats" 15 2 0 3 311 .none "cpy313.pstats" 286++(aN 54 314 ["target","source","new_callers","func","caller"] (cL 5) "add_callers" "add_callers" 19 2 0 3 322 .none "cpy313.pstats" 286++(aN 61 327 ["n","what"] (cL 7) "_whence" "_whence" 33 2 0 3 332 .none "io" 325++(aN 68 335 ["n","what"] (cL 8) "_index" "_index" 38 2 0 3 340 .none "io" 325)))))
noncomputable def ch2(P:Params):List Obj:=Ry P
def Zg(P:Params):Obj:=⟨(.type "dict"),none,(.dict (dK P [bQ "__name__" 165 "io" 325,cu "__doc__" 166,cu "__package__" 167,cP "__loader__" 168 "__main__.__loader__#opaque",cu "__spec__" 169,am "__annotations__" 170 6,am "__builtins__" 171 4,bQ "__file__" 173 "/claim/cut.py" 172,cu "__cached__" 174,bF "deque" 272 (.type "collections.deque"),am "_wall" 285 39,am "func_std_string" 295 46,am "add_func_stats" 313 53,am "add_callers" 324 60,am "_whence" 334 67,am "_index" 342 74]) 16),#[]⟩
noncomputable def NR:List Value:=[(2,38),(6,45),(15,52),(19,59),(33,66),(38,73),(45,80),(47,93),(54,115),(56,127),(58,139),(228,369),(434,616),(455,623),(460,630),(465,637),(468,644),(488,651),(497,658),(750,753),(754,760),(757,767),(774,774),(781,779),(790,786),(809,791),(814,796),(817,801),(835,808)].flatMap λx=>[Value.int (Int.ofNat x.1) 0,.int 0 0,.ref x.2]
def T0(P:Params):Obj:=nG (NR.take 18).toArray
def BM(P:Params):BT:=gw 33 (ch2 P) (((tr1 P).set 3 λ_=>Zg P).set 30 λ_=>T0 P)
def st2(w:World)(os:OsState):SharedT:=⟨BM w.params,75,{},#[],{},343,os⟩
noncomputable def VE:Pos:=⟨38,0,44,12⟩
def Ud:List Stmt:=((behindTheImports br).drop 0).take 8
def lh2:World->OsState->Option (Flow×SharedT×Code×Pos):=λw os=>segRunT treeTable br w 29 (some (.ref 6)) 1 211 (To w os) (piecesOf Ud mU fS VF [topFrame kV])
def rh2:World->OsState->Option (Flow×SharedT×Code×Pos):=λw os=>some (Flow.next,st2 w os,fS,VE)
def Rx(P:Params):List Obj:=[eZ #[(.type "OSError"),(.type "ValueError")],bM "builtin_function_or_method" #[(.builtin "type.__prepare__"),(.type "type")],⟨(.type "dict"),none,(.dict (dK P [bQ "__module__" 350 "io" 355,bQ "__qualname__" 352 "UnsupportedOperation" 351,bF "__firstlineno__" 354 (.int 45 353),am "__static_attributes__" 357 82]) 4),#[]⟩,gG,qK,bM "code" #[(.str "UnsupportedOperation" 345),(.str "UnsupportedOperation" 346),(.str "/claim/cut.py" 347),(.int 45 0),(.int 0 0),(.int 0 0),(.int 0 0),(.int 0 0),(.ref 78),(.bool false),(.int 273 0),(.ref 79),.none,.none,.none,.none,(.int 348 0),(.int 45 0),(.str "/claim/cut.py" 349)],⟨(.type "frame"),none,.plain,#[(some (.ref 80)),(some (.ref 3)),(some (.ref 77)),none,(some (.str "io" 325)),none,(some (.ref 0))]⟩,gG,⟨(.type "dict"),none,(.dict (dK P [bQ "__module__" 350 "io" 355,bF "__firstlineno__" 354 (.int 45 353),am "__static_attributes__" 357 82,am "__weakref__" 359 85,cu "__doc__" 360]) 3),#[]⟩,⟨(.type "type"),none,(.cls ⟨"UnsupportedOperation",[(.type "OSError"),(.type "ValueError")],[(.ref 84),(.type "OSError"),(.type "ValueError"),(.type "Exception"),(.type "BaseException"),(.type "object")],83,"UnsupportedOperation",true,[],[],false,none,false⟩),#[(some (.ref 75)),none,(some (.str "UnsupportedOperation" 343)),(some (.str "UnsupportedOperation" 351)),(some (.builtin "OSError.__new__")),(some (.bool true))]⟩,bM "getset_descriptor" #[(.str "__weakref__" 358),(.ref 84),(.builtin "ExceptionGroup.__weakref__"),.none],bM "super" #[(.ref 84),(.ref 84),(.ref 84)],bM "builtin_function_or_method" #[(.builtin "object.__init_subclass__"),(.ref 84)],gG,bM "builtin_function_or_method" #[(.builtin "type.__prepare__"),(.type "type")],⟨(.type "dict"),none,(.dict (dK P [bQ "__module__" 372 "io" 377,bQ "__qualname__" 374 "IOBase" 373,bF "__firstlineno__" 376 (.int 47 375),am "__new__" 387 101,am "__static_attributes__" 388 102]) 5),#[]⟩,gG,nG #[(.int 50 0),(.int 4 0),(.ref 100)],bM "code" #[(.str "IOBase" 367),(.str "IOBase" 368),(.str "/claim/cut.py" 369),(.int 47 0),(.int 0 0),(.int 0 0),(.int 0 0),(.int 0 0),(.ref 91),(.bool false),(.int 273 0),(.ref 92),.none,.none,.none,.none,(.int 370 0),(.int 47 0),(.str "/claim/cut.py" 371)],⟨(.type "frame"),none,.plain,#[(some (.ref 93)),(some (.ref 3)),(some (.ref 90)),none,(some (.str "io" 325)),none,(some (.ref 0))]⟩]++(aN 95 379 ["cls","args","kwargs"] (aU 10 1) "__new__" "IOBase.__new__" 50 1 1 15 385 .none "io" 325++([gG,
⟨(.type "dict"),none,(.dict (dK P [bQ "__module__" 372 "io" 377,bF "__firstlineno__" 376 (.int 47 375),am "__new__" 387 105,am "__static_attributes__" 388 102,am "__dict__" 391 106,am "__weakref__" 393 107,cu "__doc__" 394]) 4),#[]⟩,
⟨(.type "type"),none,(.cls ⟨"IOBase",[(.type "object")],[(.ref 104),(.type "object")],103,"IOBase",true,[],[(.ref 119),(.ref 131)],false,none,false⟩),#[none,none,(some (.str "IOBase" 365)),(some (.str "IOBase" 373)),(some .none),(some (.bool true))]⟩,
bM "staticmethod" #[(.ref 101)],
bM "getset_descriptor" #[(.str "__dict__" 390),(.ref 104),(.builtin "function.__dict__"),(.builtin "function.__dict__#set")],
bM "getset_descriptor" #[(.str "__weakref__" 392),(.ref 104),(.builtin "ExceptionGroup.__weakref__"),.none],
bM "super" #[(.ref 104),(.ref 104),(.ref 104)],
bM "builtin_function_or_method" #[(.builtin "object.__init_subclass__"),(.ref 104)],
eZ #[(.ref 104)],
bM "builtin_function_or_method" #[(.builtin "type.__prepare__"),(.type "type")],
⟨(.type "dict"),none,(.dict (dK P [bQ "__module__" 404 "io" 409,bQ "__qualname__" 406 "BufferedIOBase" 405,bF "__firstlineno__" 408 (.int 54 407),am "__static_attributes__" 411 117]) 4),#[]⟩,
gG,
qK,
bM "code" #[(.str "BufferedIOBase" 399),(.str "BufferedIOBase" 400),(.str "/claim/cut.py" 401),(.int 54 0),(.int 0 0),(.int 0 0),(.int 0 0),(.int 0 0),(.ref 113),(.bool false),(.int 273 0),(.ref 114),.none,.none,.none,.none,(.int 402 0),(.int 54 0),(.str "/claim/cut.py" 403)],
⟨(.type "frame"),none,.plain,#[(some (.ref 115)),(some (.ref 3)),(some (.ref 112)),none,(some (.str "io" 325)),none,(some (.ref 0))]⟩,
gG,
⟨(.type "dict"),none,(.dict (dK P [bQ "__module__" 404 "io" 409,bF "__firstlineno__" 408 (.int 54 407),am "__static_attributes__" 411 117,cu "__doc__" 412]) 2),#[]⟩,
⟨(.type "type"),none,(.cls ⟨"BufferedIOBase",[(.ref 104)],[(.ref 119),(.ref 104),(.type "object")],118,"BufferedIOBase",true,[],[],false,none,false⟩),#[(some (.ref 110)),none,(some (.str "BufferedIOBase" 397)),(some (.str "BufferedIOBase" 405)),(some .none),(some (.bool true))]⟩,
bM "super" #[(.ref 119),(.ref 119),(.ref 119)],
bM "builtin_function_or_method" #[(.builtin "object.__init_subclass__"),(.ref 119)],
eZ #[(.ref 104)],
bM "builtin_function_or_method" #[(.builtin "type.__prepare__"),(.type "type")],
⟨(.type "dict"),none,(.dict (dK P [bQ "__module__" 422 "io" 427,bQ "__qualname__" 424 "TextIOBase" 423,bF "__firstlineno__" 426 (.int 56 425),am "__static_attributes__" 429 129]) 4),#[]⟩,
gG,
qK,
bM "code" #[(.str "TextIOBase" 417),(.str "TextIOBase" 418),(.str "/claim/cut.py" 419),(.int 56 0),(.int 0 0),(.int 0 0),(.int 0 0),(.int 0 0),(.ref 125),(.bool false),(.int 273 0),(.ref 126),.none,.none,.none,.none,(.int 420 0),(.int 56 0),(.str "/claim/cut.py" 421)],
⟨(.type "frame"),none,.plain,#[(some (.ref 127)),(some (.ref 3)),(some (.ref 124)),none,(some (.str "io" 325)),none,(some (.ref 0))]⟩,
gG,
⟨(.type "dict"),none,(.dict (dK P [bQ "__module__" 422 "io" 427,bF "__firstlineno__" 426 (.int 56 425),am "__static_attributes__" 429 129,cu "__doc__" 430]) 2),#[]⟩,
⟨(.type "type"),none,(.cls ⟨"TextIOBase",[(.ref 104)],[(.ref 131),(.ref 104),(.type "object")],130,"TextIOBase",true,[],[],false,none,false⟩),#[(some (.ref 122)),none,(some (.str "TextIOBase" 415)),(some (.str "TextIOBase" 423)),(some .none),(some (.bool true))]⟩,
bM "super" #[(.ref 131),(.ref 131),(.ref 131)],
bM "builtin_function_or_method" #[(.builtin "object.__init_subclass__"),(.ref 131)]]))
noncomputable def ch3(P:Params):List Obj:=Rx P
def Zf(P:Params):Obj:=⟨.none,none,(.dict (dK P [bF "im\x70ort.loaded._collections" 185 (.bool true),am "class._frozen_importlib.BuiltinImporter" 187 15,am "watched.im\x70ort" 208 19,am "class._frozen_importlib.ModuleSpec" 218 23,bF "sys.modules.booked-epoch" 247 (.int 3 0),bF "sys.modules.landed._collections" 248 (.bool true),bF "im\x70ort.later-laid._collections" 263 (.bool true),am "watched.library" 265 28,bQ "watched.library-objects" 0 "\x0d" 0,bQ "watched.library-deep._collections" 266 "\x04\x00\x00\x0c\x04\x00\x00\x0c\x04\x00\x00\x03\x04\x00\x00\x0c\x08\x04dict\x02" 0,bF "type.__subclasses__.OSError.0" 361 (.int 84 0),bF "type.__subclasses__.OSError.n" 362 (.int 1 0)]) 12),#[]⟩
def Ze(P:Params):Obj:=⟨(.type "dict"),none,(.dict (dK P [bQ "__name__" 165 "io" 325,cu "__doc__" 166,cu "__package__" 167,cP "__loader__" 168 "__main__.__loader__#opaque",cu "__spec__" 169,am "__annotations__" 170 6,am "__builtins__" 171 4,bQ "__file__" 173 "/claim/cut.py" 172,cu "__cached__" 174,bF "deque" 272 (.type "collections.deque"),am "_wall" 285 39,am "func_std_string" 295 46,am "add_func_stats" 313 53,am "add_callers" 324 60,am "_whence" 334 67,am "_index" 342 74,am "UnsupportedOperation" 364 84,am "IOBase" 396 104,am "BufferedIOBase" 414 119,am "TextIOBase" 432 131]) 20),#[]⟩
def TZ(P:Params):Obj:=nG (NR.take 30).toArray
def tr3(P:Params):BT:=gw 75 (ch3 P) ((((BM P).set 2 λ_=>Zf P).set 3 λ_=>Ze P).set 30 λ_=>TZ P)
def st3(w:World)(os:OsState):SharedT:=⟨tr3 w.params,134,{},#[],{},433,os⟩
noncomputable def VD:Pos:=⟨56,0,57,21⟩
def Uc:List Stmt:=((behindTheImports br).drop 8).take 4
def lh3:World->OsState->Option (Flow×SharedT×Code×Pos):=λw os=>segRunT treeTable br w 29 (some (.ref 6)) 1 894 (st2 w os) (piecesOf Uc mU fS VE [topFrame kV])
def rh3:World->OsState->Option (Flow×SharedT×Code×Pos):=λw os=>some (Flow.next,st3 w os,fS,VD)
def Kp(P:Params):List Obj:=[eZ #[(.ref 119)],bM "builtin_function_or_method" #[(.builtin "type.__prepare__"),(.type "type")],⟨(.type "dict"),none,(.dict (dK P [bQ "__module__" 440 "_io" 445,bQ "__qualname__" 442 "BytesIO" 441,bF "__firstlineno__" 444 (.int 58 443),am "__init__" 454 148,am "_BytesIO__check" 461 155,am "_BytesIO__line" 472 162,am "closed" 480 170,am "close" 487 177,am "__enter__" 494 184,am "__exit__" 502 191,am "readable" 509 198,am "writable" 516 205,am "seekable" 523 212,am "isatty" 530 219,am "flush" 537 226,am "fileno" 544 233,am "detach" 551 240,am "getvalue" 558 247,am "getbuffer" 565 254,am "tell" 572 261,am "seek" 582 269,am "truncate" 590 277,am "read" 602 285,am "read1" 612 293,am "readinto" 622 300,am "readinto1" 630 307,am "readline" 640 315,am "readlines" 648 323,am "__iter__" 655 330,am "__next__" 663 337,am "write" 673 344,am "writelines" 681 351,am "__repr__" 688 358,am "__static_attributes__" 691 359]) 34),#[]⟩,gG,nG #[(.int 61 0),(.int 4 0),(.ref 147),(.int 67 0),(.int 4 0),(.ref 154),(.int 71 0),(.int 4 0),(.ref 161),(.int 85 0),(.int 4 0),(.ref 168),(.int 88 0),(.int 4 0),(.ref 176),(.int 91 0),(.int 4 0),(.ref 183),(.int 95 0),(.int 4 0),(.ref 190),(.int 98 0),(.int 4 0),(.ref 197),(.int 102 0),(.int 4 0),(.ref 204),(.int 106 0),(.int 4 0),(.ref 211),(.int 110 0),(.int 4 0),(.ref 218),(.int 114 0),(.int 4 0),(.ref 225),(.int 117 0),(.int 4 0),(.ref 232),(.int 120 0),(.int 4 0),(.ref 239),(.int 123 0),(.int 4 0),(.ref 246),(.int 126 0),(.int 4 0),(.ref 253),(.int 129 0),(.int 4 0),(.ref 260),(.int 133 0),(.int 4 0),(.ref 268),(.int 150 0),(.int 4 0),(.ref 276),(.int 153 0),(.int 4 0),(.ref 284),(.int 167 0),(.int 4 0),(.ref 292),(.int 170 0),(.int 4 0),(.ref 299),(.int 184 0),(.int 4 0),(.ref 306),(.int 187 0),(.int 4 0),(.ref 314),(.int 194 0),(.int 4 0),(.ref 322),(.int 197 0),(.int 4 0),(.ref 329),(.int 200 0),(.int 4 0),(.ref 336),(.int 207 0),(.int 4 0),(.ref 343),(.int 223 0),(.int 4 0),(.ref 350),(.int 226 0),(.int 4 0),(.ref 357)],bM "code" #[(.str "BytesIO" 435),(.str "BytesIO" 436),(.str "/claim/cut.py" 437),(.int 58 0),(.int 0 0),(.int 0 0),(.int 0 0),(.int 0 0),(.ref 137),(.bool false),(.int 273 0),(.ref 138),.none,.none,.none,.none,(.int 438 0),(.int 58 0),(.str "/claim/cut.py" 439)],⟨(.type "frame"),none,.plain,#[(some (.ref 139)),(some (.ref 3)),(some (.ref 136)),none,(some (.str "io" 325)),none,(some (.ref 0))]⟩,eZ #[.none]]++(aN 142 447 ["self","initial_bytes"] (aU 13 1) "__init__" "BytesIO.__init__" 61 2 0 3 452 (.ref 141) "io" 325++(aN 149 455 ["self"] (aU 13 2) "__check" "BytesIO.__check" 67 1 0 3 459 .none "io" 325++(aN 156 462 ["self","limit","start","stop","i"] (aU 13 3) "__line" "BytesIO.__line" 71 2 0 3 470 .none "io" 325++(aN 163 473 ["self"] (aU 13 4) "closed" "BytesIO.closed" 84 1 0 3 477 .none "io" 325++([bM "property" #[(.ref 169),.none,.none,.none,(.str "closed" 480),(.bool false)]]++(aN 171 481 ["self"] (aU 13 5) "close" "BytesIO.close" 88 1 0 3 485 .none "io" 325++(aN 178 488 ["self"] (aU 13 6) "__enter__" "BytesIO.__enter__" 91 1 0 3 492 .none "io" 325++(aN 185 495 ["self","args"] (aU 13 7) "__exit__" "BytesIO.__exit__" 95 1 0 7 500 .none "io" 325++(aN 192 503 ["self"] (aU 13 8) "readable" "BytesIO.readable" 98 1 0 3 507 .none "io" 325++(aN 199 510 ["self"] (aU 13 9) "writable" "BytesIO.writable" 102 1 0 3 514 .none "io" 325++(aN 206 517 ["self"] (aU 13 10) "seekable" "BytesIO.seekable" 106 1 0 3 521 .none "io" 325++(aN 213 524 ["self"] (aU 13 11) "isatty" "BytesIO.isatty" 110 1 0 3 528 .none "io" 325++(aN 220 531 ["self"] (aU 13 12) "flush" "BytesIO.flush" 114 1 0 3 535 .none "io" 325++(aN 227 538 ["self"] (aU 13 13) "fileno" "BytesIO.fileno" 117 1 0 3 542 .none "io" 325++(aN 234 545 ["self"] (aU 13 14) "detach" "BytesIO.detach" 120 1 0 3 549 .none "io" 325++(aN 241 552 ["self"] (aU 13 15) "getvalue" "BytesIO.getvalue" 123 1 0 3 556 .none "io" 325++(aN 248 559 ["self"] (aU 13 16) "getbuffer" "BytesIO.getbuffer" 126 1 0 3 563 .none "io" 325++(aN 255 566 ["self"] (aU 13 17) "tell" "BytesIO.tell" 129 1 0 3 570 .none "io" 325++([eZ #[(.int 0 573)]]++(aN 263 574 ["self","pos","whence"] (aU 13 18) "seek" "BytesIO.seek" 133 3 3 3 580 (.ref 262) "io" 325++([eZ #[.none]]++(aN 271 583 ["self","size"] (aU 13 19) "truncate" "BytesIO.truncate" 150 2 2 3 588 (.ref 270) "io" 325++([eZ #[(.int (-1) 592)]]++(aN 279 593 ["self","size","start","stop"] (aU 13 20) "read" "BytesIO.read" 153 2 2 3 600 (.ref 278) "io" 325++([eZ #[(.int (-1) 604)]]++(aN 287 605 ["self","size"] (aU 13 21) "read1" "BytesIO.read1" 167 2 2 3 610 (.ref 286) "io" 325++(aN 294 613 ["self","buffer","start","n"] (aU 13 22) "readinto" "BytesIO.readinto" 170 2 2 3 620 .none "io" 325++(aN 301 623 ["self","buffer"] (aU 13 23) "readinto1" "BytesIO.readinto1" 184 2 2 3 628 .none "io" 325++([eZ #[(.int (-1) 632)]]++(aN 309 633 ["self","size"] (aU 13 24) "readline" "BytesIO.readline" 187 2 2 3 638 (.ref 308) "io" 325++([eZ #[.none]]++(aN 317 641 ["self","size"] (aU 13 25) "readlines" "BytesIO.readlines" 194 2 2 3 646 (.ref 316) "io" 325++(aN 324 649 ["self"] (aU 13 26) "__iter__" "BytesIO.__iter__" 197 1 0 3 653 .none "io" 325++(aN 331 656 ["self","line"] (aU 13 27) "__next__" "BytesIO.__next__" 200 1 0 3 661 .none "io" 325++(aN 338 664 ["self","b","n","start"] (aU 13 28) "write" "BytesIO.write" 207 2 2 3 671 .none "io" 325++(aN 345 674 ["self","lines"] (aU 13 29) "writelines" "BytesIO.writelines" 223 2 2 3 679 .none "io" 325++(aN 352 682 ["self"] (aU 13 30) "__repr__" "BytesIO.__repr__" 226 1 0 3 686 .none "io" 325++([eZ #[(.str "__buf" 689),(.str "__pos" 690)],
⟨(.type "dict"),none,(.dict (dK P [bQ "__module__" 440 "_io" 445,bF "__firstlineno__" 444 (.int 58 443),am "__init__" 454 148,am "_BytesIO__check" 461 155,am "_BytesIO__line" 472 162,am "closed" 480 170,am "close" 487 177,am "__enter__" 494 184,am "__exit__" 502 191,am "readable" 509 198,am "writable" 516 205,am "seekable" 523 212,am "isatty" 530 219,am "flush" 537 226,am "fileno" 544 233,am "detach" 551 240,am "getvalue" 558 247,am "getbuffer" 565 254,am "tell" 572 261,am "seek" 582 269,am "truncate" 590 277,am "read" 602 285,am "read1" 612 293,am "readinto" 622 300,am "readinto1" 630 307,am "readline" 640 315,am "readlines" 648 323,am "__iter__" 655 330,am "__next__" 663 337,am "write" 673 344,am "writelines" 681 351,am "__repr__" 688 358,am "__static_attributes__" 691 359,cu "__doc__" 692]) 2),#[]⟩,
⟨(.type "type"),none,(.cls ⟨"BytesIO",[(.ref 119)],[(.ref 361),(.ref 119),(.ref 104),(.type "object")],360,"BytesIO",true,[],[],false,none,false⟩),#[(some (.ref 134)),none,(some (.str "BytesIO" 433)),(some (.str "BytesIO" 441)),(some .none),(some (.bool true))]⟩,
bM "super" #[(.ref 361),(.ref 361),(.ref 361)],
bM "builtin_function_or_method" #[(.builtin "object.__init_subclass__"),(.ref 361)]]))))))))))))))))))))))))))))))))))))))
noncomputable def ch4(P:Params):List Obj:=Kp P
def Zd(P:Params):Obj:=⟨(.type "dict"),none,(.dict (dK P [bQ "__name__" 165 "io" 325,cu "__doc__" 166,cu "__package__" 167,cP "__loader__" 168 "__main__.__loader__#opaque",cu "__spec__" 169,am "__annotations__" 170 6,am "__builtins__" 171 4,bQ "__file__" 173 "/claim/cut.py" 172,cu "__cached__" 174,bF "deque" 272 (.type "collections.deque"),am "_wall" 285 39,am "func_std_string" 295 46,am "add_func_stats" 313 53,am "add_callers" 324 60,am "_whence" 334 67,am "_index" 342 74,am "UnsupportedOperation" 364 84,am "IOBase" 396 104,am "BufferedIOBase" 414 119,am "TextIOBase" 432 131,am "BytesIO" 694 361]) 21),#[]⟩
def TY(P:Params):Obj:=nG (NR.take 33).toArray
noncomputable def NV(P:Params):Obj:=⟨(.type "type"),none,(.cls ⟨"BufferedIOBase",[(.ref 104)],[(.ref 119),(.ref 104),(.type "object")],118,"BufferedIOBase",true,[],[(.ref 361)],false,none,false⟩),#[(some (.ref 110)),none,(some (.str "BufferedIOBase" 397)),(some (.str "BufferedIOBase" 405)),(some .none),(some (.bool true))]⟩
def tr4(P:Params):BT:=gw 134 (ch4 P) ((((tr3 P).set 3 λ_=>Zd P).set 30 λ_=>TY P).set 119 λ_=>NV P)
def st4(w:World)(os:OsState):SharedT:=⟨tr4 w.params,364,{},#[],{},695,os⟩
noncomputable def VC:Pos:=⟨58,0,227,17⟩
def Ub:List Stmt:=((behindTheImports br).drop 12).take 1
def lh4:World->OsState->Option (Flow×SharedT×Code×Pos):=λw os=>segRunT treeTable br w 29 (some (.ref 6)) 1 1278 (st3 w os) (piecesOf Ub mU fS VD [topFrame kV])
def rh4:World->OsState->Option (Flow×SharedT×Code×Pos):=λw os=>some (Flow.next,st4 w os,fS,VC)
def Ko(P:Params):List Obj:=[eZ #[(.ref 131)],bM "builtin_function_or_method" #[(.builtin "type.__prepare__"),(.type "type")],⟨(.type "dict"),none,(.dict (dK P [bQ "__module__" 702 "_io" 707,bQ "__qualname__" 704 "StringIO" 703,bF "__firstlineno__" 706 (.int 228 705),am "__init__" 719 378,am "_StringIO__translated" 728 385,am "_StringIO__check" 735 392,am "_StringIO__check_dot" 742 399,am "_StringIO__line" 757 406,am "closed" 765 414,am "line_buffering" 773 422,am "newlines" 781 430,am "encoding" 789 438,am "errors" 797 446,am "close" 804 453,am "__enter__" 811 460,am "__exit__" 819 467,am "readable" 826 474,am "writable" 833 481,am "seekable" 840 488,am "isatty" 847 495,am "flush" 854 502,am "fileno" 861 509,am "detach" 868 516,am "getvalue" 875 523,am "tell" 882 530,am "seek" 892 538,am "truncate" 900 546,am "read" 912 554,am "readline" 922 562,am "readlines" 932 570,am "__iter__" 939 577,am "__next__" 947 584,am "write" 959 591,am "writelines" 967 598,am "__repr__" 974 605,am "__static_attributes__" 978 606]) 36),#[]⟩,gG,nG #[(.int 231 0),(.int 4 0),(.ref 377),(.int 244 0),(.int 4 0),(.ref 384),(.int 252 0),(.int 4 0),(.ref 391),(.int 256 0),(.int 4 0),(.ref 398),(.int 260 0),(.int 4 0),(.ref 405),(.int 293 0),(.int 4 0),(.ref 412),(.int 297 0),(.int 4 0),(.ref 420),(.int 301 0),(.int 4 0),(.ref 428),(.int 305 0),(.int 4 0),(.ref 436),(.int 309 0),(.int 4 0),(.ref 444),(.int 312 0),(.int 4 0),(.ref 452),(.int 315 0),(.int 4 0),(.ref 459),(.int 319 0),(.int 4 0),(.ref 466),(.int 322 0),(.int 4 0),(.ref 473),(.int 326 0),(.int 4 0),(.ref 480),(.int 330 0),(.int 4 0),(.ref 487),(.int 334 0),(.int 4 0),(.ref 494),(.int 338 0),(.int 4 0),(.ref 501),(.int 341 0),(.int 4 0),(.ref 508),(.int 344 0),(.int 4 0),(.ref 515),(.int 347 0),(.int 4 0),(.ref 522),(.int 350 0),(.int 4 0),(.ref 529),(.int 354 0),(.int 4 0),(.ref 537),(.int 371 0),(.int 4 0),(.ref 545),(.int 374 0),(.int 4 0),(.ref 553),(.int 388 0),(.int 4 0),(.ref 561),(.int 395 0),(.int 4 0),(.ref 569),(.int 398 0),(.int 4 0),(.ref 576),(.int 402 0),(.int 4 0),(.ref 583),(.int 409 0),(.int 4 0),(.ref 590),(.int 428 0),(.int 4 0),(.ref 597),(.int 431 0),(.int 4 0),(.ref 604)],bM "code" #[(.str "StringIO" 697),(.str "StringIO" 698),(.str "/claim/cut.py" 699),(.int 228 0),(.int 0 0),(.int 0 0),(.int 0 0),(.int 0 0),(.ref 367),(.bool false),(.int 273 0),(.ref 368),.none,.none,.none,.none,(.int 700 0),(.int 228 0),(.str "/claim/cut.py" 701)],⟨(.type "frame"),none,.plain,#[(some (.ref 369)),(some (.ref 3)),(some (.ref 366)),none,(some (.str "io" 325)),none,(some (.ref 0))]⟩,eZ #[(.str "" 709),(.str "\n" 710)]]++(aN 372 711 ["self","initial_value","newline"] (aU 14 1) "__init__" "StringIO.__init__" 231 3 0 3 717 (.ref 371) "io" 325++(aN 379 720 ["self","s","newline"] (aU 14 2) "__translated" "StringIO.__translated" 244 2 0 3 726 .none "io" 325++(aN 386 729 ["self"] (aU 14 3) "__check" "StringIO.__check" 252 1 0 3 733 .none "io" 325++(aN 393 736 ["self"] (aU 14 4) "__check_dot" "StringIO.__check_dot" 256 1 0 3 740 .none "io" 325++(aN 400 743 ["self","limit","start","stop","cut","newline","i","j","end"] (aU 14 5) "__line" "StringIO.__line" 260 2 0 3 755 .none "io" 325++(aN 407 758 ["self"] (aU 14 6) "closed" "StringIO.closed" 292 1 0 3 762 .none "io" 325++([bM "property" #[(.ref 413),.none,.none,.none,(.str "closed" 765),(.bool false)]]++(aN 415 766 ["self"] (aU 14 7) "line_buffering" "StringIO.line_buffering" 296 1 0 3 770 .none "io" 325++([bM "property" #[(.ref 421),.none,.none,.none,(.str "line_buffering" 773),(.bool false)]]++(aN 423 774 ["self"] (aU 14 8) "newlines" "StringIO.newlines" 300 1 0 3 778 .none "io" 325++([bM "property" #[(.ref 429),.none,.none,.none,(.str "newlines" 781),(.bool false)]]++(aN 431 782 ["self"] (aU 14 9) "encoding" "StringIO.encoding" 304 1 0 3 786 .none "io" 325++([bM "property" #[(.ref 437),.none,.none,.none,(.str "encoding" 789),(.bool false)]]++(aN 439 790 ["self"] (aU 14 10) "errors" "StringIO.errors" 308 1 0 3 794 .none "io" 325++([bM "property" #[(.ref 445),.none,.none,.none,(.str "errors" 797),(.bool false)]]++(aN 447 798 ["self"] (aU 14 11) "close" "StringIO.close" 312 1 0 3 802 .none "io" 325++(aN 454 805 ["self"] (aU 14 12) "__enter__" "StringIO.__enter__" 315 1 0 3 809 .none "io" 325++(aN 461 812 ["self","args"] (aU 14 13) "__exit__" "StringIO.__exit__" 319 1 0 7 817 .none "io" 325++(aN 468 820 ["self"] (aU 14 14) "readable" "StringIO.readable" 322 1 0 3 824 .none "io" 325++(aN 475 827 ["self"] (aU 14 15) "writable" "StringIO.writable" 326 1 0 3 831 .none "io" 325++(aN 482 834 ["self"] (aU 14 16) "seekable" "StringIO.seekable" 330 1 0 3 838 .none "io" 325++(aN 489 841 ["self"] (aU 14 17) "isatty" "StringIO.isatty" 334 1 0 3 845 .none "io" 325++(aN 496 848 ["self"] (aU 14 18) "flush" "StringIO.flush" 338 1 0 3 852 .none "io" 325++(aN 503 855 ["self"] (aU 14 19) "fileno" "StringIO.fileno" 341 1 0 3 859 .none "io" 325++(aN 510 862 ["self"] (aU 14 20) "detach" "StringIO.detach" 344 1 0 3 866 .none "io" 325++(aN 517 869 ["self"] (aU 14 21) "getvalue" "StringIO.getvalue" 347 1 0 3 873 .none "io" 325++(aN 524 876 ["self"] (aU 14 22) "tell" "StringIO.tell" 350 1 0 3 880 .none "io" 325++([eZ #[(.int 0 883)]]++(aN 532 884 ["self","pos","whence"] (aU 14 23) "seek" "StringIO.seek" 354 3 3 3 890 (.ref 531) "io" 325++([eZ #[.none]]++(aN 540 893 ["self","pos"] (aU 14 24) "truncate" "StringIO.truncate" 371 2 2 3 898 (.ref 539) "io" 325++([eZ #[(.int (-1) 902)]]++(aN 548 903 ["self","size","start","stop"] (aU 14 25) "read" "StringIO.read" 374 2 2 3 910 (.ref 547) "io" 325++([eZ #[(.int (-1) 914)]]++(aN 556 915 ["self","size"] (aU 14 26) "readline" "StringIO.readline" 388 2 2 3 920 (.ref 555) "io" 325++([eZ #[(.int (-1) 924)]]++(aN 564 925 ["self","hint"] (aU 14 27) "readlines" "StringIO.readlines" 395 2 2 3 930 (.ref 563) "io" 325++(aN 571 933 ["self"] (aU 14 28) "__iter__" "StringIO.__iter__" 398 1 0 3 937 .none "io" 325++(aN 578 940 ["self","line"] (aU 14 29) "__next__" "StringIO.__next__" 402 1 0 3 945 .none "io" 325++(aN 585 948 ["self","s","n","m","start","buf"] (aU 14 30) "write" "StringIO.write" 409 2 2 3 957 .none "io" 325++(aN 592 960 ["self","lines"] (aU 14 31) "writelines" "StringIO.writelines" 428 2 2 3 965 .none "io" 325++(aN 599 968 ["self"] (aU 14 32) "__repr__" "StringIO.__repr__" 431 1 0 3 972 .none "io" 325++([eZ #[(.str "__buf" 975),(.str "__newline" 976),(.str "__pos" 977)],
⟨(.type "dict"),none,(.dict (dK P [bQ "__module__" 702 "_io" 707,bF "__firstlineno__" 706 (.int 228 705),am "__init__" 719 378,am "_StringIO__translated" 728 385,am "_StringIO__check" 735 392,am "_StringIO__check_dot" 742 399,am "_StringIO__line" 757 406,am "closed" 765 414,am "line_buffering" 773 422,am "newlines" 781 430,am "encoding" 789 438,am "errors" 797 446,am "close" 804 453,am "__enter__" 811 460,am "__exit__" 819 467,am "readable" 826 474,am "writable" 833 481,am "seekable" 840 488,am "isatty" 847 495,am "flush" 854 502,am "fileno" 861 509,am "detach" 868 516,am "getvalue" 875 523,am "tell" 882 530,am "seek" 892 538,am "truncate" 900 546,am "read" 912 554,am "readline" 922 562,am "readlines" 932 570,am "__iter__" 939 577,am "__next__" 947 584,am "write" 959 591,am "writelines" 967 598,am "__repr__" 974 605,am "__static_attributes__" 978 606,cu "__doc__" 979]) 2),#[]⟩,
⟨(.type "type"),none,(.cls ⟨"StringIO",[(.ref 131)],[(.ref 608),(.ref 131),(.ref 104),(.type "object")],607,"StringIO",true,[],[],false,none,false⟩),#[(some (.ref 364)),none,(some (.str "StringIO" 695)),(some (.str "StringIO" 703)),(some .none),(some (.bool true))]⟩,
bM "super" #[(.ref 608),(.ref 608),(.ref 608)],
bM "builtin_function_or_method" #[(.builtin "object.__init_subclass__"),(.ref 608)]])))))))))))))))))))))))))))))))))))))))))))
noncomputable def ch5(P:Params):List Obj:=Ko P
def Zc(P:Params):Obj:=⟨(.type "dict"),none,(.dict (dK P [bQ "__name__" 165 "io" 325,cu "__doc__" 166,cu "__package__" 167,cP "__loader__" 168 "__main__.__loader__#opaque",cu "__spec__" 169,am "__annotations__" 170 6,am "__builtins__" 171 4,bQ "__file__" 173 "/claim/cut.py" 172,cu "__cached__" 174,bF "deque" 272 (.type "collections.deque"),am "_wall" 285 39,am "func_std_string" 295 46,am "add_func_stats" 313 53,am "add_callers" 324 60,am "_whence" 334 67,am "_index" 342 74,am "UnsupportedOperation" 364 84,am "IOBase" 396 104,am "BufferedIOBase" 414 119,am "TextIOBase" 432 131,am "BytesIO" 694 361,am "StringIO" 981 608]) 22),#[]⟩
def TX(P:Params):Obj:=nG (NR.take 36).toArray
noncomputable def NU(P:Params):Obj:=⟨(.type "type"),none,(.cls ⟨"TextIOBase",[(.ref 104)],[(.ref 131),(.ref 104),(.type "object")],130,"TextIOBase",true,[],[(.ref 608)],false,none,false⟩),#[(some (.ref 122)),none,(some (.str "TextIOBase" 415)),(some (.str "TextIOBase" 423)),(some .none),(some (.bool true))]⟩
def tr5(P:Params):BT:=gw 364 (ch5 P) ((((tr4 P).set 3 λ_=>Zc P).set 30 λ_=>TX P).set 131 λ_=>NU P)
def st5(w:World)(os:OsState):SharedT:=⟨tr5 w.params,611,{},#[],{},982,os⟩
noncomputable def VB:Pos:=⟨228,0,432,17⟩
def Ua:List Stmt:=((behindTheImports br).drop 13).take 1
def lh5:World->OsState->Option (Flow×SharedT×Code×Pos):=λw os=>segRunT treeTable br w 29 (some (.ref 6)) 1 1578 (st4 w os) (piecesOf Ua mU fS VC [topFrame kV])
def rh5:World->OsState->Option (Flow×SharedT×Code×Pos):=λw os=>some (Flow.next,st5 w os,fS,VB)
def Kn(P:Params):List Obj:=aN 611 984 ["name","x","t"] (cL 16) "_kind" "_kind" 434 2 0 3 990 .none "os.path" 982++(aN 618 993 ["name","x","k"] (cL 17) "_fspath" "_fspath" 455 2 0 3 999 .none "os.path" 982++(aN 625 1002 ["funcname","args","s","k"] (cL 18) "_check_arg_types" "_check_arg_types" 460 1 0 7 1009 .none "os.path" 982++(aN 632 1012 ["s"] (cL 19) "isabs" "isabs" 465 1 0 3 1016 .none "os.path" 982++(aN 639 1019 ["a","p","b","sep","path"] (cL 20) "join" "join" 468 1 0 7 1027 .none "os.path" 982++(aN 646 1030 ["p","sep","i","head"] (cL 21) "dirname" "dirname" 488 1 0 3 1037 .none "os.path" 982)))))
noncomputable def ch6(P:Params):List Obj:=Kn P
def Zb(P:Params):Obj:=⟨(.type "dict"),none,(.dict (dK P [bQ "__name__" 165 "cpy313.shlex" 1040,cu "__doc__" 166,cu "__package__" 167,cP "__loader__" 168 "__main__.__loader__#opaque",cu "__spec__" 169,am "__annotations__" 170 6,am "__builtins__" 171 4,bQ "__file__" 173 "/claim/cut.py" 172,cu "__cached__" 174,bF "deque" 272 (.type "collections.deque"),am "_wall" 285 39,am "func_std_string" 295 46,am "add_func_stats" 313 53,am "add_callers" 324 60,am "_whence" 334 67,am "_index" 342 74,am "UnsupportedOperation" 364 84,am "IOBase" 396 104,am "BufferedIOBase" 414 119,am "TextIOBase" 432 131,am "BytesIO" 694 361,am "StringIO" 981 608,am "_kind" 992 617,am "_fspath" 1001 624,am "_check_arg_types" 1011 631,am "isabs" 1018 638,am "join" 1029 645,am "dirname" 1039 652]) 28),#[]⟩
def TW(P:Params):Obj:=nG (NR.take 54).toArray
def tr6(P:Params):BT:=gw 611 (ch6 P) (((tr5 P).set 3 λ_=>Zb P).set 30 λ_=>TW P)
def st6(w:World)(os:OsState):SharedT:=⟨tr6 w.params,653,{},#[],{},1042,os⟩
noncomputable def VA:Pos:=⟨496,0,496,8⟩
def T9:List Stmt:=((behindTheImports br).drop 14).take 8
def lh6:World->OsState->Option (Flow×SharedT×Code×Pos):=λw os=>segRunT treeTable br w 29 (some (.ref 6)) 1 207 (st5 w os) (piecesOf T9 mU fS VB [topFrame kV])
def rh6:World->OsState->Option (Flow×SharedT×Code×Pos):=λw os=>some (Flow.next,st6 w os,fS,VA)
def Km(P:Params):List Obj:=[gG,bM "builtin_function_or_method" #[(.builtin "type.__prepare__"),(.type "type")],⟨(.type "dict"),none,(.dict (dK P [bQ "__module__" 1049 "cpy313.shlex" 1040,bQ "__qualname__" 1051 "shlex" 1050,bF "__firstlineno__" 1053 (.int 497 1052),am "__init__" 1065 667,am "punctuation_chars" 1073 675,am "push_token" 1081 682,am "push_source" 1090 690,am "pop_source" 1097 697,am "get_token" 1109 704,am "read_token" 1120 711,am "sourcehook" 1128 718,am "error_leader" 1137 726,am "__iter__" 1144 733,am "__next__" 1152 740,am "__static_attributes__" 1173 741]) 15),#[]⟩,gG,nG #[(.int 499 0),(.int 4 0),(.ref 666),(.int 541 0),(.int 4 0),(.ref 673),(.int 544 0),(.int 4 0),(.ref 681),(.int 547 0),(.int 4 0),(.ref 689),(.int 560 0),(.int 4 0),(.ref 696),(.int 567 0),(.int 4 0),(.ref 703),(.int 594 0),(.int 4 0),(.ref 710),(.int 731 0),(.int 4 0),(.ref 717),(.int 738 0),(.int 4 0),(.ref 725),(.int 741 0),(.int 4 0),(.ref 732),(.int 744 0),(.int 4 0),(.ref 739)],bM "code" #[(.str "shlex" 1044),(.str "shlex" 1045),(.str "/claim/cut.py" 1046),(.int 497 0),(.int 0 0),(.int 0 0),(.int 0 0),(.int 0 0),(.ref 656),(.bool false),(.int 273 0),(.ref 657),.none,.none,.none,.none,(.int 1047 0),(.int 497 0),(.str "/claim/cut.py" 1048)],⟨(.type "frame"),none,.plain,#[(some (.ref 658)),(some (.ref 3)),(some (.ref 655)),none,(some (.str "cpy313.shlex" 1040)),none,(some (.ref 0))]⟩,eZ #[.none,.none,(.bool false),(.bool false)]]++(aN 661 1054 ["self","instream","infile","posix","punctuation_chars","t"] (aU 23 0) "__init__" "shlex.__init__" 499 5 0 3 1063 (.ref 660) "cpy313.shlex" 1040++(aN 668 1066 ["self"] (aU 23 1) "punctuation_chars" "shlex.punctuation_chars" 540 1 0 3 1070 .none "cpy313.shlex" 1040++([bM "property" #[(.ref 674),.none,.none,.none,(.str "punctuation_chars" 1073),(.bool false)]]++(aN 676 1074 ["self","tok"] (aU 23 2) "push_token" "shlex.push_token" 544 2 0 3 1079 .none "cpy313.shlex" 1040++([eZ #[.none]]++(aN 684 1082 ["self","newstream","newfile"] (aU 23 3) "push_source" "shlex.push_source" 547 3 0 3 1088 (.ref 683) "cpy313.shlex" 1040++(aN 691 1091 ["self"] (aU 23 4) "pop_source" "shlex.pop_source" 560 1 0 3 1095 .none "cpy313.shlex" 1040++(aN 698 1098 ["self","tok","raw","spec","newfile","newstream"] (aU 23 5) "get_token" "shlex.get_token" 567 1 0 3 1107 .none "cpy313.shlex" 1040++(aN 705 1110 ["self","quoted","escapedstate","nextchar","result"] (aU 23 6) "read_token" "shlex.read_token" 594 1 0 3 1118 .none "cpy313.shlex" 1040++(aN 712 1121 ["self","newfile"] (aU 23 7) "sourcehook" "shlex.sourcehook" 731 2 0 3 1126 .none "cpy313.shlex" 1040++([eZ #[.none,.none]]++(aN 720 1129 ["self","infile","lineno"] (aU 23 8) "error_leader" "shlex.error_leader" 738 3 0 3 1135 (.ref 719) "cpy313.shlex" 1040++(aN 727 1138 ["self"] (aU 23 9) "__iter__" "shlex.__iter__" 741 1 0 3 1142 .none "cpy313.shlex" 1040++(aN 734 1145 ["self","token"] (aU 23 10) "__next__" "shlex.__next__" 744 1 0 3 1150 .none "cpy313.shlex" 1040++([eZ #[(.str "_punctuation_chars" 1153),(.str "_pushback_chars" 1154),(.str "commenters" 1155),(.str "debug" 1156),(.str "eof" 1157),(.str "escape" 1158),(.str "escapedquotes" 1159),(.str "filestack" 1160),(.str "infile" 1161),(.str "instream" 1162),(.str "lineno" 1163),(.str "posix" 1164),(.str "pushback" 1165),(.str "quotes" 1166),(.str "source" 1167),(.str "state" 1168),(.str "token" 1169),(.str "whitespace" 1170),(.str "whitespace_split" 1171),(.str "wordchars" 1172)],
⟨(.type "dict"),none,(.dict (dK P [bQ "__module__" 1049 "cpy313.shlex" 1040,bF "__firstlineno__" 1053 (.int 497 1052),am "__init__" 1065 667,am "punctuation_chars" 1073 675,am "push_token" 1081 682,am "push_source" 1090 690,am "pop_source" 1097 697,am "get_token" 1109 704,am "read_token" 1120 711,am "sourcehook" 1128 718,am "error_leader" 1137 726,am "__iter__" 1144 733,am "__next__" 1152 740,am "__static_attributes__" 1173 741,am "__dict__" 1175 744,am "__weakref__" 1177 745,cu "__doc__" 1178]) 4),#[]⟩,
⟨(.type "type"),none,(.cls ⟨"shlex",[(.type "object")],[(.ref 743),(.type "object")],742,"shlex",true,[],[],false,none,false⟩),#[none,none,(some (.str "shlex" 1042)),(some (.str "shlex" 1050)),(some (.builtin "object.__new__")),(some (.bool true))]⟩,
bM "getset_descriptor" #[(.str "__dict__" 1174),(.ref 743),(.builtin "function.__dict__"),(.builtin "function.__dict__#set")],
bM "getset_descriptor" #[(.str "__weakref__" 1176),(.ref 743),(.builtin "ExceptionGroup.__weakref__"),.none],
bM "super" #[(.ref 743),(.ref 743),(.ref 743)],
bM "builtin_function_or_method" #[(.builtin "object.__init_subclass__"),(.ref 743)]])))))))))))))))
noncomputable def ch7(P:Params):List Obj:=Km P
def Za(P:Params):Obj:=⟨(.type "dict"),none,(.dict (dK P [bQ "__name__" 165 "cpy313.shlex" 1040,cu "__doc__" 166,cu "__package__" 167,cP "__loader__" 168 "__main__.__loader__#opaque",cu "__spec__" 169,am "__annotations__" 170 6,am "__builtins__" 171 4,bQ "__file__" 173 "/claim/cut.py" 172,cu "__cached__" 174,bF "deque" 272 (.type "collections.deque"),am "_wall" 285 39,am "func_std_string" 295 46,am "add_func_stats" 313 53,am "add_callers" 324 60,am "_whence" 334 67,am "_index" 342 74,am "UnsupportedOperation" 364 84,am "IOBase" 396 104,am "BufferedIOBase" 414 119,am "TextIOBase" 432 131,am "BytesIO" 694 361,am "StringIO" 981 608,am "_kind" 992 617,am "_fspath" 1001 624,am "_check_arg_types" 1011 631,am "isabs" 1018 638,am "join" 1029 645,am "dirname" 1039 652,am "shlex" 1180 743]) 29),#[]⟩
def TV(P:Params):Obj:=nG (NR.take 57).toArray
def tr7(P:Params):BT:=gw 653 (ch7 P) (((tr6 P).set 3 λ_=>Za P).set 30 λ_=>TV P)
def st7(w:World)(os:OsState):SharedT:=⟨tr7 w.params,748,{},#[],{},1181,os⟩
noncomputable def Vz:Pos:=⟨497,0,748,20⟩
def T8:List Stmt:=((behindTheImports br).drop 22).take 1
def lh7:World->OsState->Option (Flow×SharedT×Code×Pos):=λw os=>segRunT treeTable br w 29 (some (.ref 6)) 1 633 (st6 w os) (piecesOf T8 mU fS VA [topFrame kV])
def rh7:World->OsState->Option (Flow×SharedT×Code×Pos):=λw os=>some (Flow.next,st7 w os,fS,Vz)
def Kl(P:Params):List Obj:=aN 748 1183 ["lasting","piece","white"] (cL 25) "_law_put" "_law_put" 750 3 0 3 1189 .none "law_nq0206_01" 1181++(aN 755 1192 ["lasting","white","file","line","text","place"] (cL 26) "_law_shut" "_law_shut" 754 2 0 3 1201 .none "law_nq0206_01" 1181++(aN 762 1204 ["script","files","lasting","calls","x","kind","white","cost","name"] (cL 27) "_law_run" "_law_run" 757 1 0 3 1216 .none "law_nq0206_01" 1181++(aN 769 1219 ["text","lexer","marks","token"] (cL 28) "_law_marks" "_law_marks" 774 1 0 3 1226 .none "law_nq0206_01" 1181++([gG,qK,⟨.none,none,(.func (nH (cL 29) "_law_ended" "_law_ended" 0 [] .none .none .none .none none .none .none 0)),#[]⟩,bM "code" #[(.str "_law_ended" 1229),(.str "_law_ended" 1230),(.str "/claim/cut.py" 1231),(.int 781 0),(.int 2 0),(.int 0 0),(.int 0 0),(.int 3 0),(.ref 776),(.bool true),(.int 273 0),(.ref 777),.none,.none,.none,(.ref 778),(.int 1232 0),(.int 781 0),(.str "/claim/cut.py" 1233)],⟨(.type "function"),none,(.func (nH (cL 29) "_law_ended" "_law_ended" 3 [] .none .none .none (.str "law_nq0206_01" 1181) none (.ref 779) .none 0)),#[]⟩]++(aN 781 1235 ["marks","tables","lasting","k","name","cost"] (cL 30) "_law_summed" "_law_summed" 790 1 0 3 1244 .none "law_nq0206_01" 1181++([gG,qK,⟨.none,none,(.func (nH (cL 31) "_law_joined" "_law_joined" 0 [] .none .none .none .none none .none .none 0)),#[]⟩,bM "code" #[(.str "_law_joined" 1247),(.str "_law_joined" 1248),(.str "/claim/cut.py" 1249),(.int 809 0),(.int 2 0),(.int 0 0),(.int 0 0),(.int 3 0),(.ref 788),(.bool true),(.int 273 0),(.ref 789),.none,.none,.none,(.ref 790),(.int 1250 0),(.int 809 0),(.str "/claim/cut.py" 1251)],⟨(.type "function"),none,(.func (nH (cL 31) "_law_joined" "_law_joined" 3 [] .none .none .none (.str "law_nq0206_01" 1181) none (.ref 791) .none 0)),#[]⟩,gG,qK,⟨.none,none,(.func (nH (cL 32) "_law_figures" "_law_figures" 0 [] .none .none .none .none none .none .none 0)),#[]⟩,bM "code" #[(.str "_law_figures" 1253),(.str "_law_figures" 1254),(.str "/claim/cut.py" 1255),(.int 814 0),(.int 4 0),(.int 0 0),(.int 0 0),(.int 3 0),(.ref 793),(.bool true),(.int 273 0),(.ref 794),.none,.none,.none,(.ref 795),(.int 1256 0),(.int 814 0),(.str "/claim/cut.py" 1257)],⟨(.type "function"),none,(.func (nH (cL 32) "_law_figures" "_law_figures" 3 [] .none .none .none (.str "law_nq0206_01" 1181) none (.ref 796) .none 0)),#[]⟩,gG,qK,⟨.none,none,(.func (nH (cL 33) "_law_due" "_law_due" 0 [] .none .none .none .none none .none .none 0)),#[]⟩,bM "code" #[(.str "_law_due" 1259),(.str "_law_due" 1260),(.str "/claim/cut.py" 1261),(.int 817 0),(.int 1 0),(.int 0 0),(.int 0 0),(.int 3 0),(.ref 798),(.bool true),(.int 273 0),(.ref 799),.none,.none,.none,(.ref 800),(.int 1262 0),(.int 817 0),(.str "/claim/cut.py" 1263)],⟨(.type "function"),none,(.func (nH (cL 33) "_law_due" "_law_due" 3 [] .none .none .none (.str "law_nq0206_01" 1181) none (.ref 801) .none 0)),#[]⟩]++(aN 803 1265 ["script","written","halves","asked"] (cL 34) "law" "law" 835 1 0 3 1272 .none "law_nq0206_01" 1181)))))))
noncomputable def ch8(P:Params):List Obj:=Kl P
def Y9(P:Params):Obj:=⟨(.type "dict"),none,(.dict (dK P [bQ "__name__" 165 "law_nq0206_01" 1181,cu "__doc__" 166,cu "__package__" 167,cP "__loader__" 168 "__main__.__loader__#opaque",cu "__spec__" 169,am "__annotations__" 170 6,am "__builtins__" 171 4,bQ "__file__" 173 "/claim/cut.py" 172,cu "__cached__" 174,bF "deque" 272 (.type "collections.deque"),am "_wall" 285 39,am "func_std_string" 295 46,am "add_func_stats" 313 53,am "add_callers" 324 60,am "_whence" 334 67,am "_index" 342 74,am "UnsupportedOperation" 364 84,am "IOBase" 396 104,am "BufferedIOBase" 414 119,am "TextIOBase" 432 131,am "BytesIO" 694 361,am "StringIO" 981 608,am "_kind" 992 617,am "_fspath" 1001 624,am "_check_arg_types" 1011 631,am "isabs" 1018 638,am "join" 1029 645,am "dirname" 1039 652,am "shlex" 1180 743,am "_law_put" 1191 754,am "_law_shut" 1203 761,am "_law_run" 1218 768,am "_law_marks" 1228 775,am "_law_ended" 1234 780,am "_law_summed" 1246 787,am "_law_joined" 1252 792,am "_law_figures" 1258 797,am "_law_due" 1264 802,am "law" 1274 809]) 39),#[]⟩
def TU(P:Params):Obj:=nG (NR.take 87).toArray
def zy(P:Params):BT:=gw 748 (ch8 P) (((tr7 P).set 3 λ_=>Y9 P).set 30 λ_=>TU P)
def Mr(w:World)(os:OsState):SharedT:=⟨zy w.params,810,{},#[],{},1275,os⟩
noncomputable def Vy:Pos:=⟨835,0,839,100⟩
def T7:List Stmt:=((behindTheImports br).drop 23).take 12
def lh8:World->OsState->Option (Flow×SharedT×Code×Pos):=λw os=>segRunT treeTable br w 29 (some (.ref 6)) 1 314 (st7 w os) (piecesOf T7 mU fS Vz [topFrame kV])
def rh8:World->OsState->Option (Flow×SharedT×Code×Pos):=λw os=>some (Flow.next,Mr w os,fS,Vy)
theorem VJ:(λw:World=>(fencedOpening treeTable br w 12000).map (λs=>(s.heap,s.gens,s.drawn,s.toks)))=λw=>some (absHeap (xp w.params) 29 {},#[],{},273):=by kernel_rfl
theorem go0:(λ(w:World)(os:OsState)=>topGo treeTable br w 29 (some (.ref 6)) 12 (Yu w os).abs (topStub br))=λw os=>some ((To w os).abs,⟨denote treeTable fS,fS,Vx,[topFrame kV]⟩):=by kernel_rfl
theorem a0E:(λ(w:World)(os:OsState)=>segRunT treeTable br w 29 (some (.ref 6)) 1 1 (To w os) (blockOf (behindTheImports br) mU fS Vx [topFrame kV]))=λw os=>some (Flow.next,To w os,fS,VF):=by kernel_rfl
theorem W1:(λ(w:World)(os:OsState)=>topRun treeTable br w 29 (some (.ref 6)) 2 (Mr w os).abs ⟨doneF .next,fS,Vy,[topFrame kV]⟩)=λw os=>some (Mr w os).abs:=by kernel_rfl
theorem Um:(λw:World=>((absHeap (xp w.params) 29 {}).isNs mainGlobals&&(#[]:Array GenState).size==0,(absHeap (xp w.params) 29 {}).objs.size,(absHeap (xp w.params) 29 {}).nsMap mainGlobals "__annotations__"))=λw=>(true,29,some (.ref 6)):=by kernel_rfl
theorem pc2:lh2=rh2:=by kernel_rfl
theorem pc3:lh3=rh3:=by kernel_rfl
theorem pc4:lh4=rh4:=by kernel_rfl
theorem pc5:lh5=rh5:=by kernel_rfl
theorem pc6:lh6=rh6:=by kernel_rfl
theorem pc7:lh7=rh7:=by kernel_rfl
theorem pc8:lh8=rh8:=by kernel_rfl
def qL:Program:={br with main:={br.main with body:=br.main.body.drop 34}}
noncomputable def g8:List Str:=["deque","_wall","func_std_string","add_func_stats","add_callers","_whence","_index","UnsupportedOperation","IOBase","BufferedIOBase","TextIOBase","BytesIO","StringIO","_kind","_fspath","_check_arg_types","isabs","join","dirname","shlex","_law_put","_law_shut","_law_run","_law_marks","_law_ended","_law_summed","_law_joined","_law_figures","_law_due"]
theorem Wf:(λ(w:World)(os:OsState)=>openSeen qL g8 (importedModules br.main.body) (λ_=>true) true (Mr w os).abs)=λw os=>openGood qL g8:=by kernel_rfl
theorem a0D:behindTheImports br=Ud++(Uc++(Ub++(Ua++(T9++(T8++(T7++[])))))):=by kernel_rfl
theorem og{n:Nat}{s s':SharedT}{w:World}{l:List Stmt}{p p':Pos}(h:segRunT treeTable br w 29 (some (.ref 6)) 1 n s (piecesOf l mU fS p [topFrame kV])=some (Flow.next,s',fS,p')){N:Nat}{r:Shared}{rest:List Stmt}(k:topRun treeTable br w 29 (some (.ref 6)) N s'.abs (restOf rest mU fS p' [topFrame kV])=some r):topRun treeTable br w 29 (some (.ref 6)) (n+N) s.abs (restOf (l++rest) mU fS p [topFrame kV])=some r:=piece_app (segRun_of h) k
theorem Zt(w:World)(os:OsState):topRun treeTable br w 29 (some (.ref 6)) (12+(1+(211+(894+(1278+(1578+(207+(633+(314+2))))))))) (Yu w os).abs (topStub br)=some (Mr w os).abs:=by refine go_top (q1j (q1j go0 w) os) (piece_block (segRun_of (q1j (q1j a0E w) os)) ?_);rw[a0D];exact og (q1j (q1j pc2 w) os) (og (q1j (q1j pc3 w) os) (og (q1j (q1j pc4 w) os) (og (q1j (q1j pc5 w) os) (og (q1j (q1j pc6 w) os) (og (q1j (q1j pc7 w) os) (og (q1j (q1j pc8 w) os) (piece_nil (q1j (q1j W1 w) os))))))))
def eJ(w:World):Heap:=absHeap (zy w.params) 810 {}
theorem Ui:(λ(w:World)(os:OsState)=>(Yu w os).abs)=λw os=>⟨absHeap (xp w.params) 29 {},#[],{},273,os⟩:=by kernel_rfl
theorem N5(w:World)(os:OsState):(Yu w os).abs=⟨absHeap (xp w.params) 29 {},#[],{},273,os⟩:=q1j (q1j Ui w) os
theorem Uh:(λ(w:World)(os:OsState)=>(Mr w os).abs)=λw os=>⟨eJ w,#[],{},1275,os⟩:=by kernel_rfl
theorem B7(w:World)(os:OsState):(Mr w os).abs=⟨eJ w,#[],{},1275,os⟩:=q1j (q1j Uh w) os
theorem Zs(w:World)(os:OsState):topRun treeTable br w 29 (some (.ref 6)) (12+(1+(211+(894+(1278+(1578+(207+(633+(314+2))))))))) ⟨absHeap (xp w.params) 29 {},#[],{},273,os⟩ (topStub br)=some ⟨eJ w,#[],{},1275,os⟩:=by have h:=Zt w os;rw[N5,B7] at h;exact h
theorem QQ:(λ(w:World)(os:OsState)=>(staticsOk (importedModules br.main.body) (absHeap (xp w.params) 29 {}) (eJ w)&&namesBound br (eJ w)&&gensDone ⟨eJ w,#[],{},1275,os⟩&&laidKept (absHeap (xp w.params) 29 {}) (eJ w)))=λw os=>true:=by kernel_rfl
theorem We(w:World):(λos=>((staticsOk (importedModules br.main.body) (absHeap (xp w.params) 29 {}) (eJ w)&&namesBound br (eJ w)&&gensDone ⟨eJ w,#[],{},1275,os⟩&&laidKept (absHeap (xp w.params) 29 {}) (eJ w)),openSeen qL g8 (importedModules br.main.body) (λ_=>true) true ⟨eJ w,#[],{},1275,os⟩,Shared.heap ⟨eJ w,#[],{},1275,os⟩))=λ_:OsState=>(true,openGood qL g8,eJ w):=by
 funext os;have a:_=true:=q1j (q1j QQ w) os;have b:openSeen qL g8 (importedModules br.main.body) (λ_=>true) true (Mr w os).abs=_:=q1j (q1j Wf w) os;rw[B7] at b;have key:∀{x:Bool}{α:Type}{y z:α}{u:Heap},x=true->y=z->(x,y,u)=(true,z,u):=λh g=>by rw[h,g]
 exact key a b
theorem Wi:LeftO br qL g8 (λ_=>true) Shared.heap eJ 12000 :=@LeftO.of_pieces br qL g8 (λ_=>true) Heap Shared.heap eJ 12000 true (λP=>absHeap (xp P) 29 {}) (λP=>absHeap (zy P) 810 {}) #[] #[] {} {} 273 1275 29 (some (.ref 6)) (12+(1+(211+(894+(1278+(1578+(207+(633+(314+2))))))))) (λw=>q1j VJ w) (λw=>q1j Um w) Zs (by decide +kernel) We
set_option genInjectivity true
set_option genSizeOf true
def wpK{α β:Type}(M:Model)(A:Around)(f:α->Sem β)(Q:β->Shared->Prop)(E:Value->Shared->Prop)(a:α)(s:Shared):Prop:=wpAny M A (f a) Q E s
theorem wb{M:Model}{A:Around}{α β:Type}{m:Sem α}{f:α->Sem β}{Q:β->Shared->Prop}{E:Value->Shared->Prop}{s:Shared}(h:wpAny M A m (wpK M A f Q E) E s):wpAny M A (m>>=f) Q E s:=q1f h
inductive V where
 |none
 |bool (b:Bool)
 |int (i:Int)
 |str (s:Str)
 |tup (vs:List V)
 |ref (n:Nat)
 |top (v:Value)
 |iH (n:Int)
inductive O where
 |list (vs:List V)
 |dict (es:List (Str×V))
 |inst (C:Addr) (fs:List (Option V))
 |d8 (vs:List V)
 |arg (ob:Obj)
noncomputable abbrev cY:=List (Addr×Addr)
noncomputable def k8:Nat:=810
noncomputable def jJ:Value->Bool
 |.builtin _=>true
 |.type _=>true
 |.ref a=>decide (a<k8)
 |_=>false
def zm(h:Heap)(a:Addr)(n:Int):Prop:=∃t u v,IsRange h a 0 n 1 t u v
inductive VR(ρ:cY)(h:Heap):V->Value->Prop
 |none:VR ρ h .none .none
 |bool (b):VR ρ h (.bool b) (.bool b)
 |int (i t):VR ρ h (.int i) (.int i t)
 |str (x t):VR ρ h (.str x) (.str x t)
 |tup' {vs a items}:k8<=a->h.IsTuple a items->vs.length=items.size->(∀(i:Nat) v x,vs[i]?=some v->items[i]?=some x->VR ρ h v x)->VR ρ h (.tup vs) (.ref a)
 |ref {n a d}:ρ[n]?=some (a,d)->VR ρ h (.ref n) (.ref a)
 |top {v}:jJ v=true->VR ρ h (.top v) v
 |iH {n a}:k8<=a->zm h a n->VR ρ h (.iH n) (.ref a)
inductive bE(ρ:cY)(h:Heap):List V->List Value->Prop
 |nil:bE ρ h [] []
 |cons {v vs x xs}:VR ρ h v x->bE ρ h vs xs->bE ρ h (v::vs) (x::xs)
def ZN(c:Value):Prop:=c=.type "tuple" \/ c=.type "range"
def At(o:Obj):Prop:=ZN o.cls/\(∀es ep,o.data≠.dict es ep)/\∀v,o.data≠.cell v
def jm(h h':Heap):Prop:=∀a o,h.get? a=some o->At o->h'.get? a=some o
def Keeps(h h':Heap):Prop:=∀a o,h.get? a=some o->h'.get? a=some o
theorem xi{h:Heap}{a:Addr}{items:Array Value}{o:Obj}(x:h.IsTuple a items)(ho:h.get? a=some o):At o:=by
 obtain⟨o',h1,hc,n,hd⟩:=x;cases ho.symm.trans h1
 exact⟨.inl hc,λ_ _ e=>(nomatch hd.symm.trans e),λ_ e=>(nomatch hd.symm.trans e)⟩
theorem IV{vs:Array Value}:At {cls:=.type "range",data:=.fields vs}:=⟨.inr rfl,λ_ _ e=>(nomatch e),λ_ e=>(nomatch e)⟩
theorem jm.tup{h h':Heap}(k:jm h h'){a:Addr}{items:Array Value}(x:h.IsTuple a items):h'.IsTuple a items:=x.imp λ_=>q2l λho=>k a _ ho (xi x ho)
theorem jm.iH{h h':Heap}(k:jm h h'){a:Addr}{n:Int}(x:zm h a n):zm h' a n:=x.imp λ_=>Exists.imp λ_=>Exists.imp λ_ ho=>k a _ ho IV
theorem Keeps.uX{h h':Heap}(k:Keeps h h'):jm h h':=λa o e _=>k a o e
theorem Keeps.push(h:Heap)(o:Obj):Keeps h (h.push o):=λ_ _ e=>q0p o e
theorem Keeps.trans{h h' h'':Heap}(x:Keeps h h')(y:Keeps h' h''):Keeps h h'':=λa o e=>y a o (x a o e)
theorem jm.push(h:Heap)(o:Obj):jm h (h.push o):=(Keeps.push h o).uX
def pN(ρ ρ':cY):Prop:=∀(n:Nat)(p:Addr×Addr),ρ[n]?=some p->ρ'[n]?=some p
theorem pN.refl(ρ:cY):pN ρ ρ:=λ_ _ e=>e
theorem pN.trans{ρ ρ' ρ'':cY}(x:pN ρ ρ')(y:pN ρ' ρ''):pN ρ ρ'':=λn p e=>y n p (x n p e)
theorem yw{α:Type}{l r:List α}{n:Nat}{p:α}(e:l[n]?=some p):(l++r)[n]?=some p:=(q0e (q0b.mp e).1).trans e
theorem o9{α:Type}{l:List α}{p:α}:(l++[p])[l.length]?=some p:=by rw[q2h (q0c _),Nat.sub_self];rfl
theorem gP{α:Type}{l:List α}{n:Nat}{p q:α}(e:(l++[p])[n]?=some q):l[n]?=some q\/(n=l.length/\q=p):=by
 by_cases hi:n<l.length
 ·exact .inl ((q0e hi).symm.trans e)
 ·have hn:n=l.length:=Nat.eq_of_le_of_lt_succ (Nat.not_lt.mp hi) (Nat.lt_of_lt_of_eq (q0b.mp e).1 q0x)
  cases hn
  exact .inr ⟨rfl,q0a (e.symm.trans o9)⟩
theorem pN.snoc(ρ:cY)(p:Addr×Addr):pN ρ (ρ++[p]):=λ_ _ e=>yw e
section
variable{ρ ρ':cY}{h h':Heap}
theorem VR.mono(hi:jm h h')(hp:pN ρ ρ'){v:V}{x:Value}(r:VR ρ h v x):VR ρ' h' v x:=by
 induction r with
 |none=>exact .none
 |bool b=>exact .bool b
 |int i t=>exact .int i t
 |str x t=>exact .str x t
 |tup' hn ht hl _ ih=>exact .tup' hn (hi.tup ht) hl ih
 |ref e=>exact .ref (hp _ _ e)
 |top e=>exact .top e
 |iH hn ht=>exact .iH hn (hi.iH ht)
theorem bE.mono(hi:jm h h')(hp:pN ρ ρ'){vs:List V}{xs:List Value}(r:bE ρ h vs xs):bE ρ' h' vs xs:=by
 induction r with
 |nil=>exact .nil
 |cons a _ ih=>exact .cons (a.mono hi hp) ih
theorem bE.length{vs:List V}{xs:List Value}(r:bE ρ h vs xs):vs.length=xs.length:=by
 induction r with
 |nil=>rfl
 |cons _ _ ih=>exact q1s Nat.succ ih
theorem bE.get{vs:List V}{xs:List Value}(r:bE ρ h vs xs):∀{i:Nat}{v:V},vs[i]?=some v->∃x,xs[i]?=some x/\VR ρ h v x:=by
 induction r with
 |nil=>intro i v e;cases e
 |cons a _ ih=>
  intro i v e;cases i with
  |zero=>cases e;exact⟨_,rfl,a⟩
  |succ i=>exact ih (i:=i) e
theorem bE.of_get:∀{vs:List V}{xs:List Value},vs.length=xs.length->(∀(i:Nat) v x,vs[i]?=some v->xs[i]?=some x->VR ρ h v x)->bE ρ h vs xs:=by
 intro vs
 induction vs with
 |nil=>intro xs hl _;cases xs with
  |nil=>exact .nil
  |cons _ _=>cases hl
 |cons v vs ih=>intro xs hl k;cases xs with
  |nil=>cases hl
  |cons x xs=>exact .cons (k 0 v x rfl rfl) (ih (Nat.succ.inj hl) λi=>k (i+1))
theorem VR.tup{vs:List V}{a:Addr}{items:Array Value}(hn:k8<=a)(ht:h.IsTuple a items)(r:bE ρ h vs items.toList):VR ρ h (.tup vs) (.ref a):=.tup' hn ht r.length λi v x e f=>by
 obtain⟨y,g,k⟩:=r.get e;rw[q2i,f] at g;cases g;exact k
theorem bE.nil_inv{xs:List Value}(r:bE ρ h [] xs):xs=[]:=by cases r;rfl
theorem bE.u9{v:V}{vs:List V}{xs:List Value}(r:bE ρ h (v::vs) xs):∃x ys,xs=x::ys/\VR ρ h v x/\bE ρ h vs ys:=by cases r with | cons a b=>exact⟨_,_,rfl,a,b⟩
theorem bE.append{vs us:List V}{xs ys:List Value}(a:bE ρ h vs xs)(b:bE ρ h us ys):bE ρ h (vs++us) (xs++ys):=by
 induction a with
 |nil=>exact b
 |cons a _ ih=>exact .cons a ih
theorem bE.set{vs:List V}{xs:List Value}(r:bE ρ h vs xs){v:V}{x:Value}(e:VR ρ h v x):∀{i:Nat},bE ρ h (vs.set i v) (xs.set i x):=by
 induction r with
 |nil=>intro i;exact .nil
 |cons a b ih=>intro i;cases i with
  |zero=>exact .cons e b
  |succ i=>exact .cons a ih
theorem bE.take{vs:List V}{xs:List Value}(r:bE ρ h vs xs):∀(n:Nat),bE ρ h (vs.take n) (xs.take n):=by
 induction r with
 |nil=>intro n;rw[List.take_nil,List.take_nil];exact .nil
 |cons a _ ih=>intro n;cases n with
  |zero=>exact .nil
  |succ n=>exact .cons a (ih n)
theorem bE.drop{vs:List V}{xs:List Value}(r:bE ρ h vs xs):∀(n:Nat),bE ρ h (vs.drop n) (xs.drop n):=by
 induction r with
 |nil=>intro n;rw[List.drop_nil,List.drop_nil];exact .nil
 |cons a b ih=>intro n;cases n with
  |zero=>exact .cons a b
  |succ n=>exact ih n
theorem bE.reverse{vs:List V}{xs:List Value}(r:bE ρ h vs xs):bE ρ h vs.reverse xs.reverse:=by
 induction r with
 |nil=>exact .nil
 |cons a _ ih=>rw[List.reverse_cons,List.reverse_cons];exact ih.append (.cons a .nil)
end
noncomputable def aI:List Str:=["instream","infile","posix","eof","commenters","wordchars","whitespace","whitespace_split","quotes","escape","escapedquotes","state","pushback","lineno","debug","token","filestack","source","_punctuation_chars","_pushback_chars","_StringIO__newline","_StringIO__buf","_StringIO__pos"]
inductive gF(ρ:cY)(h:Heap):List (Str×V)->List (Str×Value)->Prop
 |nil:gF ρ h [] []
 |cons {k v x es cM}:VR ρ h v x->gF ρ h es cM->gF ρ h ((k,v)::es) ((k,x)::cM)
theorem gF.mono{ρ ρ':cY}{h h':Heap}(hi:jm h h')(hp:pN ρ ρ'){es:List (Str×V)}{cM:List (Str×Value)}(k:gF ρ h es cM):gF ρ' h' es cM:=by
 induction k with
 |nil=>exact .nil
 |cons a _ ih=>exact .cons (a.mono hi hp) ih
structure kR(ρ:cY)(h:Heap)(fs:List (Option V))(es:List DictEntry):Prop where
 len:fs.length=aI.length
 has:∀(i:Nat)(x:Str)(v:V),aI[i]?=some x->fs[i]?=some (some v)->∃y,getL x es=some (some y)/\VR ρ h v y
 not:∀(i:Nat)(x:Str),aI[i]?=some x->fs[i]?=some Option.none->getL x es=some Option.none
 out:∀x:Str,x∉aI->getL x es=some Option.none
 few:es.length<=fs.countP (·.isSome)
def Pl(h:Heap)(a:Addr):Prop:=∃o,h.get? a=some o/\o.dict=none/\o.slots=#[]
theorem vY{o:Obj}{c:Value}{d:Option Addr}{a:Data}{s:Array (Option Value)}(h1:o.cls=c)(h2:o.dict=d)(h3:o.data=a)(h4:o.slots=s):o={cls:=c,dict:=d,data:=a,slots:=s}:=by cases h1;cases h2;cases h3;cases h4;rfl
theorem Pl.exact{h:Heap}{a:Addr}{items:Array Value}(x:Pl h a)(l:h.IsList a items):∃n,h.get? a=some {cls:=.type "list",dict:=none,data:=.seq items n,slots:=#[]}:=by obtain⟨o,e,c,n,d⟩:=l;obtain⟨o',e',d'⟩:=x;exact⟨n,e.trans (q1s some (vY c (q0a (e.symm.trans e')▸d'.1) d (q0a (e.symm.trans e')▸d'.2)))⟩
noncomputable def YX:Value->V
 |.int i _=>.int i
 |_=>.none
noncomputable def pL(ob:Obj):List V:=match ob.data with
 |.seq items _=>items.toList.map YX
 |_=>[]
structure Gc(ob:Obj):Prop where
 cls:ob.cls=.type "list"
 data:∃items n,ob.data=.seq items n/\∀x∈items.toList,∃i t,x=.int i t
theorem bE.ints{ρ:cY}{h:Heap}{xs:List Value}:(∀x∈xs,∃i t,x=.int i t)->bE ρ h (xs.map YX) xs:=by
 induction xs with
 |nil=>intro _;exact .nil
 |cons x xs ih=>
  intro k;obtain⟨i,t,rfl⟩:=k x (q0g ..);exact .cons (.int i t) (ih λy hy=>k y (q0k _ hy))
structure Kx where
 prog:Program
 w:World
 B:Heap
inductive OR(K:Kx)(ρ:cY)(h:Heap):O->Addr->Addr->Prop
 |list {vs a items}:Pl h a->h.IsList a items->bE ρ h vs items.toList->OR K ρ h (.list vs) a a
 |dict {es a cM}:h.DictOf (strKind K.prog K.w) a cM->gF ρ h es cM->OR K ρ h (.dict es) a a
 |inst {C fs a d es n}:a≠d->h.get? a=some (instObj C d)->h.get? d=some (dictOf es n)->kR ρ h fs es->OR K ρ h (.inst C fs) a d
 |d8 {vs a k items}:h.get? a=some {cls:=.type "collections.deque",data:=.fields (#[.none,rawInt k]++items)}->bE ρ h vs items.toList->OR K ρ h (.d8 vs) a a
 |arg {ob a}:h.get? a=some ob->Gc ob->OR K ρ h (.arg ob) a a
def dJ(z:List Nat)(ρ:cY)(a:Addr):Prop:=∃(n:Nat)(p:Addr×Addr),n∉z/\ρ[n]?=some p/\(a=p.1\/a=p.2)
theorem dJ.full{z:List Nat}{ρ:cY}{a:Addr}(h:dJ z ρ a):dJ [] ρ a:=h.imp λ_=>Exists.imp λ_=>q2l λ_=>q2c
theorem dJ.out{z:List Nat}{ρ:cY}{n:Nat}{p:Addr×Addr}(hz:n∉z)(hp:ρ[n]?=some p):dJ z ρ p.1/\dJ z ρ p.2:=⟨⟨n,p,hz,hp,.inl rfl⟩,⟨n,p,hz,hp,.inr rfl⟩⟩
theorem dJ.at{ρ:cY}{n:Nat}{p:Addr×Addr}(hp:ρ[n]?=some p):dJ [] ρ p.1/\dJ [] ρ p.2:=dJ.out q2c hp
theorem dJ.mono{ρ ρ':cY}(x:pN ρ ρ'){z:List Nat}{a:Addr}(h:dJ z ρ a):dJ z ρ' a:=h.imp λ_=>Exists.imp λ_=>And.imp_right (q2l (x _ _))
structure HR(K:Kx)(ρ:cY)(H:List O)(h:Heap):Prop where
 len:ρ.length=H.length
 obj:∀(n:Nat)(o:O)(p:Addr×Addr),H[n]?=some o->ρ[n]?=some p->OR K ρ h o p.1 p.2
 sep:∀(i j:Nat)(p q:Addr×Addr),ρ[i]?=some p->ρ[j]?=some q->i≠j->p.1≠q.1/\p.1≠q.2/\p.2≠q.1/\p.2≠q.2
 hi:∀(n:Nat)(p:Addr×Addr),ρ[n]?=some p->K.B.objs.size<=p.1/\K.B.objs.size<=p.2
 stays:Keeps K.B h
 low:K.B.objs.size<=h.objs.size
 big:k8<=K.B.objs.size
section
variable{K:Kx}{ρ ρ':cY}{h h':Heap}{H:List O}{a d:Addr}{o:O}
theorem kR.mono(hi:jm h h')(hp:pN ρ ρ'){fs:List (Option V)}{es:List DictEntry}(x:kR ρ h fs es):kR ρ' h' fs es:=⟨x.len,λi n v e f=>(x.has i n v e f).imp λ_=>And.imp_right (VR.mono hi hp),x.not,x.out,x.few⟩
theorem OR.mono(hi:jm h h')(hp:pN ρ ρ')(ka:∀x,h.get? a=some x->h'.get? a=some x)(kd:∀x,h.get? d=some x->h'.get? d=some x)(x:OR K ρ h o a d):OR K ρ' h' o a d:=by
 induction x with
 |list p l v=>exact .list (p.imp λ_=>q2l (ka _)) (l.imp λ_=>q2l (ka _)) (v.mono hi hp)
 |dict l v=>exact .dict (l.imp λ_=>Exists.imp λ_=>Exists.imp λ_=>q2l (ka _)) (v.mono hi hp)
 |inst e h1 h2 r=>exact .inst e (ka _ h1) (kd _ h2) (r.mono hi hp)
 |d8 h1 r=>exact .d8 (ka _ h1) (r.mono hi hp)
 |arg h1 r=>exact .arg (ka _ h1) r
theorem dE{t:String}(h1:t≠"tuple")(h2:t≠"range"){o:Obj}(hc:o.cls=.type t):¬At o:=λq=>q.1.elim (λe=>h1 (Value.type.inj (hc.symm.trans e))) λe=>h2 (Value.type.inj (hc.symm.trans e))
theorem n1:"list" ≠ "tuple" :=by decide
theorem n1':"list" ≠ "range" :=by decide
theorem n2:"dict" ≠ "tuple" :=by decide
theorem n2':"dict" ≠ "range" :=by decide
def pB(h:Heap)(a:Addr):Prop:=∃o,h.get? a=some o/\¬At o
theorem pB.lt(x:pB h a):a<h.objs.size:=x.elim λ_ e=>q0s e.1
theorem pB.not(x:pB h a){o:Obj}(e:h.get? a=some o):¬At o:=x.elim λ_ q=>q0a (q.1.symm.trans e)▸q.2
theorem OR.fX(x:OR K ρ h o a d):pB h a/\pB h d:=by
 have sC:∀{a:Addr},pB h a->pB h a/\pB h a:=λz=>⟨z,z⟩
 induction x with
 |list p l v=>exact sC (l.imp λ_ q=>⟨q.1,dE n1 n1' q.2.1⟩)
 |dict l v=>exact sC (l.imp λ_ q=>q.elim λ_ q=>q.elim λ_ q=>⟨q.1,dE n2 n2' q.2.1.1⟩)
 |inst e h1 h2 r=>exact⟨⟨_,h1,λq=>q.1.elim (λe=>nomatch e) λe=>nomatch e⟩,⟨_,h2,dE n2 n2' rfl⟩⟩
 |d8 h1 r=>exact sC ⟨_,h1,dE (by decide) (by decide) rfl⟩
 |arg h1 r=>exact sC ⟨_,h1,dE n1 n1' r.cls⟩
theorem HR.at(R:HR K ρ H h){n:Nat}{p:Addr×Addr}(hp:ρ[n]?=some p):∃o,H[n]?=some o/\OR K ρ h o p.1 p.2:=have hl:n<H.length:=R.len▸(q0b.mp hp).1
 ⟨_,q0h hl,R.obj n _ p (q0h hl) hp⟩
theorem HR.fX(R:HR K ρ H h){z:List Nat}(x:dJ z ρ a):pB h a:=by
 obtain⟨n,p,_,e,r⟩:=x;obtain⟨o,_,q⟩:=R.at e;cases r with
 |inl r=>exact r▸q.fX.1
 |inr r=>exact r▸q.fX.2
theorem HR.VI(R:HR K ρ H h){z:List Nat}(x:dJ z ρ a):K.B.objs.size<=a:=by
 obtain⟨n,p,_,e,r⟩:=x;cases r with
 |inl r=>exact r▸(R.hi n p e).1
 |inr r=>exact r▸(R.hi n p e).2
theorem HR.fresh(R:HR K ρ H h){z:List Nat}(ha:h.objs.size<=a):¬dJ z ρ a:=λx=>q1c _ (q0l (R.fX x).lt ha)
theorem HR.grow(R:HR K ρ H h)(k:Keeps h h')(hs:h.objs.size<=h'.objs.size):HR K ρ H h':=⟨R.len,λn o p e f=>(R.obj n o p e f).mono k.uX (.refl _) (k _) (k _),R.sep,R.hi,R.stays.trans k,q0d R.low hs,R.big⟩
theorem HR.vU(R:HR K ρ H h){n:Nat}{p:Addr×Addr}(hp:ρ[n]?=some p)(k:∀b ob,b≠p.1->b≠p.2->h.get? b=some ob->h'.get? b=some ob):jm h h':=λb ob e c=>
 k b ob (λz=>(R.fX (dJ.at hp).1).not (z▸e) c) (λz=>(R.fX (dJ.at hp).2).not (z▸e) c) e
theorem HR.put(R:HR K ρ H h){n:Nat}{p:Addr×Addr}{o':O}(hp:ρ[n]?=some p)(k:∀b ob,b≠p.1->b≠p.2->h.get? b=some ob->h'.get? b=some ob)(hs:h.objs.size<=h'.objs.size)(q:OR K ρ h' o' p.1 p.2):HR K ρ (H.set n o') h':=by
 refine⟨R.len.trans q1n.symm,λm o r e f=>?_,R.sep,R.hi,λa o e=>?_,q0d R.low hs,R.big⟩
 ·by_cases hm:m=n
  ·subst hm
   obtain rfl:=q0a (hp.symm.trans f);exact q0a ((List.getElem?_set_self (R.len▸(q0b.mp hp).1)).symm.trans e)▸q
  ·have s:=R.sep m n r p f hp hm
   exact(R.obj m o r ((q0j (Ne.symm hm)).symm.trans e) f).mono (R.vU hp k) (.refl _) (λx=>k _ x s.1 s.2.1) (λx=>k _ x s.2.2.1 s.2.2.2)
 ·have hh:=R.hi n p hp
  have fR:=q0s e;exact k a o (q0t (q0l fR hh.1)) (q0t (q0l fR hh.2)) (R.stays a o e)
theorem apart(lt:∀(i:Nat)(r:Addr×Addr),ρ[i]?=some r->r.1<h.objs.size/\r.2<h.objs.size){p r:Addr×Addr}{i:Nat}(h1:h.objs.size<=p.1)(h2:h.objs.size<=p.2)(e:ρ[i]?=some r):r.1≠p.1/\r.1≠p.2/\r.2≠p.1/\r.2≠p.2:=have l:=lt i r e
 ⟨q0t (q0l l.1 h1),q0t (q0l l.1 h2),q0t (q0l l.2 h1),q0t (q0l l.2 h2)⟩
theorem HR.make(R:HR K ρ H h){p:Addr×Addr}{o:O}(k:Keeps h h')(hs:h.objs.size<=h'.objs.size)(h1:h.objs.size<=p.1)(h2:h.objs.size<=p.2)(q:OR K (ρ++[p]) h' o p.1 p.2):HR K (ρ++[p]) (H++[o]) h':=by
 have lt:∀(i:Nat)(r:Addr×Addr),ρ[i]?=some r->r.1<h.objs.size/\r.2<h.objs.size:=λi r e=>⟨(R.fX (dJ.at e).1).lt,(R.fX (dJ.at e).2).lt⟩
 refine⟨by rw[q0x,q0x,R.len];rfl,λm _ r e f=>?_,λi j r t e f my=>?_,λn r e=>?_,R.stays.trans k,q0d R.low hs,R.big⟩
 ·cases gP f with
  |inl f'=>
   obtain⟨o2,e2,z⟩:=R.at f';obtain rfl:=q0a ((yw e2).symm.trans e);exact z.mono k.uX (.snoc _ _) (k _) (k _)
  |inr f'=>
   obtain⟨rfl,rfl⟩:=f';rw[R.len] at e;exact q0a (o9.symm.trans e)▸q
 ·cases gP e with
  |inl e'=>cases gP f with
   |inl f'=>exact R.sep i j r t e' f' my
   |inr f'=>exact f'.2▸apart lt h1 h2 e'
  |inr e'=>cases gP f with
   |inl f'=>
    have z:=apart lt h1 h2 f';exact e'.2▸⟨z.1.symm,z.2.2.1.symm,z.2.1.symm,z.2.2.2.symm⟩
   |inr f'=>exact q1t (e'.1.trans f'.1.symm) my
 ·cases gP e with
  |inl e'=>exact R.hi n r e'
  |inr e'=>exact e'.2▸⟨q0d R.low h1,q0d R.low h2⟩
theorem dJ.snoc{z:List Nat}{p:Addr×Addr}{n:Nat}(h1:n<=p.1)(h2:n<=p.2)(x:dJ z (ρ++[p]) a):dJ z ρ a\/n<=a:=by
 obtain⟨m,q,g,e,r⟩:=x;cases gP e with
 |inl e=>exact .inl ⟨m,q,g,e,r⟩
 |inr e=>
  cases e.2
  cases r with
  |inl r=>exact .inr (r▸h1)
  |inr r=>exact .inr (r▸h2)
end
set_option genInjectivity false
set_option genSizeOf false
noncomputable def bw:Addr:=55
noncomputable def jA:Addr:=59
noncomputable def iX:List Addr:=[361,608]
def BOk(B:Heap):Prop:=∀a∈iX,∃o,B.get? a=some o/\o.cls≠.type "tuple"
def fj(h:Heap):Prop:=∃ps,h.IsCode jA bw ps/\h.TableAt jA bw ps
structure St where
 H:List O
 loc:List (Option V)
structure Fm where
 fn:Bool
 frz:List Nat
def Bj(fn:Fm)(env:Env)(a:Addr):Prop:=a=env.locals\/(fn.fn=true/\∃x,env.cells.lookup x=some a)
structure Cx where
 fn:Fm
 k:Nat
 sc:Scope
 cd:Value
def ft(k:Nat)(A:Around):Prop:=A.handled=none/\A.depth+k<recursionLimit/\A.units+10*k+200<cLine
theorem BC(h:d<=10):u+d+10*k+200<=u+10*(k+1)+200:=by rw[Nat.add_assoc u];exact Nat.add_le_add_right (q2j (q0d (Nat.add_le_add_right h _) (q2q (Nat.add_comm _ _))) _) _
theorem ft.le(x:ft k A)(h:k'<=k):ft k' A:=⟨x.1,q0r (q2j h _) x.2.1,q0r (Nat.add_le_add_right (q2j (Nat.mul_le_mul_left _ h) _) _) x.2.2⟩
theorem ft.units(x:ft k A):A.units+16<cLine:=q0r (Nat.add_le_add (q0u _ (10*k)) (show 16<=200 by decide)) x.2.2
theorem ft.depth(x:ft k A):A.depth<recursionLimit:=q0r (q0u _ _) x.2.1
theorem ft.by(x:ft (k+1) A)(hh:B.handled=A.handled)(hd:B.depth=A.depth+d)(d1:d<=1)(hu:B.units=A.units+u)(u1:u<=10):ft k B:=⟨hh.trans x.1,q0r (hd▸q0d (q2q (Nat.add_assoc ..)) (q2j (q0d (Nat.add_le_add_right d1 k) (q2q (Nat.add_comm ..))) _)) x.2.1,q0r (hu▸BC u1) x.2.2⟩
theorem ft.in1(x:ft (k+1) A):ft k A.in1:=x.by (d:=0) (u:=1) rfl rfl (by decide) rfl (by decide)
theorem ft.deeper(x:ft (k+1) A):ft k (A.deeper env):=x.by (d:=1) (u:=3) rfl rfl (by decide) rfl (by decide)
noncomputable abbrev M(α:Type):=St->Option (α×St)
noncomputable abbrev HM(α:Type):=List O->Option (α×List O)
def no(_:Value)(_:Shared):Prop:=False
def Yf(ρ:cY)(h:Heap)(env:Env)(loc:List (Option V))(m:Str->Option Value):Prop:=∀(i:Nat)(x:Str)(v:V),env.scope.names[i]?=some (x,.local)->loc[i]?=some (some v)->∃y,m x=some y/\VR ρ h v y
def Yl(ρ:cY)(h:Heap)(loc:List (Option V))(i:Nat)(c:Addr):Prop:=∃vo,h.IsCell c vo/\∀v:V,loc[i]?=some (some v)->∃y,vo=some y/\VR ρ h v y
structure a0R(K:Kx)(ρ:cY)(h:Heap)(env:Env)(c:Addr):Prop where
 own:¬dJ [] ρ c
 loc:c≠env.locals
 low:K.B.objs.size<=c
 is:∃vo,h.IsCell c vo
structure FR(K:Kx)(env:Env)(ρ:cY)(σ:St)(h:Heap):Prop where
 hr:HR K ρ σ.H h
 len:σ.loc.length=env.scope.names.length
 loc:∃m,Fr K.B env.locals h m/\Yf ρ h env σ.loc m
 cel:∀(i:Nat)(x:Str)(k:NameKind),env.scope.names[i]?=some (x,k)->k=.cell\/k=.free->∃c,env.cells.lookup x=some c/\Yl ρ h σ.loc i c
 celO:∀x c,env.cells.lookup x=some c->a0R K ρ h env c
 own:¬dJ [] ρ env.locals
 tab:fj h
structure ck where
 K:Kx
 c:Cx
 A:Around
 env:Env
 room:ft c.k A
 sc:env.scope=c.sc
 cd:env.code=c.cd
 kind:env.scope.kind=.function
 glob:env.globals=mainGlobals
 blt:env.builtins=builtinsNs
 nd:(env.scope.names.map (·.1)).Nodup
 celN:∀x y c,env.cells.lookup x=some c->env.cells.lookup y=some c->x=y
 tA:bw<K.B.objs.size
 tC:jA<K.B.objs.size
 bo:BOk K.B
structure Wd(F:ck) where
 ρ:cY
 σ:St
 s:Shared
 fr:FR F.K F.env ρ σ s.heap
 bare:AllBare s.gens
structure eT(fn:Fm)(env:Env)(ρ:cY)(s:Shared)(ρ':cY)(s':Shared):Prop where
 pre:pN ρ ρ'
 chg:∀a o,s.heap.get? a=some o->¬dJ fn.frz ρ a->¬Bj fn env a->a≠bw->s'.heap.get? a=some o
 new:∀z a,dJ z ρ' a->dJ z ρ a\/s.heap.objs.size<=a
 zA:∀vs,s.heap.get? bw=some {cls:=.none,data:=.fields vs}->∃more,s'.heap.get? bw=some {cls:=.none,data:=.fields (vs++more)}
 os:s'.os=s.os
 size:s.heap.objs.size<=s'.heap.objs.size
def ck.wp(F:ck){α:Type}(t:Sem α)(Q:α->Shared->Prop)(s:Shared):Prop:=wpAny (model F.K.prog F.K.w) F.A t Q no s
def Wd.Le{F:ck}(W W':Wd F):Prop:=eT F.c.fn F.env W.ρ W.s W'.ρ W'.s
section
variable{K:Kx}{env:Env}{fn:Fm}{ρ ρ' ρ₁ ρ₂:cY}{σ σ':St}{h h':Heap}{H:List O}{s s' s₁ s₂:Shared}{a:Addr}
theorem gI(k:∀o,h.get? bw=some o->h'.get? bw=some o)(vs:Array Value)(e:h.get? bw=some {cls:=.none,data:=.fields vs}):∃more,h'.get? bw=some {cls:=.none,data:=.fields (vs++more)}:=⟨#[],(k _ e).trans (q1s (λz=>some ({cls:=.none,data:=.fields z}:Obj)) Array.append_empty.symm)⟩
theorem eT.refl:eT fn env ρ s ρ s:=⟨.refl _,λ_ _ e _ _ _=>e,λ_ _ h=>.inl h,gI λ_ e=>e,rfl,q0c _⟩
theorem pT{h₁:Heap}(x:∀vs,h.get? bw=some {cls:=.none,data:=.fields vs}->∃more,h₁.get? bw=some {cls:=.none,data:=.fields (vs++more)})(y:∀vs,h₁.get? bw=some {cls:=.none,data:=.fields vs}->∃more,h'.get? bw=some {cls:=.none,data:=.fields (vs++more)})(vs:Array Value)(e:h.get? bw=some {cls:=.none,data:=.fields vs}):∃more,h'.get? bw=some {cls:=.none,data:=.fields (vs++more)}:=(x vs e).elim λm1 e1=>(y _ e1).elim λm2 e2=>⟨m1++m2,e2.trans (q1s (λz=>some ({cls:=.none,data:=.fields z}:Obj)) (Array.append_assoc ..))⟩
theorem eT.comp{fn':Fm}{env':Env}(x:eT fn env ρ s ρ₁ s₁)(y:eT fn' env' ρ₁ s₁ ρ₂ s₂)(hz:∀n∈fn.frz,n∈fn'.frz)(hp:∀a o,s.heap.get? a=some o->¬Bj fn env a->¬Bj fn' env' a):eT fn env ρ s ρ₂ s₂:=by
 refine⟨x.pre.trans y.pre,λa o e h1 h2 h3=>y.chg a o (x.chg a o e h1 h2 h3) (λq=>?_) (hp a o e h2) h3,λz a q=>?_,pT x.zA y.zA,y.os.trans x.os,q0d x.size y.size⟩
 ·cases x.new _ a q with
  |inl q=>exact h1 (q.imp λ_=>Exists.imp λ_=>q2l λg h=>g (hz _ h))
  |inr q=>exact Nat.not_lt.mpr q (q0s e)
 ·cases y.new _ a q with
  |inl q=>exact x.new _ a q
  |inr q=>exact .inr (q0d x.size q)
theorem eT.trans(x:eT fn env ρ s ρ₁ s₁)(y:eT fn env ρ₁ s₁ ρ₂ s₂):eT fn env ρ s ρ₂ s₂:=x.comp y (λ_ h=>h) λ_ _ _ h=>h
theorem eT.keeps(hp:pN ρ ρ')(k:Keeps s.heap s'.heap)(hn:∀z a,dJ z ρ' a->dJ z ρ a\/s.heap.objs.size<=a)(hs:s.heap.objs.size<=s'.heap.objs.size)(ho:s'.os=s.os):eT fn env ρ s ρ' s':=⟨hp,λa o e _ _ _=>k a o e,hn,gI (k _),ho,hs⟩
theorem eT.toks(t:Nat):eT fn env ρ s ρ {s with toks:=t}:=.keeps (.refl _) (λ_ _ e=>e) (λ_ _=>.inl) (q0c _) rfl
theorem mB(x:h.IsCell a vo):pB h a:=x.imp λ_ q=>⟨q.1,λz=>z.2.2 _ q.2⟩
theorem ql(x:h.Ns a m):pB h a:=x.imp λ_ q=>q.elim λ_ q=>q.elim λ_ q=>⟨q.1,λz=>z.2.1 _ _ q.2.1⟩
theorem fj.obj(x:fj h):∃vs,h.get? bw=some {cls:=.none,data:=.fields vs}:=x.imp λ_ q=>q.2.2
theorem fj.tJ(x:fj h):pB h bw:=x.obj.elim λ_ e=>⟨_,e,λq=>q.1.elim (λe=>nomatch e) λe=>nomatch e⟩
theorem fj.at'(T:fj h)(e1:∀o,h.get? bw=some o->h'.get? bw=some o)(e2:∀o,h.get? jA=some o->h'.get? jA=some o):fj h':=by exact T.imp λ_ q=>⟨q.1.at2 e2 e1,q.2.1.imp λ_=>Exists.imp λ_=>q2l (e2 _),e1 _ q.2.2⟩
theorem FR.WY(F:FR K env ρ σ h):∃m,Fr K.B env.locals h m:=F.loc.imp λ_ q=>q.1
theorem FR.iO(F:FR K env ρ σ h):pB h env.locals:=F.loc.elim λ_ q=>ql q.1.ns
theorem FR.oX(F:FR K env ρ σ h)(e:env.cells.lookup x=some c):pB h c:=(F.celO x c e).is.elim λ_ q=>mB q
theorem FR.IY(F:FR K env ρ σ h)(x:Bj fn env a):pB h a:=x.elim (λe=>e▸F.iO) λq=>q.2.elim λ_ e=>F.oX e
theorem FR.upd(F:FR K env ρ σ h)(hp:pN ρ ρ')(im:jm h h')(R:HR K ρ' H h')(kl:∀o,h.get? env.locals=some o->h'.get? env.locals=some o)(kc:∀x c,env.cells.lookup x=some c->∀o,h.get? c=some o->h'.get? c=some o)(nw:∀a,dJ [] ρ' a->dJ [] ρ a\/h.objs.size<=a)(T:fj h'):FR K env ρ' ⟨H,σ.loc⟩ h':=by
 have old:∀a,pB h a->¬dJ [] ρ a->¬dJ [] ρ' a:=λa e q z=>(nw a z).elim q λz=>Nat.not_lt.mpr z e.lt;refine⟨R,F.len,?_,λi x k e f=>?_,λx c e=>?_,old _ F.iO F.own,T⟩
 ·obtain⟨m,M,lm⟩:=F.loc
  exact⟨m,⟨M.ns.imp λ_=>Exists.imp λ_=>Exists.imp λ_=>q2l (kl _),R.stays,M.above⟩,λi x v e f=>(lm i x v e f).imp λ_=>And.imp_right (VR.mono im hp)⟩
 ·obtain⟨c,e1,vo,e2,e3⟩:=F.cel i x k e f
  exact⟨c,e1,vo,e2.imp λ_=>q2l (kc x c e1 _),λv hv=>(e3 v hv).imp λ_=>And.imp_right (VR.mono im hp)⟩
 ·have q:=F.celO x c e
  exact⟨old _ (F.oX e) q.own,q.loc,q.low,q.is.imp λ_=>Exists.imp λ_=>q2l (kc x c e _)⟩
theorem FR.grow(F:FR K env ρ σ h)(k:Keeps h h')(hs:h.objs.size<=h'.objs.size):FR K env ρ σ h':=F.upd (.refl _) k.uX (F.hr.grow k hs) (k _) (λ_ _ _=>k _) (λ_=>.inl) (F.tab.at' (k _) (k _))
end
section
variable{F:ck}{ρ ρ':cY}{s s':Shared}{h':Heap}{a:Addr}{z:List Nat}
theorem ck.nT(F:ck)(x:F.K.B.objs.size<=a):a≠bw/\a≠jA:=⟨q1d (q0l F.tA x),q1d (q0l F.tC x)⟩
theorem Wd.eM(W:Wd F)(x:dJ z W.ρ a):a≠F.env.locals/\(∀y,F.env.cells.lookup y≠some a)/\a≠bw/\a≠jA:=⟨λe=>W.fr.own (e▸x.full),λ_ e=>(W.fr.celO _ _ e).own x.full,F.nT (W.fr.hr.VI x)⟩
theorem Wd.Nr(W:Wd F)(k:∀a o,W.s.heap.get? a=some o->¬dJ fm.frz W.ρ a->¬Bj fm F.env a->a≠bw->h'.get? a=some o):jm W.s.heap h':=λa o e c=>
 k a o e (λq=>(W.fr.hr.fX q).not e c) (λq=>(W.fr.IY q).not e c) λq=>W.fr.tab.tJ.not (q▸e) c
theorem Wd.Le.uX{W W':Wd F}(q:W.Le W'):jm W.s.heap W'.s.heap:=W.Nr q.chg
theorem Wd.Le.vr{W W':Wd F}(q:W.Le W'){v:V}{x:Value}(r:VR W.ρ W.s.heap v x):VR W'.ρ W'.s.heap v x:=r.mono q.uX q.pre
theorem Wd.Le.Y6{W W':Wd F}(q:W.Le W'){v:List V}{x:List Value}(r:bE W.ρ W.s.heap v x):bE W'.ρ W'.s.heap v x:=r.mono q.uX q.pre
theorem Wd.Le.refl{W:Wd F}:W.Le W:=eT.refl
theorem Wd.Le.trans{W W₁ W₂:Wd F}(x:W.Le W₁)(y:W₁.Le W₂):W.Le W₂:=eT.trans x y
theorem Wd.sys(W:Wd F):sysModules<F.K.B.objs.size:=q0l (by decide) W.fr.hr.big
theorem Wd.cls(W:Wd F):∀a∈iX,∃o,W.s.heap.get? a=some o/\o.cls≠.type "tuple" :=λa h=>(F.bo a h).imp λ_=>q2l (W.fr.hr.stays _ _)
theorem Wd.new(W:Wd F)(h:W.s.heap.objs.size<=a):k8<=a:=q0d W.fr.hr.big (q0d W.fr.hr.low h)
noncomputable def Wd.toks(W:Wd F)(t:Nat):Wd F:=⟨W.ρ,W.σ,{W.s with toks:=t},W.fr,W.bare⟩
theorem Wd.gv(W:Wd F)(t:Nat):W.Le (W.toks t):=eT.toks t
noncomputable def Wd.grow(W:Wd F){h':Heap}(t:Nat)(k:Keeps W.s.heap h')(hs:W.s.heap.objs.size<=h'.objs.size):Wd F:=⟨W.ρ,W.σ,{W.s with heap:=h',toks:=t},W.fr.grow k hs,W.bare⟩
theorem Wd.lI(W:Wd F)(t:Nat)(k:Keeps W.s.heap h')(hs:W.s.heap.objs.size<=h'.objs.size):W.Le (W.grow t k hs):=eT.keeps (.refl _) k (λ_ _=>.inl) hs rfl
theorem bu(h:Heap)(o:Obj):h.objs.size<=(h.push o).objs.size:=Nat.le_of_lt_succ (Nat.lt_succ_of_lt (Heap.size_push h o▸q2n _))
noncomputable def Wd.push(W:Wd F)(o:Obj):Wd F:=W.grow W.s.toks (.push _ o) (bu _ o)
theorem Wd.rr(W:Wd F)(o:Obj):W.Le (W.push o):=W.lI _ _ _
noncomputable def Wd.chg(W:Wd F){ρ':cY}{H:List O}{h':Heap}(t:Nat)(hp:pN W.ρ ρ')(R:HR F.K ρ' H h')(k:∀b ob,¬dJ F.c.fn.frz W.ρ b->W.s.heap.get? b=some ob->h'.get? b=some ob)(hn:∀z a,dJ z ρ' a->dJ z W.ρ a\/W.s.heap.objs.size<=a):Wd F:=⟨ρ',⟨H,W.σ.loc⟩,{W.s with heap:=h',toks:=t},W.fr.upd hp (W.Nr (fm:=F.c.fn) λa o e n _ _=>k a o n e) R (k _ · λq=>W.fr.own q.full) (λ_ _ e o=>k _ o λq=>(W.fr.celO _ _ e).own q.full) (hn []) (W.fr.tab.at' (k _ · λq=>(W.eM q).2.2.1 rfl) (k _ · λq=>(W.eM q).2.2.2 rfl)),W.bare⟩
theorem Wd.tU(W:Wd F)(t:Nat)(hp:pN W.ρ ρ')(R:HR F.K ρ' H h')(k:∀b ob,¬dJ F.c.fn.frz W.ρ b->W.s.heap.get? b=some ob->h'.get? b=some ob)(hn:∀z a,dJ z ρ' a->dJ z W.ρ a\/W.s.heap.objs.size<=a)(hs:W.s.heap.objs.size<=h'.objs.size):W.Le (W.chg t hp R k hn):=⟨hp,λa o e n _ _=>k a o n e,hn,gI (k _ · λq=>(W.eM q).2.2.1 rfl),rfl,hs⟩
end
noncomputable def Y{α β:Type}(x:M α)(f:α->M β):M β:=λσ=>match x σ with
 |some (a,σ')=>f a σ'
 |none=>none
noncomputable def Z{α:Type}(a:α):M α:=λσ=>some (a,σ)
theorem ai{α β:Type}{x:M α}{f:α->M β}{σ σ₁:St}{a:α}(h:x σ=some (a,σ₁)):Y x f σ=f a σ₁:=by unfold Y;rw[h]
theorem dH{α β:Type}{x:M α}{f:α->M β}{σ:St}{r:β×St}{Q:Prop}(h:Y x f σ=some r)(k:∀c,x σ=some c->f c.1 c.2=some r->Q):Q:=by
 unfold Y at h;split at h
 ·rename_i a σ' e;exact k _ e h
 ·cases h
noncomputable def au{α:Type}(f:HM α):M α:=λσ=>match f σ.H with
 |some (a,H')=>some (a,⟨H',σ.loc⟩)
 |none=>none
noncomputable def nZ{α:Type}(f:List O->Option α):M α:=λσ=>match f σ.H with
 |some a=>some (a,σ)
 |none=>none
noncomputable def ba{α γ:Type}(o:Option α)(f:α->γ)(y:γ):γ:=match o with
 |some a=>f a
 |none=>y
def Ok{γ:Type}(P:γ->Prop)(o:Option γ):Prop:=∀c,o=some c->P c
section
variable{α γ:Type}{P:γ->Prop}{x y:Option γ}
theorem Ok.none:Ok P none:=λ_ e=>(nomatch e)
theorem Ok.some{c:γ}(h:P c):Ok P (some c):=λ_ e=>q0a e▸h
theorem Ok.bind{o:Option α}{f:α->Option γ}(h:∀a,o=.some a->Ok P (f a)):Ok P (o.bind f):=by
 cases o with
 |none=>exact Ok.none
 |some a=>exact h a rfl
theorem Ok.map{o:Option α}{f:α->γ}(h:∀a,o=.some a->P (f a)):Ok P (o.map f):=by
 cases o with
 |none=>exact Ok.none
 |some a=>exact Ok.some (h a rfl)
theorem Ok.ba{o:Option α}{f:α->Option γ}(h1:∀a,o=.some a->Ok P (f a))(h2:Ok P y):Ok P (ba o f y):=by
 cases o with
 |none=>exact h2
 |some a=>exact h1 a rfl
theorem Ok.ite{c:Prop}[Decidable c](h1:c->Ok P x)(h2:¬c->Ok P y):Ok P (if c then x else y):=by
 by_cases h:c
 ·rw[q1k h];exact h1 h
 ·rw[q1l h];exact h2 h
theorem Ok.ifs{c:Prop}[Decidable c](h:c->Ok P x):Ok P (if c then x else .none):=Ok.ite h λ_=>Ok.none
theorem Ok.iff{c:Prop}[Decidable c]{r:γ}(h:c->P r):Ok P (if c then .some r else .none):=Ok.ifs λe=>Ok.some (h e)
theorem Ok.Yw{c:Prop}[Decidable c](h:¬c->Ok P x):Ok P (if c then .none else x):=Ok.ite (λ_=>Ok.none) h
end
theorem D9{α:Type}{a b:α}(h:some a=some b):b=a:=(q0a h).symm
theorem Wn{α β:Type}{a c:α}{b d:β}(h:some (a,b)=some (c,d)):c=a/\d=b:=by cases h;exact⟨rfl,rfl⟩
theorem cE{α:Type}{x:α}{Q:Prop}(h:none=some x):Q:=nomatch h
noncomputable def vS:V->Option Str
 |.str x=>some x
 |_=>none
noncomputable def vI:V->Option Int
 |.int i=>some i
 |_=>none
noncomputable def vR:V->Option Nat
 |.ref n=>some n
 |_=>none
noncomputable def vT:V->Option (List V)
 |.tup vs=>some vs
 |_=>none
noncomputable def Gv:V->Option Value
 |.top u=>some u
 |_=>none
noncomputable def one{α:Type}:List α->Option α
 |[a]=>some a
 |_=>none
noncomputable def sC{α:Type}:List α->Option (α×α)
 |[a,b]=>some (a,b)
 |_=>none
theorem cy{α:Type}{l:List α}{a}(h:one l=some a):l=[a]:=by
 cases l with
 |nil=>cases h
 |cons x r=>cases r with
  |nil=>exact q1s (λz=>[z]) (q0a h)
  |cons=>cases h
theorem iD{α:Type}{l:List α}{a}(h:sC l=some a):l=[a.1,a.2]:=by
 cases l with
 |nil=>cases h
 |cons x r=>cases r with
  |nil=>cases h
  |cons y r=>cases r with
   |nil=>exact q1s (λz:α×α=>[z.1,z.2]) (q0a h)
   |cons=>cases h
noncomputable def ax:Nat:=1048576
theorem z9:sizeLine=16777216/\ax=1048576:=⟨rfl,rfl⟩
theorem de{n:Nat}(h:n<=ax):n<=sizeLine:=q0d h (by decide)
noncomputable def cI(H:List O)(n:Nat):Option (List V):=match H[n]? with
 |some (.list vs)=>some vs
 |_=>none
noncomputable def dm(H:List O)(n:Nat):Option (List (Str×V)):=match H[n]? with
 |some (.dict es)=>some es
 |_=>none
noncomputable def iW(H:List O)(n:Nat):Option (List V):=match H[n]? with
 |some (.d8 vs)=>some vs
 |_=>none
theorem wg{H:List O}{n:Nat}{vs:List V}(h:cI H n=some vs):H[n]?=some (.list vs):=by
 unfold cI at h;split at h
 ·rename_i e;exact q0a h▸e
 ·exact cE h
theorem wD{H:List O}{n:Nat}{es:List (Str×V)}(h:dm H n=some es):H[n]?=some (.dict es):=by
 unfold dm at h;split at h
 ·rename_i e;exact q0a h▸e
 ·exact cE h
theorem wC{H:List O}{n:Nat}{vs:List V}(h:iW H n=some vs):H[n]?=some (.d8 vs):=by
 unfold iW at h;split at h
 ·rename_i e;exact q0a h▸e
 ·exact cE h
section
variable{ρ:cY}{h:Heap}{v:V}{x:Value}{P:Value->Prop}
@[elab_as_elim] theorem VR.fC(r:VR ρ h v x){z:Str}(e:vS v=some z)(k:∀t,P (.str z t)):P x:=by
 induction r with
 |str y t=>exact q0a e▸k t
 |_=>exact cE e
@[elab_as_elim] theorem VR.hB(r:VR ρ h v x){z:Int}(e:vI v=some z)(k:∀t,P (.int z t)):P x:=by
 induction r with
 |int y t=>exact q0a e▸k t
 |_=>exact cE e
@[elab_as_elim] theorem VR.ew(r:VR ρ h v x){n:Nat}(e:vR v=some n)(k:∀p,ρ[n]?=some p->P (.ref p.1)):P x:=by
 induction r with
 |ref q=>exact k (_,_) (q0a e▸q)
 |_=>exact cE e
@[elab_as_elim] theorem VR.tupK(r:VR ρ h v x){vs:List V}(e:vT v=some vs)(k:∀a items,h.IsTuple a items->bE ρ h vs items.toList->vs.length=items.size->P (.ref a)):P x:=by
 induction r with
 |tup' _ t l g=>
  obtain rfl:=q0a e;exact k _ _ t (bE.of_get l λi v x a b=>g i v x a (q2i.symm.trans b)) l
 |_=>exact cE e
@[elab_as_elim] theorem VR.T4(r:VR ρ h v x){z:Value}(e:Gv v=some z)(k:P z):P x:=by
 induction r with
 |top _=>exact q0a e▸k
 |_=>exact cE e
theorem VR.str_inv{z:Str}(r:VR ρ h (.str z) x):∃t,x=.str z t:=r.fC (P:=λx=>∃t,x=.str z t) rfl λt=>⟨t,rfl⟩
theorem VR.int_inv{z:Int}(r:VR ρ h (.int z) x):∃t,x=.int z t:=r.hB (P:=λx=>∃t,x=.int z t) rfl λt=>⟨t,rfl⟩
theorem VR.none_inv(r:VR ρ h .none x):x=.none:=by cases r;rfl
theorem VR.bool_inv{b:Bool}(r:VR ρ h (.bool b) x):x=.bool b:=by cases r;rfl
@[elab_as_elim] theorem bE.Dx{vs:List V}{xs:List Value}(r:bE ρ h vs xs){P:List Value->Prop}{a:V}(e:one vs=some a)(k:∀x,VR ρ h a x->P [x]):P xs:=by rw[cy e] at r;cases r with | cons a b=>cases b with | nil=>exact k _ a
@[elab_as_elim] theorem bE.NW{vs:List V}{xs:List Value}(r:bE ρ h vs xs){P:List Value->Prop}{a:V×V}(e:sC vs=some a)(k:∀x y,VR ρ h a.1 x->VR ρ h a.2 y->P [x,y]):P xs:=by rw[iD e] at r;cases r with | cons a b=>cases b with | cons b c=>cases c with | nil=>exact k _ _ a b
end
section
variable{α β γ:Type}{R:cY->Heap->α->β->Prop}{R':cY->Heap->γ->β->Prop}{F:ck}{W W₁:Wd F}
inductive aB(R:cY->Heap->α->β->Prop)(W:Wd F)(r:α×St)(b:β)(s':Shared):Prop
 |mk (ρ':cY) (fr:FR F.K F.env ρ' r.2 s'.heap) (bare:AllBare s'.gens) (MY:R ρ' s'.heap r.1 b) (le:eT F.c.fn F.env W.ρ W.s ρ' s')
theorem aB.of(W':Wd F){a:α}{b:β}(r:R W'.ρ W'.s.heap a b)(q:W.Le W'):aB R W (a,W'.σ) b W'.s:=⟨W'.ρ,W'.fr,W'.bare,r,q⟩
theorem aB.open{r:α×St}{b:β}{s':Shared}{P:Prop}(p:aB R W r b s')(k:∀W':Wd F,R W'.ρ W'.s.heap r.1 b->W.Le W'->W'.σ=r.2->W'.s=s'->P):P:=by
 induction p with
 |mk ρ' fr bare MY le=>exact k ⟨ρ',r.2,s',fr,bare⟩ MY le rfl rfl
theorem aB.ret{W':Wd F}{a:α}{r:α×St}{b:β}(hm:Z a W'.σ=some r)(x:R W'.ρ W'.s.heap a b)(q:W.Le W'):aB R W r b W'.s:=q0a hm▸aB.of W' x q
theorem aB.after{r:α×St}{b:β}{s':Shared}(q:W.Le W₁)(p:aB R W₁ r b s'):aB R W r b s':=by
 induction p with
 |mk ρ' fr bare MY le=>exact⟨ρ',fr,bare,MY,eT.trans q le⟩
theorem iz{t:Sem β}{r:α×St}{s:Shared}(q:W.Le W₁)(h:F.wp t (aB R W₁ r) s):F.wp t (aB R W r) s:=q1h h (λ_ _=>aB.after q) λ_ _ h=>h
theorem wp_mono{t:Sem β}{Q Q':β->Shared->Prop}{s:Shared}(h:F.wp t Q s)(k:∀b s,Q b s->Q' b s):F.wp t Q' s:=q1h h k λ_ _ h=>h
def dg(R:cY->Heap->α->β->Prop)(W:Wd F)(t:Sem β)(m:M α):Prop:=∀r,m W.σ=some r->F.wp t (aB R W r) W.s
theorem dg.use{t:Sem β}{m:M α}{f:α->M γ}{r:γ×St}{Q:β->Shared->Prop}(S:dg R W t m)(hm:Y m f W.σ=some r)(k:∀a b (W₁:Wd F),R W₁.ρ W₁.s.heap a b->W.Le W₁->f a W₁.σ=some r->Q b W₁.s):F.wp t Q W.s:=dH hm λ_ e h=>wp_mono (S _ e) λ_ _ p=>by
 induction p with
 |mk ρ' fr bare MY le=>exact k _ _ ⟨ρ',_,_,fr,bare⟩ MY le h
theorem dg.last{t:Sem β}{m:M α}{r:α×St}(S:dg R W₁ t m)(hm:m W₁.σ=some r)(q:W.Le W₁):F.wp t (aB R W r) W₁.s:=iz q (S r hm)
theorem dg.run{t:Sem β}{f:HM α}{s:Shared}{r:α×St}(S:Ok (λc=>F.wp t (aB R W (c.1,⟨c.2,W.σ.loc⟩)) s) (f W.σ.H))(hm:au f W.σ=some r):F.wp t (aB R W r) s:=by
 unfold au at hm;split at hm
 ·rename_i a H' e;exact q0a hm▸S _ e
 ·exact cE hm
theorem dg.on{t:Sem β}{f:HM α}(S:Ok (λc=>F.wp t (aB R W (c.1,⟨c.2,W.σ.loc⟩)) W.s) (f W.σ.H)):dg R W t (au f):=λ_ hm=>dg.run S hm
theorem dg.rd{t:Sem β}{f:List O->Option α}(S:Ok (λc=>F.wp t (aB R W (c,W.σ)) W.s) (f W.σ.H)):dg R W t (nZ f):=λr hm=>by
 unfold nZ at hm;split at hm
 ·rename_i a e;exact q0a hm▸S _ e
 ·exact cE hm
theorem fE{f:List O->Option α}{g:α->M γ}{σ:St}{r:γ×St}{P:Prop}(hm:Y (nZ f) g σ=some r)(k:∀a,f σ.H=some a->g a σ=some r->P):P:=dH hm λc e h=>by
 unfold nZ at e;split at e
 ·rename_i a e'
  obtain rfl:=q0a e;exact k a e' h
 ·exact cE e
def BR(_:cY)(_:Heap)(a b:Bool):Prop:=b=a
def UR(_:cY)(_:Heap)(_:Unit)(_:Unit):Prop:=True
abbrev aM(F:ck)(e:Expr)(m:M V):Prop:=∀W:Wd F,dg VR W (eval e F.env) m
abbrev jr(F:ck)(e:Expr)(m:M Bool):Prop:=∀W:Wd F,dg BR W (isTrue e F.env (eval e F.env)) m
theorem dg.cond{t:Sem Bool}{m:M Bool}{x y:M γ}{r:γ×St}{Q:Bool->Shared->Prop}(S:dg BR W t m)(hm:Y m (λb=>if b then x else y) W.σ=some r)(k1:∀W₁:Wd F,W.Le W₁->x W₁.σ=some r->Q true W₁.s)(k2:∀W₁:Wd F,W.Le W₁->y W₁.σ=some r->Q false W₁.s):F.wp t Q W.s:=S.use hm λa b W₁ e q h=>by
 cases e
 cases a with
 |true=>exact k1 W₁ q h
 |false=>exact k2 W₁ q h
end
section
variable{F:ck}{W:Wd F}{v:V}{x:Value}{h':Heap}
theorem aB.toks(t:Nat)(r:VR W.ρ W.s.heap v x):aB VR W (v,W.σ) x {W.s with toks:=t}:=aB.of (W.toks t) r (W.gv t)
theorem aB.same(r:VR W.ρ W.s.heap v x):aB VR W (v,W.σ) x W.s:=aB.of W r .refl
theorem aB.grown(t:Nat)(k:Keeps W.s.heap h')(hs:W.s.heap.objs.size<=h'.objs.size)(r:VR W.ρ h' v x):aB VR W (v,W.σ) x {W.s with heap:=h',toks:=t}:=aB.of (W.grow t k hs) r (W.lI t k hs)
theorem oh{ρ:cY}{h:Heap}{p:Addr×Addr}(h1:h.objs.size<=p.1)(h2:h.objs.size<=p.2)(z:List Nat)(a:Addr)(x:dJ z (ρ++[p]) a):dJ z ρ a\/h.objs.size<=a:=x.snoc h1 h2
theorem Wd.iI(W:Wd F){p:Addr×Addr}:(W.ρ++[p])[W.σ.H.length]?=some p:=W.fr.hr.len▸o9
theorem Wd.made(W:Wd F){o:O}{p:Addr×Addr}(t:Nat)(k:Keeps W.s.heap h')(hs:W.s.heap.objs.size<=h'.objs.size)(h1:W.s.heap.objs.size<=p.1)(h2:W.s.heap.objs.size<=p.2)(q:OR F.K (W.ρ++[p]) h' o p.1 p.2):aB VR W (.ref W.σ.H.length,⟨W.σ.H++[o],W.σ.loc⟩) (.ref p.1) {W.s with heap:=h',toks:=t}:=aB.of (W.chg t (.snoc _ p) (W.fr.hr.make k hs h1 h2 q) (λb ob _=>k b ob) (oh h1 h2)) (.ref (d:=p.2) W.iI) (W.tU t _ _ _ _ hs)
theorem Wd.qo(W:Wd F){xs:List V}{items:List Value}{a:Addr}(t:Nat)(k:Keeps W.s.heap h')(hs:W.s.heap.objs.size<=h'.objs.size)(ha:W.s.heap.objs.size<=a)(hl:∃o,h'.get? a=some o/\o.cls=.type "list" /\ (∃n,o.data=.seq items.toArray n)/\o.dict=none/\o.slots=#[])(r:bE W.ρ W.s.heap xs items):aB VR W (.ref W.σ.H.length,⟨W.σ.H++[.list xs],W.σ.loc⟩) (.ref a) {W.s with heap:=h',toks:=t}:=W.made (p:=(a,a)) t k hs ha ha (.list (hl.imp λ_ q=>⟨q.1,q.2.2.2⟩) (hl.imp λ_ q=>⟨q.1,q.2.1,q.2.2.1⟩) (r.mono k.uX (.snoc _ _)))
theorem Wd.put(W:Wd F){n:Nat}{o':O}{p:Addr×Addr}(t:Nat)(hz:n∉F.c.fn.frz)(hp:W.ρ[n]?=some p)(k:∀b ob,b≠p.1->b≠p.2->W.s.heap.get? b=some ob->h'.get? b=some ob)(hs:W.s.heap.objs.size<=h'.objs.size)(q:OR F.K W.ρ h' o' p.1 p.2):∃W':Wd F,W.Le W'/\W'.s={W.s with heap:=h',toks:=t}/\W'.σ=⟨W.σ.H.set n o',W.σ.loc⟩/\W'.ρ=W.ρ/\jm W.s.heap h':=have k':∀b ob,¬dJ F.c.fn.frz W.ρ b->W.s.heap.get? b=some ob->h'.get? b=some ob:=λb ob nb e=>k b ob (λz=>nb (z▸(dJ.out hz hp).1)) (λz=>nb (z▸(dJ.out hz hp).2)) e
 ⟨W.chg t (.refl _) (W.fr.hr.put hp k hs q) k' (λ_ _=>.inl),W.tU t _ _ k' _ hs,rfl,rfl,rfl,W.fr.hr.vU hp k⟩
end
def D6(f:Int->Int->Option Int)(a b:V):HM V:=λH=>(vI a).bind λp=>(vI b).bind λq=>(f p q).map λr=>(.int r,H)
def F2(a b:V):HM V:=λH=>ba (vI a) (λp=>(vI b).map λq=>(.int (p+q),H)) <| ba (vS a) (λx=>(vS b).bind λy=>if x.length+y.length<=ax then some (.str (x++y),H) else none) <| (vR a).bind λm=>(vR b).bind λn=>(cI H m).bind λxs=>(cI H n).bind λys=>if xs.length+ys.length<=ax then some (.ref H.length,H++[.list (xs++ys)]) else none
noncomputable def bn(op:Operator)(a b:V):HM V:=match op with
 |.Add=>F2 a b
 |.Sub=>D6 (λa b=>some (a-b)) a b
 |.Mult=>D6 (λa b=>if a.natAbs<1073741824 then some (a*b) else none) a b
 |.FloorDiv=>D6 (λa b=>if b≠0/\b.natAbs<1073741824 then some (a.fdiv b) else none) a b
 |.Mod=>D6 (λa b=>if b≠0 then some (a.fmod b) else none) a b
 |_=>λ_=>none
theorem xz{x:Str}(h:x.length=0):x=⟨#[]⟩:=q1s Str.mk (Array.eq_empty_of_size_eq_zero h)
theorem GN(x y:Str)(h:x.length=0):x++y=y:=by rw[xz h];show Str.append _ _=_;unfold Str.append;rw[Array.empty_append]
theorem BY(x y:Str)(h:y.length=0):x++y=x:=by rw[xz h];show Str.append _ _=_;unfold Str.append;rw[Array.append_empty]
section
variable{F:ck}{W:Wd F}{a b:V}{x y:Value}{o:O}{n:Nat}{p:Addr×Addr}
theorem uL{x y:Str}{t u:Tok}(hl:x.length+y.length<=ax):(if x.length==0 then Made.val (.str y u) else if y.length==0 then Made.val (.str x t) else Made.str (x++y)).post (aB VR W (.str (x++y),W.σ)) W.s:=by
 split
 ·rename_i e;rw[GN x y (eq_of_beq e)];exact aB.same (.str _ _)
 ·split
  ·rename_i e;rw[BY x y (eq_of_beq e)];exact aB.same (.str _ _)
  ·exact⟨(Str.length_append x y).symm▸de hl,aB.toks _ (.str _ _)⟩
theorem OR.dx{K:Kx}{ρ:cY}{h:Heap}{vs:List V}(x:OR K ρ h (.list vs) p.1 p.2){P:Prop}(k:∀items,p=(p.1,p.1)->Pl h p.1->h.IsList p.1 items->bE ρ h vs items.toList->vs.length=items.size->P):P:=by
 obtain⟨a,d⟩:=p;cases x with
 |list q l v=>exact k _ rfl q l v v.length
theorem OR.gQ{K:Kx}{ρ:cY}{h:Heap}{vs:List (Str×V)}(x:OR K ρ h (.dict vs) p.1 p.2){P:Prop}(k:∀cM,p=(p.1,p.1)->h.DictOf (strKind K.prog K.w) p.1 cM->gF ρ h vs cM->P):P:=by
 obtain⟨a,d⟩:=p;cases x with
 |dict l v=>exact k _ rfl l v
theorem OR.EJ{K:Kx}{ρ:cY}{h:Heap}{vs:List V}(x:OR K ρ h (.d8 vs) p.1 p.2){P:Prop}(k:∀(j:Int)(items:Array Value),p=(p.1,p.1)->h.get? p.1=some {cls:=.type "collections.deque",data:=.fields (#[.none,rawInt j]++items)}->bE ρ h vs items.toList->vs.length=items.size->P):P:=by
 obtain⟨a,d⟩:=p;cases x with
 |d8 e v=>exact k _ _ rfl e v v.length
theorem OR.qs{K:Kx}{ρ:cY}{h:Heap}{C:Addr}{fs:List (Option V)}(x:OR K ρ h (.inst C fs) p.1 p.2){P:Prop}(k:∀es n,p.1≠p.2->h.get? p.1=some (instObj C p.2)->h.get? p.2=some (dictOf es n)->kR ρ h fs es->P):P:=by
 cases x with
 |inst e h1 h2 r=>exact k _ _ e h1 h2 r
theorem Wd.dx(W:Wd F){vs:List V}(e:cI W.σ.H n=some vs)(hp:W.ρ[n]?=some p){P:Prop}(k:∀items,p=(p.1,p.1)->Pl W.s.heap p.1->W.s.heap.IsList p.1 items->bE W.ρ W.s.heap vs items.toList->vs.length=items.size->P):P:=(W.fr.hr.obj n _ p (wg e) hp).dx k
theorem Wd.gQ(W:Wd F){vs:List (Str×V)}(e:dm W.σ.H n=some vs)(hp:W.ρ[n]?=some p){P:Prop}(k:∀cM,p=(p.1,p.1)->W.s.heap.DictOf (strKind F.K.prog F.K.w) p.1 cM->gF W.ρ W.s.heap vs cM->P):P:=(W.fr.hr.obj n _ p (wD e) hp).gQ k
theorem Wd.EJ(W:Wd F){vs:List V}(e:iW W.σ.H n=some vs)(hp:W.ρ[n]?=some p){P:Prop}(k:∀(j:Int)(items:Array Value),p=(p.1,p.1)->W.s.heap.get? p.1=some {cls:=.type "collections.deque",data:=.fields (#[.none,rawInt j]++items)}->bE W.ρ W.s.heap vs items.toList->vs.length=items.size->P):P:=(W.fr.hr.obj n _ p (wC e) hp).EJ k
theorem yi{h:Heap}{l:Addr}{items:Array Value}(x:h.IsList l items):∃n d s,h.get? l=some {cls:=.type "list",dict:=d,data:=.seq items n,slots:=s}:=by obtain⟨o,e,c,n,d⟩:=x;exact⟨n,o.dict,o.slots,e.trans (q1s some (vY c rfl d rfl))⟩
theorem ko{h:Heap}{items:List Value}{k:Array Value}(e:k=items.toArray):∃o,(h.push {cls:=.type "list",data:=.seq k}).get? h.objs.size=some o/\o.cls=.type "list" /\ (∃n,o.data=.seq items.toArray n)/\o.dict=none/\o.slots=#[]:=⟨_,q0n _ rfl,rfl,⟨0,e▸rfl⟩,rfl,rfl⟩
theorem add_lists{prog:Program}{w:World}{A:Around}{E:Value->Shared->Prop}{s:Shared}{l1 l2:Addr}{i1 i2:Array Value}(h1:s.heap.IsList l1 i1)(h2:s.heap.IsList l2 i2)(hz:i1.size+i2.size<=sizeLine){Q:Value->Shared->Prop}(q:Q (.ref s.heap.objs.size) {s with heap:=s.heap.push {cls:=.type "list",data:=.seq (i1++i2)}}):wpAny (model prog w) A (binaryOp .Add (.ref l1) (.ref l2)) Q E s:=by obtain⟨n1,d1,s1,e1⟩:=yi h1;obtain⟨n2,d2,s2,e2⟩:=yi h2;exact concat_meets h1.typeIs h2.typeIs noFill_list_add seq_list_add PySem.F.slot_list_add PySem.F.entry_list_add (PySem.F.args_list_add_2 _ _) (list_addW l1 l2 i1 i2 n1 n2 d1 d2 s1 s2 hz) ⟨e1,e2,q⟩
theorem F1(ra:VR W.ρ W.s.heap a x)(rb:VR W.ρ W.s.heap b y):Ok (λc=>F.wp (binaryOp .Add x y) (aB VR W (c.1,⟨c.2,W.σ.loc⟩)) W.s) (F2 a b W.σ.H):=by
 unfold F2;refine Ok.ba (λp e1=>Ok.map λq e2=>?_) (Ok.ba (λz e1=>Ok.bind λu e2=>Ok.iff λhl=>?_) (Ok.bind λm e3=>Ok.bind λn e4=>Ok.bind λxs e1=>Ok.bind λys e2=>Ok.iff λhl=>?_))
 ·exact ra.hB e1 λt=>rb.hB e2 λu=>P.add_int (aB.toks _ (.int _ _))
 ·exact ra.fC e1 λt=>rb.fC e2 λu=>P.add_str (uL hl)
 ·refine ra.ew e3 λp hp=>rb.ew e4 λq hq=>W.dx e1 hp λi1 _ _ h1 h2 h3=>W.dx e2 hq λi2 _ _ h4 h5 h6=>?_
  exact add_lists h1 h4 (de (h3▸h6▸hl)) (W.qo W.s.toks (.push _ _) (bu _ _) (q0c _) (ko (by simp)) (h2.append h5))
theorem kz{f:Int->Int->Option Int}(ra:VR W.ρ W.s.heap a x)(rb:VR W.ρ W.s.heap b y){T:Value->Value->Sem Value}(k:∀p q u v r,f p q=some r->F.wp (T (.int p u) (.int q v)) (aB VR W (.int r,W.σ)) W.s):Ok (λc=>F.wp (T x y) (aB VR W (c.1,⟨c.2,W.σ.loc⟩)) W.s) (D6 f a b W.σ.H):=Ok.bind λp e1=>Ok.bind λq e2=>Ok.map λr e=>ra.hB e1 λu=>rb.hB e2 λv=>k p q u v r e
@[elab_as_elim] theorem ifk{α:Type}{c:Prop}[Decidable c]{a r:α}{P:α->Prop}(e:(if c then some a else none)=some r)(h:c->P a):P r:=by
 by_cases hc:c
 ·rw[q1k hc] at e;exact q0a e▸h hc
 ·rw[q1l hc] at e;exact cE e
theorem Fv(op:Operator)(ra:VR W.ρ W.s.heap a x)(rb:VR W.ρ W.s.heap b y):dg VR W (binaryOp op x y) (au (bn op a b)):=by
 refine dg.on ?_;cases op with
 |Add=>exact F1 ra rb
 |Sub=>exact kz (T:=binaryOp .Sub) ra rb λp q u v r e=>q0a e▸P.sub_int (aB.toks _ (.int _ _))
 |Mult=>exact kz (T:=binaryOp .Mult) ra rb λp q u v r e=>ifk e λhl=>P.mul_int (aB.toks _ (.int _ _)) (IntMulOk.of_left (intBits_le_64 (by omega) (by omega)))
 |FloorDiv=>exact kz (T:=binaryOp .FloorDiv) ra rb λp q u v r e=>ifk e λhl=>floordiv_int hl.1 (aB.toks _ (.int _ _)) (.inl (PyProof.noPylong_small hl.2))
 |Mod=>exact kz (T:=binaryOp .Mod) ra rb λp q u v r e=>ifk e λhl=>mod_int' hl (aB.toks _ (.int _ _))
 |_=>exact Ok.none
end
section
open PySem.SeqAt (EqAt RcAt)
theorem rO(ho:s.heap.get? d=some o)(hd:o.data=.dict es ep)(hk:∀e∈es,∃k u,e.key=.str k u)(h:Q (es.findIdx? (λe=>e.key.isStr x)) s):wpAny (model prog w) A (dictFind d (.str x t) hs) Q E s:=by
 unfold dictFind;refine q1u ?_;refine q1f (wpAny_dictEntries ho hd ?_);have JP:(es.all λe=>isExactStrKey e.key)=true:=by rw[Array.all_eq_true_iff_forall_mem];intro e he;obtain⟨k,u,q⟩:=hk e he;rw[q];rfl
 dsimp only;rw[q1k JP];unfold foundByValue;cases hj:es.findIdx? (λe=>e.key.isStr x) with
 |none=>rw[hj] at h;exact q1e h
 |some j=>
  rw[hj] at h;obtain⟨fR,hp,_⟩:=Array.findIdx?_eq_some_iff_getElem.mp hj;obtain⟨k,u,q⟩:=hk _ (Array.getElem_mem fR);have hx:k=x:=by rw[q] at hp;simpa[Value.isStr] using hp
  subst hx;dsimp only;rw[q0o fR];dsimp only;refine wb (wpAny_dictEpoch ho hd ?_);rw[q];refine wb (wpAny_eqBool_str ?_);rw[q1w rfl];refine q1f (wpAny_dictEpoch ho hd ?_);simp only[bne_self_eq_false,Bool.false_eq_true,if_false,beq_self_eq_true,if_true];exact q1f (wpAny_rule (q1e h))
theorem pD(ha:(a==sysModules)=false)(hb:(b==sysModules)=false)(da:s.heap.DictOf (strKind p₀ w₀) a ka)(db:s.heap.DictOf (strKind p₀ w₀) b kb)(Q9:ka.length=kb.length->KeqHits A s kb ka r)(h:Q (ka.length==kb.length&&r) s):wpAny (model prog w) A (Builtin.Dict.samePairs nm a b) Q E s:=by
 obtain⟨oa,es,ep,YH,_,YQ,_,hpa,_⟩:=da;obtain⟨ob,fs,eq,YG,_,YO,hkb,Z3,_⟩:=db;have la:ka.length=es.size:=by rw[<-hpa.length,Array.length_toList]
 have lb:kb.length=fs.size:=by rw[<-Z3.length,Array.length_toList]
 have txt:∀e∈fs,∃k u,e.key=.str k u:=λe he=>by
  obtain⟨k,hk,_⟩:=hkb e he;obtain⟨u,hu⟩:=Value.isStrOf_shape hk;exact⟨k,u,hu⟩
 have WF:∀k,findBy Value.isStrOf fs k=valueAt kb k:=λk=>by
  rw[<-Z3.find k];clear lb Z3 hkb YO YG txt;obtain⟨l⟩:=fs;simp[findBy];rfl
 have a0b:∀x,fs.findIdx? (λe=>e.key.isStr x)=fs.findIdx? (λe=>Value.isStrOf x e.key):=λx=>by
  congr 1;funext e;exact isStr_of x e.key
 unfold Builtin.Dict.samePairs Builtin.Dict.showsAll;rw[q1l (by rw[ha];exact q0f),q1l (by rw[hb];exact q0f)];refine q1f (q1e (q1f (q1e (q1f (wpAny_dictEntries YH YQ ?_)))));dsimp only;refine q1f (wpAny_dictEntries YG YO ?_);by_cases hz:es.size=fs.size
 case neg=>
  rw[q1k (by simpa using hz)];have:(ka.length==kb.length)=false:=by rw[la,lb];simpa using hz
  rw[this,Bool.false_and] at h;exact q1f (wpAny_rule (q1e h))
 case pos=>
  have hr:Q r s:=by
   have:(ka.length==kb.length)=true:=by rw[la,lb];simpa using hz
   rw[this,Bool.true_and] at h;exact h
  have hh:=Q9 (by rw[la,lb];exact hz);rw[q1l (by rw[hz];simp)];refine wb (wpAny_dictEpoch YH YQ (wb ?_));rw[Std.Legacy.Range.forIn_eq_forIn_range'];simp only[Std.Legacy.Range.size,Nat.sub_zero,Nat.add_sub_cancel,Nat.div_one];refine wpAny_forIn_list _ (λrest q s'=>s'=s/\q=(none,())/\∃i,i+rest.length=es.size/\rest=List.range' i rest.length/\KeqHits A s kb (ka.drop i) r) _ ?_ ?_ _ _
   ⟨rfl,rfl,0,by simp,by simp,hh⟩
  ·rintro x rest q s' ⟨rfl,rfl,i,hn,hl,hp⟩
   have hx:x=i/\rest=List.range' (i+1) rest.length:=by rw[List.length_cons,List.range'_succ] at hl;exact⟨(List.cons.inj hl).1,(List.cons.inj hl).2⟩
   obtain⟨rfl,Wt⟩:=hx;have fR:x<es.size:=by rw[List.length_cons] at hn;lia
   have Tx:x<ka.length:=by lia
   refine q1f (wpAny_dictEntries YH YQ ?_);rw[q0o fR];obtain⟨Ek,ZV⟩:=hpa.get? (i:=x) (e:=es[x]) (k:=ka[x].1) (v:=ka[x].2) (by rw[q2i];exact q0o fR) (by rw[q0h Tx]);obtain⟨u,hu⟩:=Value.isStrOf_shape Ek;have hd:ka.drop x=(ka[x].1,ka[x].2)::ka.drop (x+1):=q2m Tx;rw[hd] at hp;show wpAny _ _ (holding [es[x].key,es[x].val] _>>=_) _ _ _;rw[hu];refine q1f (q1u (q1f (rO YG YO txt ?_)));rw[a0b];have hv:=WF ka[x].1;rw[findBy_of_findIdx?] at hv;cases hj:fs.findIdx? (λe=>Value.isStrOf ka[x].1 e.key) with
   |none=>
    rw[hj] at hv;rcases hp.inv with⟨_,er⟩ | ⟨y,_,_,hy,_⟩
    ·rw[er] at hr
     exact q1e (q1e (q1e hr))
    ·rw[<-hv] at hy;cases hy
   |some j=>
    obtain⟨YM,_,_⟩:=Array.findIdx?_eq_some_iff_getElem.mp hj;rw[hj] at hv;simp only[q0o YM,Option.map_some] at hv;refine q1f (wpAny_dictEntries YG YO ?_);rw[q0o YM];rcases hp.inv with⟨hn',_⟩ | ⟨y,e,b',hy,he,hrr,er⟩
    ·rw[<-hv] at hn';cases hn'
    ·have ey:fs[j].val=y:=by rw[<-hv] at hy;exact q0a hy
     rw[<-ey,<-ZV] at he;refine q1u (he prog w _ _ ?_);cases e with
     |false=>
      rw[er,Bool.false_and] at hr;exact q1e (q1e hr)
     |true=>
      rw[Bool.true_and] at er;rw[<-er] at hrr;show wpAny _ _ (if (!true)=true then _ else _) _ _ _;rw[q1l (by decide)];refine q1f (wpAny_dictEpoch YH YQ ?_);rw[q1l (by simp)];refine q1e ⟨rfl,rfl,x+1,?_,Wt,hrr⟩;rw[List.length_cons] at hn;lia
  ·rintro q s' ⟨rfl,rfl,i,hn,_,hp⟩
   have:i=ka.length:=by rw[la];simpa using hn
   rw[this,List.drop_length] at hp;cases hp
   exact q1e hr
theorem tj(ha:(a==sysModules)=false)(hb:(b==sysModules)=false)(da:s.heap.DictOf (strKind p₀ w₀) a ka)(db:s.heap.DictOf (strKind p₀ w₀) b kb)(hu:A.units<cLine)(Q9:ka.length=kb.length->KeqHits A.in1 s kb ka r):RcAt A s (.ref a) (.ref b) (ka.length==kb.length&&r):=by intro prog w E Q h;refine wpAny_richCompare_same_room (op:=.Eq) da.typeIs db.typeIs PySem.F.slot_dict_eq (q1z PySem.F.slot_dict_eq da.typeIs PySem.F.entry_dict_eq ?_ (PySem.F.args_dict_eq_2 _ _)) hu;show wpAny _ _ (Builtin.Dict.dictSlotArgs "__eq__" ⟨[.ref a,.ref b],[]⟩>>=_) _ _ s;refine wb ?_;unfold Builtin.Dict.dictSlotArgs;refine wb (wpAny_notOrdered_dict da.typeIs (q1e ?_));refine q1f (wpAny_isInstance (T:="dict") db.typeIs PySem.F.sub_dict_dict ?_);simp only[Bool.not_true,Bool.false_eq_true,if_false];refine wb (q1e (wb (q1e (wb (pD ha hb da db Q9 (q1e ⟨_,rfl,(by intro x;cases x),(by simpa using h)⟩))))))
end
section
open PySem.SeqAt (EqAt RcAt RcNeAt)
noncomputable def gT(f:V->V->Option Bool)(xs:List V):List V->Option Bool:=xs.rec (λys=>ys.casesOn (some true) λ_ _=>none) λx _ ih ys=>ys.casesOn none λy ys=>(f x y).bind λb=>(ih ys).map λc=>b&&c
def hitsD(f:V->V->Option Bool)(fs es:List (Str×V)):Option Bool:=es.rec (some true) λe _ ih=>(fs.lookup e.1).elim (some false) λu=>(f e.2 u).bind λb=>ih.map λc=>b&&c
inductive Pk where
 |n
 |i (a:Int)
 |s (x:Str)
noncomputable def vP:V->Option Pk
 |.none=>some .n
 |.int a=>some (.i a)
 |.str x=>some (.s x)
 |_=>none
noncomputable def eqK:Pk->Pk->Option Bool
 |.n,.n=>some true
 |.n,.s _=>some false
 |.s _,.n=>some false
 |.i a,.i b=>some (a==b)
 |.s a,.s b=>some (a==b)
 |_,_=>none
noncomputable def YU(a b:V):Option Bool:=(vP a).bind λk=>(vP b).bind λl=>eqK k l
noncomputable def Ny(f:V->V->Option Bool)(H:List O)(i j:Nat):Option Bool:=match cI H i,cI H j with
 |some xs,some ys=>if xs.length=ys.length then gT f xs ys else some false
 |_,_=>(dm H i).bind λes=>(dm H j).bind λfs=>if es.length=fs.length then hitsD f fs es else some false
noncomputable def gU:Nat->List O->V->V->Option Bool
 |0,_,a,b=>YU a b
 |n+1,H,a,b=>match vT a,vT b with
  |some xs,some ys=>if xs.length=ys.length then gT (gU n H) xs ys else none
  |_,_=>match vR a,vR b with
   |some i,some j=>if i=j then none else Ny (gU n H) H i j
   |_,_=>YU a b
inductive Y0:Pk->Value->Prop
 |n:Y0 .n .none
 |i (a t):Y0 (.i a) (.int a t)
 |s (x t):Y0 (.s x) (.str x t)
section
variable{F:ck}{W:Wd F}{ρ:cY}{s:Shared}{H:List O}{a b:V}{x y:Value}{r:Bool}{A:Around}{n:Nat}
theorem gF.lookup(r:gF ρ h es cM)(k:Str):(es.lookup k=none/\valueAt cM k=none)\/∃v y,es.lookup k=some v/\valueAt cM k=some y/\VR ρ h v y:=by
 induction r with
 |nil=>exact .inl ⟨rfl,rfl⟩
 |@cons k' v x es cM a _ ih=>
  unfold valueAt at ih ⊢;rw[List.lookup_cons,List.find?_cons];by_cases hk:k'=k
  ·subst hk
   rw[beq_self_eq_true,q1w rfl];exact .inr ⟨v,x,rfl,rfl,a⟩
  ·rw[q2d.mpr (Ne.symm hk),q1x hk]
   exact ih
theorem gF.length(r:gF ρ h es cM):es.length=cM.length:=by
 induction r with
 |nil=>rfl
 |cons _ _ ih=>exact q1s Nat.succ ih
theorem By(r:VR ρ h a x)(e:vP a=some k):Y0 k x:=by
 induction r with
 |none=>exact q0a e▸.n
 |int i t=>exact q0a e▸.i i t
 |str i t=>exact q0a e▸.s i t
 |_=>exact cE e
theorem oP(ra:VR ρ s.heap a x)(rb:VR ρ s.heap b y):Ok (λr=>(RcAt A s x y r/\EqAt A s x y r)/\RcNeAt A s x y (!r)/\(x=y->r=true)) (YU a b):=by
 refine Ok.bind λk e1=>Ok.bind λl e2=>?_;have h1:=By ra e1;have h2:=By rb e2;clear ra rb e1 e2
 induction h1 with
 |n=>induction h2 with
  |n=>exact .some ⟨⟨SeqAt.RcAt.none_none,SeqAt.EqAt.same _⟩,SeqAt.RcNeAt.none_none,λ_=>rfl⟩
  |s x t=>exact .some ⟨⟨SeqAt.RcAt.none_str _ _,SeqAt.EqAt.none_str _ _⟩,SeqAt.RcNeAt.none_str _ _,λe=>(nomatch e)⟩
  |i=>exact .none
 |i a t=>induction h2 with
  |i b u=>exact .some ⟨⟨SeqAt.RcAt.int_int _ _ _ _,SeqAt.EqAt.int_int _ _ _ _⟩,SeqAt.RcNeAt.int_int _ _ _ _,λe=>q1v.mpr (Value.int.inj e).1⟩
  |_=>exact .none
 |s a t=>induction h2 with
  |s b u=>exact .some ⟨⟨SeqAt.RcAt.str_str _ _ _ _,SeqAt.EqAt.str_str _ _ _ _⟩,SeqAt.RcNeAt.str_str _ _ _ _,λe=>q1v.mpr (Value.str.inj e).1⟩
  |n=>exact .some ⟨⟨SeqAt.RcAt.str_none _ _,SeqAt.EqAt.str_none _ _⟩,SeqAt.RcNeAt.str_none _ _,λe=>(nomatch e)⟩
  |i=>exact .none
theorem lW:∀{ys:List V},Ok (λr=>∃g:Nat->Bool,r=(List.range xs.length).all g/\∀j x y,xs[j]?=some x->ys[j]?=some y->f x y=some (g j)) (gT f xs ys):=by
 induction xs with
 |nil=>intro ys;cases ys with
  |nil=>exact .some ⟨λ_=>true,rfl,λj x y h=>(nomatch h)⟩
  |cons=>exact .none
 |cons x xs ih=>intro ys;cases ys with
  |nil=>exact .none
  |cons y ys=>
   refine Ok.bind λb e1=>Ok.map λc e2=>?_;obtain⟨g,hr,hg⟩:=ih _ e2;refine⟨λj=>j.casesOn b g,?_,λj u v h1 h2=>?_⟩
   ·rw[List.length_cons,List.range_succ_eq_map,List.all_cons,List.all_map,hr];rfl
   ·cases j with
    |zero=>exact q0a h1▸q0a h2▸e1
    |succ j=>exact hg j u v h1 h2
theorem wP(ih:∀(a b:V)(x:Value),VR ρ s.heap a x->VR ρ s.heap b x->Ok (· = true) (gU n H a b))(v1:bE ρ s.heap xs items):∀{ys:List V},bE ρ s.heap ys items->Ok (· = true) (gT (gU n H) xs ys):=by
 induction v1 with
 |nil=>intro ys v2;cases v2;exact .some rfl
 |cons p1 _ ihx=>intro ys v2;cases v2 with
  |cons p2 q2=>exact Ok.bind λb e1=>Ok.map λc e2=>by rw[ih _ _ _ p1 p2 _ e1,ihx q2 _ e2];rfl
theorem Ex(A:Around){K:Kx}(R:HR K ρ H s.heap):∀(n:Nat)(a b:V)(x:Value),VR ρ s.heap a x->VR ρ s.heap b x->Ok (· = true) (gU n H a b):=by
 intro n
 induction n with
 |zero=>intro a b x ra rb r e;exact(oP (A:=A) ra rb r e).2.2 rfl
 |succ n ih=>
  intro a b x ra rb;unfold gU;split
  ·rename_i xs ys h1 h2
   refine Ok.ifs λ_=>?_;revert rb;refine ra.tupK h1 λp i1 t1 v1 _=>λrb=>?_;generalize hx:Value.ref p=x at rb;revert hx;refine rb.tupK h2 λq i2 t2 v2 _ hx=>?_;obtain rfl:=Value.ref.inj hx;obtain⟨o,ho,_,n1,hd⟩:=t1;obtain⟨o',Wx,_,n2,Bm⟩:=t2;obtain rfl:=q0a (ho.symm.trans Wx);obtain⟨rfl,_⟩:=Data.seq.inj (hd.symm.trans Bm);exact wP ih v1 v2
  ·split
   ·rename_i i j h1 h2
    refine Ok.Yw λWA=>?_;revert rb;refine ra.ew h1 λp hp=>λrb=>?_;generalize hx:Value.ref p.1=x at rb;revert hx;refine rb.ew h2 λq hq hx=>?_;exact q1t (Value.ref.inj hx) (R.sep i j _ _ hp hq WA).1
   ·exact λr e=>(oP (A:=A) ra rb r e).2.2 rfl
theorem Wd.eL(W:Wd F)(hp:W.ρ[n]?=some p):(p.1==sysModules)=false:=q2d.mpr (q1d (q0l W.sys (W.fr.hr.hi n p hp).1))
def L5(W:Wd F)(n:Nat):Prop:=∀(a b:V)(x y:Value)(A:Around),A.units+n<cLine->VR W.ρ W.s.heap a x->VR W.ρ W.s.heap b y->Ok (λr=>RcAt A W.s x y r/\EqAt A W.s x y r) (gU n W.σ.H a b)
theorem Ea(hu:A.units+(n+1)<cLine):A.in1.units+n<cLine:=by show A.units+1+n<_;rw[Nat.add_assoc,Nat.add_comm 1];exact hu
theorem Ew(ih:L5 W n)(hu:A.units+(n+1)<cLine){xs ys:List V}{i1 i2:Array Value}{g:Nat->Bool}(v1:bE W.ρ W.s.heap xs i1.toList)(v2:bE W.ρ W.s.heap ys i2.toList)(hg:∀j x y,xs[j]?=some x->ys[j]?=some y->gU n W.σ.H x y=some (g j))(j:Nat)(h1:j<i1.size)(h2:j<i2.size):EqAt A.in1 W.s i1[j] i2[j] (g j):=by have l1:j<xs.length:=Nat.lt_of_lt_of_eq h1 v1.length.symm;have l2:j<ys.length:=Nat.lt_of_lt_of_eq h2 v2.length.symm;obtain⟨x',e1,r1⟩:=v1.get (q0h l1);obtain⟨y',e2,r2⟩:=v2.get (q0h l2);rw[q2i,q0o h1] at e1;rw[q2i,q0o h2] at e2;exact(ih _ _ _ _ A.in1 (Ea hu) (q0a e1▸r1) (q0a e2▸r2) _ (hg j _ _ (q0h l1) (q0h l2))).2
theorem J5(ih:L5 W n)(hu:A.units+(n+1)<cLine)(v2:gF W.ρ W.s.heap fs kb)(v1:gF W.ρ W.s.heap es ka):Ok (λr=>KeqHits A.in1 W.s kb ka r) (hitsD (gU n W.σ.H) fs es):=by
 induction v1 with
 |nil=>exact .some .nil
 |@cons key v x es cM rv k ihe=>
  show Ok _ (Option.elim (fs.lookup key) _ _);rcases v2.lookup key with⟨l1,l2⟩ | ⟨u,y,l1,l2,ru⟩
  ·rw[l1];exact .some (.miss l2)
  ·rw[l1]
   exact Ok.bind λb e1=>Ok.map λc e2=>.hit l2 (ih _ _ _ _ A.in1 (Ea hu) rv ru _ e1).2 (ihe _ e2)
theorem Rr{i j:Nat}{p q:Addr×Addr}(ih:L5 W n)(hu:A.units+(n+1)<cLine)(hp:W.ρ[i]?=some p)(hq:W.ρ[j]?=some q):Ok (λr=>RcAt A W.s (.ref p.1) (.ref q.1) r) (Ny (gU n W.σ.H) W.σ.H i j):=by
 have Gg:A.units<cLine:=q0r (q0u _ _) hu;unfold Ny;split
 ·rename_i xs ys h1 h2
  refine W.dx h1 hp λi1 _ _ t1 v1 a1=>W.dx h2 hq λi2 _ _ t2 v2 a2=>Ok.ite (λhl r e=>?_) λhl=>.some ?_
  ·obtain⟨g,hr,hg⟩:=lW _ e
   have:=SeqAt.RcAt.lists (A:=A) (s:=W.s) (e:=g) t1 t2 (a1.symm.trans (hl.trans a2)) Gg (Ew ih hu v1 v2 hg);rw[<-a1,<-hr] at this;exact this
  ·exact SeqAt.RcAt.lists_lengths t1 t2 (bne_iff_ne.mpr λe=>hl (a1.trans (e.trans a2.symm))) Gg
 ·refine Ok.bind λes h1=>Ok.bind λfs h2=>W.gQ h1 hp λka _ t1 v1=>W.gQ h2 hq λkb _ t2 v2=>?_
  have a1:=v1.length;have a2:=v2.length
  refine Ok.ite (λhl r e=>?_) λhl=>.some ?_
  ·have:=tj (A:=A) (W.eL hp) (W.eL hq) t1 t2 Gg (λ_=>J5 ih hu v2 v1 r e)
   rw[q1v.mpr (a1.symm.trans (hl.trans a2)),Bool.true_and] at this;exact this
  ·have:=tj (A:=A) (r:=false) (W.eL hp) (W.eL hq) t1 t2 Gg (λh=>q1t (a1.trans (h.trans a2.symm)) hl)
   rw[Bool.and_false] at this;exact this
theorem rK(W:Wd F):∀(n:Nat),L5 W n:=by
 intro n
 induction n with
 |zero=>intro a b x y A _ ra rb r e;exact(oP ra rb r e).1
 |succ n ih=>
  intro a b x y A hu ra rb;have same:=Ex A W.fr.hr (n+1) a b x ra;unfold gU at same ⊢;split
  ·rename_i xs ys h1 h2
   refine Ok.ifs λhl r e=>?_;have same:=λrb=>same rb r (by rw[h1,h2];exact(q1k hl).trans e);have Zw:=rb;revert same;refine ra.tupK h1 λp i1 t1 v1 a1 same=>?_;revert Zw;refine rb.tupK h2 λq i2 t2 v2 a2 Zw=>?_;obtain⟨g,hr,hg⟩:=lW _ e;have rc:RcAt A W.s (.ref p) (.ref q) r:=by have:=SeqAt.RcAt.tuples (A:=A) (s:=W.s) (e:=g) t1 t2 (q0r (q0u _ _) hu) (Ew ih hu v1 v2 hg);rw[<-a1,<-a2,<-hl,Nat.min_self,<-hr,beq_self_eq_true,Bool.and_true] at this;exact this
   refine⟨rc,?_⟩;by_cases hpq:p=q
   ·subst hpq
    rw[same Zw];exact SeqAt.EqAt.same _
   ·exact SeqAt.EqAt.of_refs hpq rc
  ·split
   ·rename_i i j h1 h2
    refine Ok.Yw λWA=>ra.ew h1 λp hp=>rb.ew h2 λq hq r e=>?_;have h:=Rr ih hu hp hq r e;exact⟨h,SeqAt.EqAt.of_refs (W.fr.hr.sep i j p q hp hq WA).1 h⟩
   ·exact λr e=>(oP ra rb r e).1
end
end
section
open PySem.SeqAt (EqAt RcAt RcNeAt)
noncomputable def fZ(y x:Str):Bool:=!(PySem.Builtin.Str.occurrences x y 0 x.length 1).isEmpty
noncomputable def kM(f:V->V->Option Bool)(x:V):List V->Option Bool
 |[]=>some false
 |v::vs=>(f v x).bind λb=>(kM f x vs).map λc=>b||c
noncomputable def Nf(n:Nat)(H:List O)(a b:V):Option Bool:=match vR a,vR b with
 |some i,some j=>(cI H i).bind λxs=>(cI H j).bind λys=>if xs.length=ys.length then(gT (gU n H) xs ys).map (!·) else some true
 |_,_=>(YU a b).map (!·)
inductive Ik where
 |none
 |bool (b:Bool)
 |type (t:String)
 |cls (a:Addr)
 |other
noncomputable def vK:V->Option Ik
 |.none=>some .none
 |.bool b=>some (.bool b)
 |.top u=>match u with
  |.type t=>some (.type t)
  |.ref a=>some (.cls a)
  |_=>none
 |.str _=>some .other
 |.int _=>some .other
 |.ref _=>some .other
 |.tup _=>some .other
 |.iH _=>none
noncomputable def isK:Ik->Ik->Option Bool
 |.none,.none=>some true
 |.none,.other=>some false
 |.other,.none=>some false
 |.other,.bool _=>some false
 |.bool a,.bool b=>some (a==b)
 |.type a,.type b=>some (a==b)
 |.cls a,.cls b=>if a=b then some true else if a∈iX/\b∈iX then some false else none
 |_,_=>none
noncomputable def ZK(a b:V):Option Bool:=(vK a).bind λk=>(vK b).bind λl=>isK k l
inductive Gn:Ik->Value->Prop
 |none:Gn .none .none
 |bool (b):Gn (.bool b) (.bool b)
 |type (t):Gn (.type t) (.type t)
 |cls (a):Gn (.cls a) (.ref a)
 |str (x t):Gn .other (.str x t)
 |int (x t):Gn .other (.int x t)
 |ref (a):Gn .other (.ref a)
def ug(n:Nat)(H:List O)(a b:V):Option Bool:=ba (vS b) (λx=>(vS a).map λy=>fZ y x) <| ba (vT b) (λxs=>kM (gU n H) a xs) <| (vR b).bind λi=>ba (cI H i) (λxs=>kM (gU n H) a xs) <| (dm H i).bind λes=>(vS a).map λk=>(es.lookup k).isSome
def z7(f:Int->Int->Bool)(a b:V):Option Bool:=(vI a).bind λp=>(vI b).map λq=>f p q
noncomputable def bC(op:CmpOp)(H:List O)(a b:V):Option Bool:=match op with
 |.Eq=>gU 8 H a b
 |.NotEq=>Nf 8 H a b
 |.Is=>ZK a b
 |.IsNot=>(ZK a b).map (!·)
 |.In=>ug 8 H a b
 |.NotIn=>(ug 8 H a b).map (!·)
 |.Lt=>z7 (λa b=>decide (a<b)) a b
 |.LtE=>z7 (λa b=>decide (a<=b)) a b
 |.Gt=>z7 (λa b=>decide (a > b)) a b
 |.GtE=>z7 (λa b=>decide (a≥b)) a b
section
variable{F:ck}{W:Wd F}{ρ:cY}{s:Shared}{H:List O}{a b:V}{x y:Value}{r:Bool}{A:Around}{n:Nat}{M:Model}{E:Value->Shared->Prop}{Q:Value->Shared->Prop}
theorem Be{f:V->V->Option Bool}{x:V}{vs:List V}:Ok (λr=>(r=false/\∀v∈vs,f v x=some false)\/(r=true/\(∃v∈vs,f v x=some true)/\∀v∈vs,∃c,f v x=some c)) (kM f x vs):=by
 induction vs with
 |nil=>exact .some (.inl ⟨rfl,λ_ h=>(nomatch h)⟩)
 |cons v vs ih=>
  refine Ok.bind λb e1=>Ok.map λc e2=>?_;have q:=ih c e2;cases b with
  |true=>
   refine .inr ⟨rfl,⟨v,q0g,e1⟩,λu hu=>?_⟩;cases q0m.mp hu with
   |inl h=>exact⟨_,h▸e1⟩
   |inr h=>exact q.elim (λq=>⟨_,q.2 u h⟩) λq=>q.2.2 u h
  |false=>
   refine q.imp (λq=>⟨q.1,λu hu=>?_⟩) λq=>⟨q.1,q.2.1.imp λ_ h=>⟨q0k _ h.1,h.2⟩,λu hu=>?_⟩
   ·exact(q0m.mp hu).elim (λh=>h▸e1) (q.2 u)
   ·exact(q0m.mp hu).elim (λh=>⟨_,h▸e1⟩) (q.2.2 u)
theorem bE.mem(r:bE ρ h vs xs):(∀y∈xs,∃v∈vs,VR ρ h v y)/\∀v∈vs,∃y∈xs,VR ρ h v y:=by
 induction r with
 |nil=>exact⟨λ_ h=>(nomatch h),λ_ h=>(nomatch h)⟩
 |@cons v vs x xs a _ ih=>
  refine⟨λy hy=>(q0m.mp hy).elim (λe=>⟨v,q0g,e▸a⟩) λh=>(ih.1 y h).imp λ_ q=>⟨q0k _ q.1,q.2⟩,λu hu=>(q0m.mp hu).elim (λe=>⟨x,q0g,e▸a⟩) λh=>(ih.2 u h).imp λ_ q=>⟨q0k _ q.1,q.2⟩⟩
theorem zb(W:Wd F)(hu:A.units+8<cLine)(ra:VR W.ρ W.s.heap a x)(q:bE W.ρ W.s.heap xs items):Ok (λr=>∃f:Value->Bool,items.any f=r/\∀y∈items,EqAt A W.s y x (f y)) (kM (gU 8 W.σ.H) a xs):=λr e=>by
 classical
 have eq:∀{v y c},VR W.ρ W.s.heap v y->gU 8 W.σ.H v a=some c->EqAt A W.s y x c:=λh1 h2=>(rK W 8 _ a _ x A hu h1 ra _ h2).2;cases Be r e with
 |inl h=>
  refine⟨λ_=>false,by rw[h.1];simp,λy hy=>?_⟩;obtain⟨v,h1,h2⟩:=q.mem.1 y hy;exact eq h2 (h.2 v h1)
 |inr h=>
  obtain⟨h1,⟨v,hv,h2⟩,h3⟩:=h;refine⟨λy=>decide (EqAt A W.s y x true),?_,λy hy=>?_⟩
  ·obtain⟨y,hy,g⟩:=q.mem.2 v hv
   rw[h1];exact List.any_eq_true.mpr ⟨y,hy,q1w (eq g h2)⟩
  ·show EqAt A W.s y x (decide (EqAt A W.s y x true))
   by_cases g:EqAt A W.s y x true
   ·rw[q1w g];exact g
   ·rw[q1x g]
    obtain⟨u,g1,g2⟩:=q.mem.1 y hy;obtain⟨c,g3⟩:=h3 u g1;cases c with
    |false=>exact eq g2 g3
    |true=>exact q1t (eq g2 g3) g
theorem Bz(r:VR ρ h a x)(e:vK a=some k):Gn k x:=by
 induction r with
 |none=>exact q0a e▸.none
 |bool b=>exact q0a e▸.bool b
 |int i t=>exact q0a e▸.int i t
 |str i t=>exact q0a e▸.str i t
 |tup'=>exact q0a e▸.ref _
 |ref=>exact q0a e▸.ref _
 |iH=>exact cE e
 |@top v _=>cases v with
  |type t=>exact q0a e▸.type t
  |ref a=>exact q0a e▸.cls a
  |_=>exact cE e
theorem QW(hC:∀a∈iX,∃o,s.heap.get? a=some o/\o.cls≠.type "tuple")(ra:Gn k x)(rb:Gn l y):Ok (λr=>Q (.bool r) s->wpAny M A (compareOp .Is x y) Q E s) (isK k l):=by
 have pl:∀{x y:Value}{r:Bool},plainIs x y=true->(x==y)=r->Q (.bool r) s->wpAny M A (compareOp .Is x y) Q E s:=λhp hq h=>wpAny_is_plain hp (hq.symm▸h)
 induction ra with
 |none=>induction rb with
  |none=>exact .some (pl rfl rfl)
  |str=>exact .some (pl rfl rfl)
  |int=>exact .some (pl rfl rfl)
  |ref=>exact .some (pl rfl rfl)
  |_=>exact .none
 |bool p=>induction rb with
  |bool q=>exact .some (pl rfl (by cases p<;>cases q<;>rfl))
  |_=>exact .none
 |type p=>induction rb with
  |type q=>exact .some (pl rfl (Bool.eq_iff_iff.mpr (q1v.trans (Iff.trans ⟨Value.type.inj,q1s _⟩ q1v.symm))))
  |_=>exact .none
 |cls p=>induction rb with
  |cls q=>
   refine Ok.ite (λe=>.some λh=>e▸wpAny_is_ref_self h) λne=>Ok.ifs λhc=>.some λh=>?_;obtain⟨o,h1,h2⟩:=hC p hc.1;obtain⟨o',h3,_⟩:=hC q hc.2;exact wpAny_is_ref_other ne h1 h3 h2 h
  |_=>exact .none
 |str=>induction rb with
  |none=>exact .some (pl rfl rfl)
  |bool=>exact .some (pl rfl rfl)
  |_=>exact .none
 |int=>induction rb with
  |none=>exact .some (pl rfl rfl)
  |bool=>exact .some (pl rfl rfl)
  |_=>exact .none
 |ref=>induction rb with
  |none=>exact .some (pl rfl rfl)
  |bool=>exact .some (pl rfl rfl)
  |_=>exact .none
theorem yj(W:Wd F)(ra:VR W.ρ W.s.heap a x)(rb:VR W.ρ W.s.heap b y):Ok (λr=>Q (.bool r) W.s->wpAny M A (compareOp .Is x y) Q E W.s) (ZK a b):=Ok.bind λ_ e1=>Ok.bind λ_ e2=>QW W.cls (Bz ra e1) (Bz rb e2)
theorem QC(h:wpAny M A (compareOp .Is x y) (λv s'=>∃c,v=.bool c/\Q (.bool (!c)) s') E s):wpAny M A (compareOp .IsNot x y) Q E s:=by have e:compareOp .IsNot x y=(do return .bool (!(<-isSame x y))):=rfl;have e':compareOp .Is x y=(do return .bool (<-isSame x y)):=rfl;rw[e'] at h;rw[e];intro Γ p hΓ;have:=h Γ p hΓ;simp only[Sem.wp_bind',Sem.wp_pure'] at this ⊢;exact Sem.wp_mono _ Γ _ (λc p' s' hc=>hc.elim λd hd=>(Value.bool.inj hd.1).symm▸hd.2) (λ_ _ _ z=>z) _ _ this
theorem Ji(W:Wd F)(hu:A.units+16<cLine)(ra:VR W.ρ W.s.heap a x)(rb:VR W.ρ W.s.heap b y):Ok (λr=>RcNeAt A W.s x y r) (Nf 8 W.σ.H a b):=by
 have Gg:A.units<cLine:=q0r (q0u _ _) hu;unfold Nf;split
 ·rename_i i j g1 g2
  refine ra.ew g1 λp hp=>rb.ew g2 λq hq=>Ok.bind λxs h1=>Ok.bind λys h2=>W.dx h1 hp λi1 _ _ t1 v1 a1=>W.dx h2 hq λi2 _ _ t2 v2 a2=>Ok.ite (λhl=>Ok.map λc e=>?_) λhl=>.some ?_
  ·obtain⟨g,hr,hg⟩:=lW _ e
   have:=SeqAt.RcNeAt.lists (A:=A) (s:=W.s) (e:=g) t1 t2 (a1.symm.trans (hl.trans a2)) Gg (Ew (rK W 8) (q0r (q2j (by decide) _) hu) v1 v2 hg);rw[<-a1,<-hr] at this;exact this
  ·exact SeqAt.RcNeAt.lists_lengths t1 t2 (bne_iff_ne.mpr λe=>hl (a1.trans (e.trans a2.symm))) Gg
 ·exact Ok.map λc e=>(oP ra rb c e).2.1
def a0P(prog:Program)(w:World)(A:Around)(s:Shared)(x y:Value)(r:Bool):Prop:=∀(E:Value->Shared->Prop)(Q:Value->Shared->Prop),((∀t,Q (.bool r) {s with toks:=t})->wpAny (model prog w) A (compareOp .In x y) Q E s)/\((∀t,Q (.bool (!r)) {s with toks:=t})->wpAny (model prog w) A (compareOp .NotIn x y) Q E s)
theorem nE{items:Array Value}{f:Value->Bool}{r:Bool}(h:items.toList.any f=r):items.any f=r:=Array.any_toList.symm.trans h
theorem yo(W:Wd F)(hu:A.units+16<cLine)(ra:VR W.ρ W.s.heap a x)(rb:VR W.ρ W.s.heap b y):Ok (a0P F.K.prog F.K.w A W.s x y) (ug 8 W.σ.H a b):=by
 have Gg:A.in1.units+8<cLine:=q0r (q0d (q2q (Nat.add_assoc _ 1 8)) (q2j (by decide) _)) hu;refine Ok.ba (λz g1=>Ok.map λu g2=>?_) (Ok.ba (λxs g1=>?_) (Ok.bind λi g1=>?_))
 ·exact ra.fC g2 λt=>rb.fC g1 λt'=>λE Q=>⟨λh=>P.in_str (h W.s.toks),λh=>P.notIn_str (h W.s.toks)⟩
 ·refine rb.tupK g1 λp items t1 v1 _ r e=>?_
  obtain⟨f,hf,hg⟩:=zb (A:=A.in1) W Gg ra v1 r e;exact λE Q=>⟨λh=>SeqAt.in_tupleAt f t1 (λy hy=>hg y hy.val) ((nE hf).symm▸h W.s.toks),λh=>SeqAt.notIn_tupleAt f t1 (λy hy=>hg y hy.val) ((nE hf).symm▸h W.s.toks)⟩
 ·refine rb.ew g1 λp hp=>Ok.ba (λxs h1 r e=>W.dx h1 hp λitems _ _ t1 v1 _=>?_) (Ok.bind λes h1=>Ok.map λk g2=>W.gQ h1 hp λcM _ t1 v1=>ra.fC g2 λt=>?_)
  ·obtain⟨f,hf,hg⟩:=zb (A:=A.in1) W Gg ra v1 r e
   exact λE Q=>⟨λh=>SeqAt.in_listAt f t1 (λy hy=>hg y hy.val) ((nE hf).symm▸h W.s.toks),λh=>SeqAt.notIn_listAt f t1 (λy hy=>hg y hy.val) ((nE hf).symm▸h W.s.toks)⟩
  ·have e:(es.lookup k).isSome=(valueAt cM k).isSome:=by rcases v1.lookup k with⟨a,b⟩ | ⟨_,_,a,b,_⟩<;>rw[a,b]<;>rfl
   rw[e];exact λE Q=>⟨λh=>wpAny_in_of (strKind_is F.K.prog F.K.w k t) (W.eL hp) t1.mapOf (h _),λh=>wpAny_notIn_of (strKind_is F.K.prog F.K.w k t) (W.eL hp) t1.mapOf (h _)⟩
@[elab_as_elim] theorem ordD_K{f:Int->Int->Bool}{P:Value->Value->Bool->Prop}(ra:VR W.ρ W.s.heap a x)(rb:VR W.ρ W.s.heap b y)(k:∀p q t u,P (.int p t) (.int q u) (f p q)):Ok (P x y) (z7 f a b):=Ok.bind λp e1=>Ok.map λq e2=>VR.hB (P:=λx=>P x y (f p q)) ra e1 λt=>VR.hB (P:=λy=>P (.int p t) y (f p q)) rb e2 λu=>k p q t u
theorem ER(W:Wd F)(op:CmpOp)(ra:VR W.ρ W.s.heap a x)(rb:VR W.ρ W.s.heap b y):Ok (λr=>∀(Q:Value->Shared->Prop),(∀t,Q (.bool r) {W.s with toks:=t})->F.wp (compareOp op x y) Q W.s) (bC op W.σ.H a b):=by
 have hu:=F.room.units;have ord:∀{f:Int->Int->Bool},(∀p q t u (Q:Value->Shared->Prop),Q (.bool (f p q)) W.s->F.wp (compareOp op (.int p t) (.int q u)) Q W.s)->Ok (λr=>∀(Q:Value->Shared->Prop),(∀t,Q (.bool r) {W.s with toks:=t})->F.wp (compareOp op x y) Q W.s) (z7 f a b):=λg=>
  ordD_K (P:=λx y r=>∀(Q:Value->Shared->Prop),(∀t,Q (.bool r) {W.s with toks:=t})->F.wp (compareOp op x y) Q W.s) ra rb λp q t u Q h=>g p q t u Q (h W.s.toks)
 cases op with
 |Eq=>exact λr e Q h=>(rK W 8 a b x y F.A (q0r (q2j (by decide) _) hu) ra rb r e).1 _ _ _ Q (h W.s.toks)
 |NotEq=>exact λr e Q h=>Ji W hu ra rb r e _ _ _ Q (h W.s.toks)
 |Lt=>exact ord λp q t u Q h=>P.lt_int h
 |LtE=>exact ord λp q t u Q h=>P.le_int h
 |Gt=>exact ord λp q t u Q h=>P.gt_int h
 |GtE=>exact ord λp q t u Q h=>P.ge_int h
 |Is=>exact λr e Q h=>yj W ra rb r e (h W.s.toks)
 |IsNot=>exact Ok.map λr e Q h=>QC (yj W ra rb r e ⟨r,rfl,h W.s.toks⟩)
 |In=>exact λr e Q h=>(yo W hu ra rb r e _ Q).1 h
 |NotIn=>exact Ok.map λr e Q h=>(yo W hu ra rb r e _ Q).2 h
end
end
namespace Dq
theorem nR:Slot "collections.deque" "__len__" "collections.deque.__len__" :=.of (owner:="collections.deque") (n:="__len__") (by rw[typeLookup_type,q2b];kernel_rfl) (by decide +kernel) (by decide +kernel) (by decide +kernel) (by first | exact .inl (by decide +kernel) | exact .inr (by decide +kernel)) (by rw[isSubtype_type];kernel_rfl)
theorem entry_len:entryFor table "collections.deque.__len__" = some Builtin.«collections.deque.__len__» :=entryFor_of_tree (by kernel_rfl)
theorem FY(a:Value):argsOk "collections.deque.__len__" ⟨[a],[]⟩:=by unfold argsOk;kernel_rfl
theorem noBool:typeLookup (.type "collections.deque") "__bool__" = pure none:=by rw[typeLookup_type,q2b];kernel_rfl
end Dq
section
variable{prog:Program}{w:World}{A:Around}{s:Shared}
noncomputable abbrev eQ(k:Int)(items:Array Value):Obj:={cls:=.type "collections.deque",data:=.fields (#[.none,rawInt k]++items)}
theorem vd(hd:s.heap.get? d=some (eQ j items))(hz:items.size<=ax)(h:Q (!items.isEmpty) {s with toks:=s.toks+1+1}):wpAny (model prog w) A (truthy (.ref d)) Q E s:=by
 have hT:s.TypeIs (.ref d) "collections.deque" :=⟨_,hd,rfl⟩
 have my:((items.size:Int) != 0) = !items.isEmpty:=by
  unfold Array.isEmpty;rcases Nat.eq_zero_or_pos items.size with e | e
  ·rw[e];rfl
  ·have h2:items.size≠0:=by lia
   have h1:((items.size:Int) != 0)=true:=bne_iff_ne.mpr (by lia);rw[h1,q1x h2];rfl
 have nz:=z9.2;have body:wpAny (model prog w) A.in1 (Builtin.«len» ⟨[.ref d],[]⟩) (λfin s'=>∃r,fin=.done (.ret r)/\r=.int items.size (s.toks+1)/\Q (!items.isEmpty) s') E s:=by
  unfold Builtin.«len»;refine wb (m:=oneArg "len" _) (q1e ?_);refine wb (m:=callSpecial? (.ref d) (Str.ofString "__len__")) (wpAny_callSpecial?_slot (name:=Str.ofString "__len__") hT Dq.nR (q1z Dq.nR hT Dq.entry_len ?_ (Dq.FY _)))
  show wpAny _ _ (do retInt (<-Builtin.Deque.size (<-slotArgs "__len__" 0 ⟨[.ref d],[]⟩).1)) _ _ s;refine wb (m:=slotArgs "__len__" 0 _) (q1e ?_);unfold Builtin.Deque.size;refine wb (wb (wpAny_fieldsOf hd rfl (q1e ?_)));have mx:(#[Value.none,rawInt j]++items).size-2=items.size:=by simp
  rw[mx];refine wb (wpAny_mkInt (q1e ⟨_,rfl,?_⟩));refine wb (q1u (q1e ?_));refine wb (wpAny_letGo ?_);show wpAny _ _ (if ((items.size:Nat):Int)<0 then _ else _) _ _ _;rw[q1l (by lia)];show wpAny _ _ (if ((items.size:Nat):Int)≥2 ^ 63 then _ else _) _ _ _;rw[q1l (by lia)];exact wb (wpAny_mkInt (q1e ⟨_,rfl,rfl,h⟩))
 have key:wpAny (model prog w) A (runValue (.builtin "len" ⟨[.ref d],[]⟩)) (λr s'=>r=.int items.size (s.toks+1)/\Q (!items.isEmpty) s') E s:=by refine wpAny_runValue (codeAny_builtin entry_len ?_);rw[Around.under_plainId plain_len _];exact q1h body (λfin s' h'=>by obtain⟨r,rfl,hq⟩:=h';exact hq) λ_ _ e=>e
 unfold truthy;refine wb (wpAny_callSpecial?_none (name:=Str.ofString "__bool__") hT Dq.noBool ?_);refine wb (wpAny_specialOf (name:=Str.ofString "__len__") hT Dq.nR.lookup ?_);exact wb (q1h key (λr s' h'=>by obtain⟨rfl,hq⟩:=h';exact q1e (my▸hq)) λ_ _ e=>e)
end
theorem oB(h:n<=ax):(n:Int)<2 ^ 63:=Int.lt_of_le_of_lt (Int.ofNat_le.mpr h) (by decide)
noncomputable def fw(H:List O):V->Option Bool
 |.none=>some false
 |.bool b=>some b
 |.int i=>some (i != 0)
 |.str x=>if x.length<=ax then some (decide (x.length≠0)) else none
 |.ref n=>ba (cI H n) (λvs=>if vs.length<=ax then some (!vs.isEmpty) else none) <|(iW H n).bind λvs=>if vs.length<=ax then some (!vs.isEmpty) else none
 |_=>none
theorem oI{ρ:cY}{h:Heap}{vs:List V}{items:Array Value}(v:bE ρ h vs items.toList):items.isEmpty=vs.isEmpty:=by
 cases vs with
 |nil=>rw[Array.isEmpty_iff.mpr (Array.toList_eq_nil_iff.mp v.nil_inv)];rfl
 |cons a r=>exact q1x λe=>Nat.succ_ne_zero _ (v.length.trans e)
section
variable{F:ck}{a:V}{x:Value}
theorem vf(W:Wd F)(ra:VR W.ρ W.s.heap a x):Ok (λr=>∀(Q:Bool->Shared->Prop),(∀t,Q r {W.s with toks:=t})->F.wp (truthy x) Q W.s) (fw W.σ.H a):=by
 induction ra with
 |none=>exact .some λQ h=>truthy_none (h W.s.toks)
 |bool b=>exact .some λQ h=>wpAny_truthy_bool (h W.s.toks)
 |int i t=>exact .some λQ h=>P.truthy_int (h W.s.toks)
 |str z t=>
  refine Ok.iff λhl Q h=>P.truthy_str (Int.not_le.mpr (oB hl)) ?_;have:(((Str.length z:Nat):Int) != 0)=decide (Str.length z≠0):=by
   by_cases hz:Str.length z=0
   ·rw[hz];rfl
   ·rw[q1w hz];exact bne_iff_ne.mpr (λe=>hz (Int.ofNat.inj e))
  rw[this];exact h _
 |ref hp=>
  refine Ok.ba (λvs e=>Ok.iff λhl Q h=>?_) (Ok.bind λvs e=>Ok.iff λhl Q h=>?_)
  ·exact W.dx e hp λitems _ _ t1 v1 l=>wpAny_truthy_list t1 (oB (l▸hl)) (by rw[oI v1];exact h _)
  ·exact W.EJ e hp λj items _ t1 v1 l=>vd t1 (l▸hl) (by rw[oI v1];exact h _)
 |_=>exact .none
end
section
variable{F:ck}{W W₁:Wd F}{v a b:V}{x y:Value}
theorem Oj(i:Int)(k:Nat)(pos:Pos):aM F (.Constant (.int i) k pos) (Z (.int i)):=λ_ _ hm=>q0a hm▸wpAny_Constant_int (aB.toks _ (.int _ _))
theorem N9(z:Str)(k:Nat)(pos:Pos):aM F (.Constant (.str z) k pos) (Z (.str z)):=λ_ _ hm=>q0a hm▸Constant_str (aB.toks _ (.str _ _))
theorem G0(k:Nat)(pos:Pos):aM F (.Constant .none k pos) (Z .none):=λ_ _ hm=>q0a hm▸wpAny_Constant_none (aB.same .none)
theorem G9(t:Bool)(k:Nat)(pos:Pos):aM F (.Constant (.bool t) k pos) (Z (.bool t)):=λ_ _ hm=>q0a hm▸wpAny_Constant_bool (aB.same (.bool _))
noncomputable def af(i:Nat):M V:=λσ=>match σ.loc[i]? with
 |some (some v)=>some (v,σ)
 |_=>none
theorem ku{γ:Type}{i:Nat}{f:V->M γ}{σ:St}{r:γ×St}{P:Prop}(hm:Y (af i) f σ=some r)(k:∀v,σ.loc[i]?=some (some v)->f v σ=some r->P):P:=dH hm λc e h=>by
 unfold af at e;split at e
 ·rename_i v e'
  obtain rfl:=q0a e;exact k v e' h
 ·exact cE e
theorem bT{names:List (Str×NameKind)}(nd:(names.map (·.1)).Nodup){i:Nat}{x:Str}{k:NameKind}(h:names[i]?=some (x,k)):names.lookup x=some k:=by
 induction names generalizing i with
 |nil=>cases h
 |cons p r ih=>
  obtain⟨y,kk⟩:=p;rw[q1p,List.nodup_cons] at nd;cases i with
  |zero=>obtain⟨rfl,rfl⟩:=q0v (q0a h);exact List.lookup_cons_self
  |succ i=>
   rw[List.lookup_cons,q2d.mpr λ(e:x=y)=>nd.1 (show y∈_ from e▸List.mem_map_of_mem (f:=(·.1)) (q2k (i:=i) h))];exact ih nd.2 h
theorem Wd.load(W:Wd F){i:Nat}{x':Str}{k:NameKind}(hn:F.c.sc.names[i]?=some (x',k))(hk:k=.local\/k=.cell\/k=.free)(hv:W.σ.loc[i]?=some (some v))(hc:(x'==("__classdict__" : Str))=false){Q:Value->Shared->Prop}(q:∀y,VR W.ρ W.s.heap v y->Q y W.s):F.wp (loadName F.env x') Q W.s:=by
 rw[<-F.sc] at hn;have hl:=bT F.nd hn;rcases hk with rfl | rfl | rfl
 ·obtain⟨m,M,lm⟩:=W.fr.loc
  obtain⟨y,e,r⟩:=lm i x' v hn hv;exact wpAny_loadName_local F.kind hl M.ns e (q y r)
 ·obtain⟨cc,e1,vo,e2,e3⟩:=W.fr.cel i x' _ hn (.inl rfl)
  obtain⟨y,e,r⟩:=e3 v hv;exact wpAny_loadName_cell F.kind hl e1 (e▸e2) (q y r)
 ·obtain⟨cc,e1,vo,e2,e3⟩:=W.fr.cel i x' _ hn (.inr rfl)
  obtain⟨y,e,r⟩:=e3 v hv;exact wpAny_loadName_free F.kind hl e1 (e▸e2) (q y r) hc
theorem Oi{i:Nat}{x':Str}{k:NameKind}{pos:Pos}(hn:F.c.sc.names[i]?=some (x',k))(hk:k=.local\/k=.cell\/k=.free)(hd:(x'==("__debug__" : Str))=false)(hc:(x'==("__classdict__" : Str))=false):aM F (.Name x' pos) (af i):=λW r hm=>by
 unfold af at hm;split at hm
 ·rename_i v hv;exact q0a hm▸wpAny_Name (W.load hn hk hv hc λy r=>aB.same r) hd
 ·exact cE hm
def Gl(B:Heap)(x:Str)(v:Value):Prop:=∃mg mb,B.Ns mainGlobals mg/\B.Ns builtinsNs mb/\(mg x=some v\/(mg x=none/\mb x=some v))
theorem Cg(hx:F.c.sc.names.lookup x'=some .globalImplicit)(g:Gl F.K.B x' u)(ht:jJ u=true)(hd:(x'==("__debug__" : Str))=false):aM F (.Name x' pos) (Z (.top u)):=λW r hm=>by
 obtain⟨mg,mb,h1,h2,h3⟩:=g;have n1:W.s.heap.Ns F.env.globals mg:=F.glob.symm▸h1.keeps W.fr.hr.stays;have n2:W.s.heap.Ns F.env.builtins mb:=F.blt.symm▸h2.keeps W.fr.hr.stays;have done:aB VR W r u W.s:=aB.ret hm (.top ht) .refl;exact Name_function_global F.kind (by show F.env.scope.names.lookup x'=_;rw[F.sc];exact hx) (h3.elim (λh=>loadGlobal_global n1 h done) λh=>loadGlobal_builtin n1 h.1 n2 h.2 done) hd
theorem nC(hx:F.c.sc.names.lookup x'=some .globalImplicit)(g:Gl F.K.B x' u)(ht:jJ u=true)(hd:(x'==("__debug__" : Str))=false)(q:∀W₁:Wd F,W.Le W₁->W₁.σ=W.σ->Q u W₁.s):F.wp (eval (.Name x' pos) F.env) Q W.s:=wp_mono (Cg hx g ht hd W _ rfl) λb s p=>p.open λW' r le h1 h2=>by
 cases r;cases h2;exact q W' le h1
theorem Oo(L:aM F l ml)(R:aM F r mr):aM F (.BinOp l op r pos) (Y ml λa=>Y mr λb=>au (bn op a b)):=λW _ hm=>
 wpAny_BinOp ((L W).use hm λ_ _ W₁ r₁ q₁ hm=>(R W₁).use hm λ_ _ W₂ r₂ q₂ hm=>(Fv op (q₂.vr r₁) r₂).last hm (q₁.trans q₂))
noncomputable def g7(a:V):M V:=match a with
 |.int i=>Z (.int (-i))
 |_=>λ_=>none
theorem Jh(r:VR W.ρ W.s.heap a x):dg VR W (unaryOp .USub x) (g7 a):=by
 induction r with
 |int i t=>exact λ_ hm=>q0a hm▸P.neg_int (aB.toks _ (.int _ _))
 |_=>exact λ_ hm=>cE hm
theorem Og(L:aM F l ml):aM F (.UnaryOp .USub l pos) (Y ml g7):=λW _ hm=>
 wpAny_UnaryOp ((L W).use hm λ_ _ W₁ r₁ q₁ hm=>(Jh r₁).last hm q₁)
def aF(op:CmpOp)(a b:V):M Bool:=nZ λH=>bC op H a b
theorem yO(op:CmpOp)(ra:VR W.ρ W.s.heap a x)(rb:VR W.ρ W.s.heap b y){γ:Type}{f:Bool->M γ}{r:γ×St}{Q:Value->Shared->Prop}(hm:Y (aF op a b) f W.σ=some r)(k:∀c W₁,W.Le W₁->f c W₁.σ=some r->Q (.bool c) W₁.s):F.wp (compareOp op x y) Q W.s:=fE hm λc e h=>ER W op ra rb c e Q λt=>k c (W.toks t) (W.gv t) h
theorem On{l r:Expr}{ml mr:M V}{op:CmpOp}{pos:Pos}(L:aM F l ml)(R:aM F r mr)(hb:behindInMarks op r=false):aM F (.Compare l [op] [r] pos) (Y ml λa=>Y mr λb=>Y (aF op a b) λt=>Z (.bool t)):=λW _ hm=>
 wpAny_Compare1 ((L W).use hm λ_ _ W₁ r₁ q₁ hm=>(R W₁).use hm λ_ _ W₂ r₂ q₂ hm=>yO op (q₂.vr r₁) r₂ hm λ_ W₃ q₃ hm=>aB.ret hm (.bool _) (q₁.trans (q₂.trans q₃))) hb
theorem Vs{m:M Bool}:Y m Z=m:=by funext σ;unfold Y Z;cases m σ<;>rfl
theorem G8{l r:Expr}{ml mr:M V}{op:CmpOp}{pos:Pos}(L:aM F l ml)(R:aM F r mr)(hb:behindInMarks op r=false):jr F (.Compare l [op] [r] pos) (Y ml λa=>Y mr λb=>aF op a b):=λW _ hm=>
 wpAny_isTrue_Compare1 ((L W).use hm λ_ _ W₁ r₁ q₁ hm=>(R W₁).use hm λ_ _ W₂ r₂ q₂ hm=>yO (f:=Z) op (q₂.vr r₁) r₂ (Vs.symm▸hm) λ_ _ q₃ hm=>wpAny_truthy_bool (aB.ret hm rfl (q₁.trans (q₂.trans q₃)))) hb
def aD(a:V):M Bool:=nZ λH=>fw H a
theorem pR(ra:VR W.ρ W.s.heap a x){γ:Type}{f:Bool->M γ}{r:γ×St}{Q:Bool->Shared->Prop}(hm:Y (aD a) f W.σ=some r)(k:∀c W₁,W.Le W₁->f c W₁.σ=some r->Q c W₁.s):F.wp (truthy x) Q W.s:=fE hm λc e h=>vf W ra c e Q λt=>k c (W.toks t) (W.gv t) h
noncomputable def lx(e:Expr):Bool:=!(Nat.beq e.ctorIdx 3||(Nat.beq e.ctorIdx 0||(Nat.beq e.ctorIdx 5||Nat.beq e.ctorIdx 15)))
theorem mT{e:Expr}(h:lx e=true)(env:Env)(iA:Sem Value):isTrue e env iA=(do let v <-iA;standAt e.pos;holding [v] (truthy v)):=by
 cases e with
 |UnaryOp=>exact q1t h q0f
 |BoolOp=>exact q1t h q0f
 |IfExp=>exact q1t h q0f
 |Compare=>exact q1t h q0f
 |_=>rfl
theorem Cc{e:Expr}{m:M V}(L:aM F e m)(hp:lx e=true):jr F e (Y m aD):=λW _ hm=>
 wpAny_isTrue_value ((L W).use hm λ_ _ W₁ r₁ q₁ hm=>pR (f:=Z) r₁ (Vs.symm▸hm) λ_ _ q₂ hm=>aB.ret hm rfl (q₁.trans q₂)) (mT hp _ _)
theorem GZ(L:jr F e m):jr F (.UnaryOp .Not e pos) (Y m λt=>Z (!t)):=λW _ hm=>
 wpAny_isTrue_Not ((L W).use hm λ_ _ _ e q hm=>aB.ret hm (q1s Bool.not e) q)
noncomputable def bv:List (M Bool)->M Bool
 |[]=>Z true
 |m::ms=>Y m λt=>if t then bv ms else Z false
noncomputable def iL:List (M Bool)->M Bool
 |[]=>Z false
 |m::ms=>Y m λt=>if t then Z true else iL ms
inductive mG(F:ck):List Expr->List (M Bool)->Prop
 |nil:mG F [] []
 |cons {e es m ms}:jr F e m->mG F es ms->mG F (e::es) (m::ms)
theorem S9(S:mG F es ms):∀W:Wd F,dg BR W (allTrue .And es F.env) (bv ms):=by
 induction S with
 |nil=>exact λW _ hm=>wpAny_allTrue_And_nil (aB.ret hm rfl .refl)
 |cons S _ ih=>exact λW _ hm=>wpAny_allTrue_And_cons ((S W).cond hm (λW₁ q hm=>(ih W₁).last hm q) λW₁ q hm=>aB.ret hm rfl q)
theorem X7(S:mG F es ms):∀W:Wd F,dg BR W (allTrue .Or es F.env) (iL ms):=by
 induction S with
 |nil=>exact λW _ hm=>wpAny_allTrue_Or_nil (aB.ret hm rfl .refl)
 |cons S _ ih=>exact λW _ hm=>wpAny_allTrue_Or_cons ((S W).cond hm (λW₁ q hm=>aB.ret hm rfl q) λW₁ q hm=>(ih W₁).last hm q)
theorem Hq(S:mG F es ms):jr F (.BoolOp .And es pos) (bv ms):=λW _ hm=>wpAny_isTrue_BoolOp (S9 S W _ hm)
theorem Oe(S:mG F es ms):jr F (.BoolOp .Or es pos) (iL ms):=λW _ hm=>wpAny_isTrue_BoolOp (X7 S W _ hm)
theorem Ol{t a b:Expr}{mt:M Bool}{ma mb:M V}{pos:Pos}(T:jr F t mt)(L:aM F a ma)(R:aM F b mb):aM F (.IfExp t a b pos) (Y mt λt=>if t then ma else mb):=λW _ hm=>
 wpAny_IfExp ((T W).cond hm (λW₁ q hm=>(L W₁).last hm q) λW₁ q hm=>(R W₁).last hm q)
theorem Hr{a b:Expr}{ma mb:M V}{pos:Pos}(L:aM F a ma)(R:aM F b mb):aM F (.BoolOp .And [a,b] pos) (Y ma λx=>Y (aD x) λt=>if t then mb else Z x):=λW _ hm=>
 wpAny_And2 ((L W).use hm λ_ _ W₁ r₁ q₁ hm=>pR r₁ hm λc W₂ q₂ hm=>by
  cases c with
  |true=>exact(R W₂).last hm (q₁.trans q₂)
  |false=>exact aB.ret hm (q₂.vr r₁) (q₁.trans q₂))
noncomputable def an:List (M V)->M (List V)
 |[]=>Z []
 |m::ms=>Y m λv=>Y (an ms) λvs=>Z (v::vs)
inductive dz(F:ck):List Expr->List (M V)->Prop
 |nil:dz F [] []
 |cons {e es m ms}:isStarred e=false->aM F e m->dz F es ms->dz F (e::es) (m::ms)
theorem eU(h:isStarred e=false)(es:List Expr)(env:Env):starEach (e::es) env=(false,eval e env)::starEach es env:=by
 cases e with
 |Starred=>exact q1t h (λe=>q0f e.symm)
 |_=>rfl
theorem oR(S:dz F es ms):∀W:Wd F,dg bE W (spliced (backTo pos (starEach es F.env))) (an ms):=by
 induction S with
 |nil=>exact λW _ hm=>Calls.spliced_nil (aB.ret hm .nil .refl)
 |cons hs S _ ih=>
  intro W _ hm;rw[eU hs];exact Calls.spliced_cons ((S W).use hm λ_ _ W₁ r₁ q₁ hm=>(ih W₁).use hm λ_ _ W₂ r₂ q₂ hm=>aB.ret hm (.cons (q₂.vr r₁) r₂) (q₁.trans q₂))
def cR(vs:List V):M V:=if vs.length<=ax then Z (.tup vs) else λ_=>none
theorem rm(r:bE W.ρ W.s.heap vs xs):dg VR W (newTuple xs) (cR vs):=λ_ hm=>by
 unfold cR at hm;split at hm
 ·rename_i hl
  refine q0a hm▸q2a (aB.grown W.s.toks (.push _ _) (bu _ _) (.tup (W.new (q0c _)) (IsTup.new W.s.heap xs.toArray) (r.mono (.push _ _) (.refl _)))) ?_;exact de (q0d (q2q (List.size_toArray.trans r.length.symm)) hl)
 ·exact cE hm
theorem N8(S:dz F es ms):aM F (.Tuple es k pos) (Y (an ms) cR):=λW _ hm=>
 Tuple_ ((oR S W).use hm λ_ _ W₁ r₁ q₁ hm=>(rm r₁).last hm q₁)
noncomputable def bt(vs:List V):HM V:=λH=>if vs.length<=ax then some (.ref H.length,H++[.list vs]) else none
theorem tM(r:bE W.ρ W.s.heap vs xs):dg VR W (newList xs) (au (bt vs)):=dg.on <| Ok.iff λhl=>by
 refine q2a (W.qo W.s.toks (.push _ _) (bu _ _) (q0c _) (ko rfl) r) ?_;exact de (q0d (q2q (List.size_toArray.trans r.length.symm)) hl)
theorem Oh(S:dz F es ms):aM F (.List es pos) (Y (an ms) λvs=>au (bt vs)):=λW _ hm=>
 List_ ((oR S W).use hm λ_ _ W₁ r₁ q₁ hm=>(tM r₁).last hm q₁)
end
theorem jC{α:Type}(l:List α):∀n:Nat,(List.range n).filterMap (λj=>l[j]?)=l.take n:=by
 intro n
 induction n with
 |zero=>rfl
 |succ n ih=>
  rw[List.range_succ,List.filterMap_append,ih,List.take_add_one];cases h:l[n]?<;>simp[h]
noncomputable def f0(vs:List V)(k:Int):Option V:=(seqIndex? k vs.length).bind (vs[·]?)
def Q3(vs:List V)(k:Int):Option V:=if vs.length<=ax then f0 vs k else none
def df(H:List O)(a b:V):Option V:=ba (vI b) (λk=>ba (vR a) (λn=>(cI H n).bind λvs=>Q3 vs k) <| ba (vT a) (λvs=>Q3 vs k) <| (vS a).bind λx=>if x.length<=ax then((seqIndex? k x.length).bind (x.cps[·]?)).map λc=>.str ⟨#[c]⟩ else none) <| (vS b).bind λkey=>(vR a).bind λn=>(dm H n).bind λes=>es.lookup key
theorem gq{k:Int}{n j:Nat}(h:seqIndex? k n=some j) : -(n:Int)<=k/\k<n/\j<n/\(0<=k->k.toNat=j)/\(k<0->(k+n).toNat=j):=by
 unfold seqIndex? at h;by_cases hk:k<0
 ·simp only[hk,if_true,Bool.and_eq_true,decide_eq_true_eq] at h
  exact ifk h λq=>⟨by omega,Int.lt_of_lt_of_le hk (Int.natCast_nonneg n),(Int.toNat_lt q.1).mpr q.2,λh0=>q1t hk (Int.not_lt.mpr h0),λ_=>rfl⟩
 ·simp only[hk,if_false,Bool.and_eq_true,decide_eq_true_eq] at h
  exact ifk h λq=>⟨Int.le_trans (Int.neg_nonpos_of_nonneg (Int.natCast_nonneg n)) q.1,q.2,(Int.toNat_lt q.1).mpr q.2,λ_=>rfl,λh0=>q1t h0 hk⟩
section
variable{F:ck}{W W₁:Wd F}{v a b:V}{x y:Value}{prog:Program}{w:World}{A:Around}{s:Shared}
structure Yh(W:Wd F)(x y:Value)(v:V):Prop where
 is:∃T id,W.s.TypeIs x T/\typeLookup (.type T) "__getitem__" = pure (some (.builtin id))
 get:∀Q:Value->Shared->Prop,(∀u t,VR W.ρ W.s.heap v u->Q u {W.s with toks:=t})->F.wp (getItem x y) Q W.s
theorem yq{vs:List V}{items:Array Value}{k:Int}{ρ:cY}{h:Heap}(r:bE ρ h vs items.toList)(l:vs.length=items.size):Ok (λv=>∃j u,seqIndex? k items.size=some j/\items[j]?=some u/\VR ρ h v u) (f0 vs k):=Ok.bind λj e1 v e2=>(r.get e2).elim λu q=>⟨j,u,l▸e1,q2i.symm.trans q.1,q.2⟩
theorem Ep{l:Addr}{items:Array Value}{k:Int}{j:Nat}{t:Tok}{u:Value}{Q:Value->Shared->Prop}(h:s.heap.IsList l items)(hl:items.size<=ax)(e1:seqIndex? k items.size=some j)(e2:items[j]?=some u)(q:Q u s):wpAny (model prog w) A (getItem (.ref l) (.int k t)) Q no s:=by
 have b:=gq e1;have nz:=z9.2;by_cases hk:k<0
 ·exact wpAny_getItem_list_neg h hk (by lia) (by lia) (b.2.2.2.2 hk▸e2) q
 ·exact wpAny_getItem_list h (by lia) (by lia) (b.2.2.2.1 (by lia)▸e2) q
theorem JR{l:Addr}{items:Array Value}{k:Int}{j:Nat}{t:Tok}{u:Value}{Q:Value->Shared->Prop}(h:s.heap.IsTuple l items)(hl:items.size<=ax)(e1:seqIndex? k items.size=some j)(e2:items[j]?=some u)(q:Q u s):wpAny (model prog w) A (getItem (.ref l) (.int k t)) Q no s:=by have b:=gq e1;have nz:=z9.2;exact PyProof.Rows.getItem_tuple h (by lia) (by lia) e1 e2 q
theorem far{z:Str}{k:Int}{j:Nat}(hl:z.length<=ax)(e:seqIndex? k z.length=some j):(decide (k < -(2 ^ 63))||decide (k≥2 ^ 63))=false:=by have b:=gq e;have nz:=z9.2;rw[q1x (by lia),q1x (by lia)];rfl
theorem qq(W:Wd F)(ra:VR W.ρ W.s.heap a x)(rb:VR W.ρ W.s.heap b y):Ok (Yh W x y) (df W.σ.H a b):=by
 refine Ok.ba (λk g1=>Ok.ba (λn g2=>Ok.bind λvs g3=>Ok.ifs λhl v e=>?_) (Ok.ba (λvs g2=>Ok.ifs λhl v e=>?_) (Ok.bind λz g2=>Ok.ifs λhl=>Ok.map λc e=>?_))) (Ok.bind λkey g1=>Ok.bind λn g2=>Ok.bind λes g3 v e=>?_)
 ·refine ra.ew g2 λp hp=>rb.hB g1 λt=>W.dx g3 hp λitems _ _ t1 v1 l=>?_
  obtain⟨j,u,e1,e2,r⟩:=yq v1 l v e;exact⟨⟨"list",_,t1.typeIs,slot_list_getitem.lookup⟩,λQ h=>Ep t1 (l▸hl) e1 e2 (h u W.s.toks r)⟩
 ·refine ra.tupK g2 λp items t1 v1 l=>rb.hB g1 λt=>?_
  obtain⟨j,u,e1,e2,r⟩:=yq v1 l v e;exact⟨⟨"tuple",_,t1.typeIs,PySem.F.slot_tuple_getitem.lookup⟩,λQ h=>JR t1 (l▸hl) e1 e2 (h u W.s.toks r)⟩
 ·refine ra.fC g2 λt=>rb.hB g1 λu=>⟨⟨"str",_,typeIs_str W.s z t,PySem.F.slot_str_getitem.lookup⟩,λQ h=>P.getItem_str ?_ e (h _ _ (.str _ _))⟩
  cases q:seqIndex? k z.length with
  |none=>rw[q] at e;exact cE e
  |some j=>exact far hl q
 ·refine ra.ew g2 λp hp=>rb.fC g1 λt=>W.gQ g3 hp λcM _ t1 v1=>?_
  rcases v1.lookup key with⟨q1,_⟩ | ⟨v2,y2,q1,q2,r⟩
  ·exact cE (q1.symm.trans e)
  ·obtain rfl:=q0a (q1.symm.trans e)
   exact⟨⟨"dict",_,t1.typeIs,slot_dict_getitem.lookup⟩,λQ h=>wpAny_getItem_of (strKind_is F.K.prog F.K.w key t) t1.mapOf q2 (h _ _ r)⟩
def av(a b:V):M V:=nZ λH=>df H a b
noncomputable def iM(e:Expr):Bool:=!(Nat.beq e.ctorIdx 26)
theorem jY{e:Expr}(h:iM e=true)(o i:Value):subscripted e false o i=operate [o,i] (getItem o i):=by
 cases e with
 |Slice=>exact q1t h q0f
 |_=>rfl
theorem G3{o i:Expr}{mo mi:M V}{pos:Pos}(L:aM F o mo)(R:aM F i mi)(hi:iM i=true):aM F (.Subscript o i pos) (Y mo λa=>Y mi λb=>av a b):=λW _ hm=>
 Subscript_ ((L W).use hm λa xa W₁ r₁ q₁ hm=>(R W₁).use hm λb xb W₂ r₂ q₂ hm=>(dg.rd (R:=VR) (t:=subscriptTail o i xa xb) (f:=λH=>df H a b) λv e=>by
  have I:=qq W₂ (q₂.vr r₁) r₂ v e;obtain⟨T,id,hT,hl⟩:=I.is;exact tail_any hT hl (I.get _ λu t r=>aB.toks t r) (jY hi _ _)).last hm (q₁.trans q₂))
noncomputable def iK(vs:List V)(lo hi:Option Int):List V:=(sliceRange (sliceBounds lo hi none vs.length).1 (sliceBounds lo hi none vs.length).2.1 (sliceBounds lo hi none vs.length).2.2).filterMap (vs[·]?)
noncomputable def za(H:List O)(n:Nat):Option Obj:=match H[n]? with
 |some (.arg ob)=>some ob
 |_=>none
theorem wO{H:List O}{n:Nat}{ob:Obj}(h:za H n=some ob):H[n]?=some (.arg ob):=by
 unfold za at h;split at h
 ·rename_i e;exact q0a h▸e
 ·exact cE h
def DO(H:List O)(n:Nat):Option (List V):=ba (cI H n) some ((za H n).map pL)
def bY(a:V)(lo hi:Option Int):HM V:=λH=>ba (vS a) (λx=>if x.length<=ax then some (.str (Txt.slice x lo hi),H) else none) <| ba (vR a) (λn=>(DO H n).bind λvs=>if vs.length<=ax/\(iK vs lo hi).length<=ax then some (.ref H.length,H++[.list (iK vs lo hi)]) else none) <| (vT a).bind λvs=>hi.bind λk=>if lo.isNone=true/\0<k/\k<vs.length/\vs.length<=ax then some (.tup (vs.take k.toNat),H) else none
theorem bE.pick{ρ:cY}{h:Heap}{vs:List V}{xs:List Value}(r:bE ρ h vs xs)(is:List Nat):bE ρ h (is.filterMap (vs[·]?)) (is.filterMap (xs[·]?)):=by
 induction is with
 |nil=>exact .nil
 |cons i is ih=>
  rw[List.filterMap_cons,List.filterMap_cons];cases e:vs[i]? with
  |none=>
   have:xs[i]?=none:=by rw[List.getElem?_eq_none_iff] at e ⊢;rw[<-r.length];exact e
   rw[this];exact ih
  |some v=>
   obtain⟨x,e2,rv⟩:=r.get e;rw[e2];exact .cons rv ih
noncomputable def qj:V->Option (Option Int)
 |.none=>some none
 |.int i=>some (some i)
 |_=>none
structure zi(_:cY)(_:Heap)(k:Option Int)(x:Value):Prop where
 is:IsPart x k
 ex:∃p:Option (Int×Tok),x=partValue p/\p.map (·.1)=k
theorem I8{ρ:cY}{h:Heap}{u:V}{x:Value}(r:VR ρ h u x):Ok (λk=>zi ρ h k x) (qj u):=by
 induction r with
 |none=>exact .some ⟨.none,none,rfl,rfl⟩
 |int i t=>exact .some ⟨.int _ _,some (_,t),rfl,rfl⟩
 |_=>exact .none
theorem zK{k:Int}{t:Tok}{P:Option Int->Shared->Prop}(h:P (some k) s):wpAny (model prog w) A (Builtin.Slice.slicePartIndex (.int k t)) P no s:=by unfold Builtin.Slice.slicePartIndex;exact q1i (KPc.ite_no q0f (wb (wpAny_specialOf (T:="int") (typeIs_int s k t) int_index (q1i (KPc.ite_no q0f (wb (q1g (a:=k) rfl (q1e h))))))))
theorem sT{sl:Addr}{k:Int}{t:Tok}{n:Nat}{P:Int×Int×Nat->Shared->Prop}(hs:s.heap.get? sl=some {cls:=.type "slice",data:=.fields #[.none,.int k t,.none]})(h0:0<k)(h1:k<n)(h:P (0,1,k.toNat) s):wpAny (model prog w) A (Builtin.Slice.sliceApplied (.ref sl) (pure (n:Int))) P no s:=by
 have e1:Builtin.Slice.sliceAdjust none (some k) 1 (n:Int)=(0,k):=by unfold Builtin.Slice.sliceAdjust;simp only[show ¬((1:Int)<0) by decide,if_false,Int.not_lt.mpr (Int.le_of_lt h0),Int.min_eq_left (Int.le_of_lt h1)]
 have e2:Builtin.Slice.slicePlaces 0 k 1=k.toNat:=by unfold Builtin.Slice.slicePlaces;simp only[show(1:Int) > 0 by decide,if_true,h0,Int.ediv_one];congr 1;lia
 unfold Builtin.Slice.sliceApplied Builtin.Slice.sliceFields;refine wb (wb (q1y hs rfl (i:=0) rfl (wb (q1y hs rfl (i:=1) rfl (wb (q1y hs rfl (i:=2) rfl (q1e ?_)))))));refine wb (m:=Builtin.Slice.slicePartIndex .none) (q1e ?_);refine q1i (KPc.ite_no (by decide) ?_);refine wb (m:=Builtin.Slice.slicePartIndex .none) (q1e ?_);refine wb (m:=Builtin.Slice.slicePartIndex (.int k t)) (zK ?_);refine wb (q1e ?_);show wpAny _ _ (pure ((Builtin.Slice.sliceAdjust none (some k) 1 (n:Int)).1,(1:Int),Builtin.Slice.slicePlaces (Builtin.Slice.sliceAdjust none (some k) 1 (n:Int)).1 (Builtin.Slice.sliceAdjust none (some k) 1 (n:Int)).2 1)) _ _ _;rw[e1,e2];exact q1e h
theorem sE{p sl:Addr}{items:Array Value}{k:Int}{t:Tok}{Q:Value->Shared->Prop}(ht:s.heap.IsTuple p items)(hs:s.heap.get? sl=some {cls:=.type "slice",data:=.fields #[.none,.int k t,.none]})(h0:0<k)(h1:k<items.size)(hz:items.size<=ax)(h:Q (.ref s.heap.objs.size) {s with heap:=s.heap.push {cls:=.type "tuple",data:=.seq (items.toList.take k.toNat).toArray}}):wpAny (model prog w) A (getItem (.ref p) (.ref sl)) Q no s:=by
 obtain⟨o,ho,hc,n,hd⟩:=id ht;have e3:(List.range k.toNat).filterMap (λ(j:Nat)=>items[((0:Int)+(j:Int)*1).toNat]?)=items.toList.take k.toNat:=by rw[<-jC items.toList k.toNat];congr 1;funext j;rw[q2i,Int.zero_add,Int.mul_one,Int.toNat_natCast]
 unfold getItem;refine q1u (wb (wpAny_sequenceKey ht.typeIs (by decide) ?_));refine wb (wpAny_callSpecial?_slot (name:=Str.ofString "__getitem__") ht.typeIs PySem.F.slot_tuple_getitem
  (q1z PySem.F.slot_tuple_getitem ht.typeIs PySem.F.entry_tuple_getitem ?_ (PySem.F.args_tuple_getitem_2 _ _)))
 refine wb (m:=Builtin.Tuple.tupleItemsOf (.ref p)) (wb (q2o ho hd (q1e ?_)));refine wb (m:=typeOf (.ref sl)) (wb (wpAny_loadPart hs (q1e ?_)));refine q1i (KPc.ite_yes rfl ?_);refine wb (sT hs h0 h1 ?_);refine q1i (KPc.ite_no (λe=>q1t (eq_of_beq ((Bool.and_eq_true _ _).mp e).2) (q0t ((Int.toNat_lt (Int.le_of_lt h0)).mpr h1))) ?_)
 ·show wpAny _ _ (Builtin.Tuple.tupleExact ((List.range k.toNat).filterMap (λ(j:Nat)=>items[((0:Int)+(j:Int)*1).toNat]?)).toArray>>=_) _ _ _
  rw[e3];refine wb (m:=Builtin.Tuple.tupleExact _) (q2a (q1e ⟨_,rfl,q1e h⟩) ?_);show(items.toList.take k.toNat).toArray.size<=sizeLine;rw[List.size_toArray,List.length_take];exact q0d (Nat.min_le_right _ _) (de hz)
noncomputable def cx(m:Option (M V)):M (Option Int):=match m with
 |none=>Z none
 |some m=>Y m λu=>match qj u with
  |some k=>Z k
  |none=>λ_=>none
inductive wU(F:ck):Option Expr->Option (M V)->Prop
 |absent:wU F none none
 |part {e m}:aM F e m->wU F (some e) (some m)
theorem wU.snd{e:Option Expr}{m:Option (M V)}(S:wU F e m)(W:Wd F):dg zi W (evalPart e F.env) (cx m):=by
 induction S with
 |absent=>exact λ_ hm=>q1e (aB.ret (W':=W) hm ⟨.none,none,rfl,rfl⟩ .refl)
 |part S=>
  refine λ_ hm=>(S W).use hm λa b W₁ r q hm=>?_;cases e:qj a with
  |none=>rw[e] at hm;exact cE hm
  |some k=>rw[e] at hm;exact aB.ret hm (I8 r k e) q
theorem Wd.Wg(W:Wd F){n:Nat}{vs:List V}(e:DO W.σ.H n=some vs){p:Addr×Addr}(hp:W.ρ[n]?=some p){P:Prop}(k:∀items,W.s.heap.IsList p.1 items->bE W.ρ W.s.heap vs items.toList->vs.length=items.size->P):P:=by
 unfold DO ba at e;split at e
 ·rename_i us h
  obtain rfl:=q0a e;exact W.dx h hp λitems _ _ t v l=>k items t v l
 ·obtain⟨ob,h,h2⟩:=q0z.mp e
  have X:=W.fr.hr.obj n _ p (wO h) hp;obtain⟨a,d⟩:=p;cases X with
  |arg g A=>
   obtain⟨items,m,hd,hi⟩:=A.data;have hv:bE W.ρ W.s.heap vs items.toList:=by rw[<-h2];unfold pL;rw[hd];exact bE.ints hi
   exact k items ⟨ob,g,A.cls,m,hd⟩ hv hv.length
noncomputable abbrev Gd(a b:Value):Obj:={cls:=.type "slice",data:=.fields #[a,b,.none]}
theorem zH{ev:Expr}{o:V}{xo xl xh:Value}{i j:Option Int}{lo hi:Option Expr}{p:Pos}(ro:VR W.ρ W.s.heap o xo)(p1:zi W.ρ W.s.heap i xl)(p2:zi W.ρ W.s.heap j xh):Ok (λc=>F.wp (subscriptTail ev (.Slice lo hi none p) xo (.ref W.s.heap.objs.size)) (aB VR W (c.1,⟨c.2,W.σ.loc⟩)) (W.push (Gd xl xh)).s) (bY o i j W.σ.H):=by
 have hs:(W.s.heap.push (Gd xl xh)).get? W.s.heap.objs.size=some (Gd xl xh):=q0n _ rfl;have r₄:VR (W.push (Gd xl xh)).ρ (W.push (Gd xl xh)).s.heap o xo:=ro.mono (.push _ _) (.refl _);have hsub:∀x:Value,subscripted (.Slice lo hi none p) false x (.ref W.s.heap.objs.size)=operate [.ref W.s.heap.objs.size,x] (getItem x (.ref W.s.heap.objs.size)):=λ_=>rfl;have q:=W.rr (Gd xl xh);refine Ok.ba (λx e=>Ok.iff λhl=>?_) (Ok.ba (λn e=>Ok.bind λvs e2=>Ok.iff λhl=>?_) (Ok.bind λvs e=>Ok.bind λk e2=>Ok.iff λhl=>?_))
 ·-- a text
  clear hs;refine r₄.fC e λt=>?_;obtain⟨pl,rfl,hpl⟩:=p1.ex;obtain⟨pu,rfl,hpu⟩:=p2.ex;refine tail_any (typeIs_str _ x t) PySem.F.slot_str_getitem.lookup (wpAny_getItem_str_slice (l:=pl) (u:=pu) (st:=none) ⟨_,q0n _ rfl,rfl,rfl⟩ rfl ?_) (hsub _);have done:∀t' k,aB VR W (.str (Txt.slice x i j),W.σ) (.str (Txt.slice x i j) t') { {W.s with heap:=W.s.heap.push (Gd (partValue pl) (partValue pu))} with toks:=k}:=λt' k=>aB.after q (aB.toks (W:=W.push _) k (.str _ _));have Au:(Txt.slice x i j).length<=sizeLine:=q0d (Txt.slice_le x _ _) (de hl);unfold sliceMade slicePicked;rw[hpl,hpu];unfold Txt.slice at done Au ⊢;dsimp only[Option.map_none,Option.getD_none] at done Au ⊢;split
  ·rename_i hc;rw[q1k hc] at done;exact done t _
  ·rename_i hc;rw[q1l hc] at done Au;exact⟨Au,done _ _⟩
 ·-- a list
  refine r₄.ew e λp hp=>(W.push (Gd xl xh)).Wg e2 hp λitems h2 h3 l=>?_;refine tail_any h2.typeIs slot_list_getitem.lookup (wpAny_getItem_list_slice h2 (vl:=xl) (vu:=xh) (vs:=.none) (lo:=i) (hi:=j) (st:=none) ⟨_,hs,rfl,rfl⟩ p1.is p2.is .none (by simp) ?_ (de (l▸hl.1))) (hsub _);refine aB.after q (Wd.qo (W.push (Gd xl xh)) (a:=(W.s.heap.push (Gd xl xh)).objs.size) (items:=(slicePick items i j none).toList) W.s.toks (.push _ _) (bu _ _) (q0c _) (ko rfl) ?_);unfold iK slicePick;rw[l];have:=h3.pick (sliceRange (sliceBounds i j none items.size).1 (sliceBounds i j none items.size).2.1 (sliceBounds i j none items.size).2.2);simpa only[q2i] using this
 ·-- a Yr first items
  obtain⟨h0,h1,h2,h3⟩:=hl;cases i with
  |some i=>exact nomatch h0
  |none=>
   obtain rfl:=e2;refine r₄.tupK e λpa items t v l=>?_;cases p1.is with
   |none=>cases p2.is with
    |int _ t'=>
     refine tail_any t.typeIs PySem.F.slot_tuple_getitem.lookup (sE t hs h1 (l▸h2) (l▸h3) ?_) (hsub _);exact aB.after q (aB.grown (W:=W.push _) W.s.toks (.push _ _) (bu _ _) (.tup ((W.push _).new (q0c _)) (IsTup.new _ _) ((v.take k.toNat).mono (.push _ _) (.refl _))))
theorem Cd{o:Expr}{lo hi:Option Expr}{mo:M V}{ml mh:Option (M V)}{p pos:Pos}(L:aM F o mo)(P1:wU F lo ml)(P2:wU F hi mh):aM F (.Subscript o (.Slice lo hi none p) pos) (Y mo λa=>Y (cx ml) λi=>Y (cx mh) λj=>au (bY a i j)):=λW r hm=>
 Subscript_ ((L W).use hm λa xa W₁ r₁ q₁ hm=>wpAny_Slice ((P1.snd W₁).use hm λi xl W₂ r₂ q₂ hm=>(P2.snd W₂).use hm λj xh W₃ r₃ q₃ hm=>by
  rw[evalPart_none];exact q1e (iz (q₁.trans (q₂.trans q₃)) (dg.run (zH ((q₂.trans q₃).vr r₁) ⟨r₂.is,r₂.ex⟩ r₃) hm))))
end
theorem md(h:Heap)(a:Addr)(f:Obj->Obj):(h.update a f).objs.size=h.objs.size:=(Heap.SameBut.update h a f).1
theorem pZ{M:Model}{Γ:Ctx}{p:Pos}{t:Sem Fin}{fs:List Frame}{s s':Shared}{e:End}(h:Runs M Γ p t fs s e s'):s.heap.objs.size<=s'.heap.objs.size:=by induction h<;>(try simp only[Shared.setGen,md,Heap.size_push] at *)<;>lia
theorem u0{M:Model}{Γ:Ctx}{p:Pos}{g:Nat}{r:Resume}{s s':Shared}{res:GenResult}(h:Wakes M Γ p g r s res s'):s.heap.objs.size<=s'.heap.objs.size:=by
 unfold Wakes at h;have go:∀{q:Sem Fin}{fs:List Frame}{Γ:Ctx}{p:Pos},(∃e₁ s₁,Runs M Γ p q fs (s.setGen g .running) e₁ s₁/\e₁.quiet=true/\res=e₁.result/\s'=s₁.setGen g e₁.genState)->s.heap.objs.size<=s'.heap.objs.size:=λh=>by
  obtain⟨e₁,s₁,hr,_,_,rfl⟩:=h;exact(pZ hr:(s.setGen g .running).heap.objs.size<=s₁.heap.objs.size)
 cases hg:s.gens[g]? with
 |none=>rw[hg] at h;exact h.elim
 |some st=>
  rw[hg] at h;cases st with
  |fresh c=>cases r with
   |send v=>cases v with
    |none=>exact go h
    |_=>rw[h.2];exact q0c _
   |throw x=>rw[h.2];exact q0c _
  |suspended=>exact go h
  |running=>rw[h.2];exact q0c _
  |finished=>rw[h.2];exact q0c _
theorem Gr{α:Type}(M:Model)(Γ:Ctx)(n:Nat)(t:Sem α):∀(Q:α->Pos->Shared->Prop)(E:Value->Pos->Shared->Prop)(p:Pos)(s:Shared),n<=s.heap.objs.size->Sem.wp M Γ t Q E p s->Sem.wp M Γ t (λa p' s'=>n<=s'.heap.objs.size/\Q a p' s') (λe p' s'=>n<=s'.heap.objs.size/\E e p' s') p s:=by
 induction t with
 |pure a=>intro Q E p s hn h;exact⟨hn,h⟩
 |raise e=>intro Q E p s hn h;exact⟨hn,h⟩
 |unsupported _=>intro Q E p s _ h;exact h
 |finish _=>intro Q E p s _ h;exact h
 |rule _ k ih=>intro Q E p s hn h;exact ih () Q E p s hn h
 | «at» p' k ih=>intro Q E p s hn h;exact ih () Q E p' s hn h
 |load a _ k ih=>intro Q E p s hn h;obtain⟨o,ho,h⟩:=h;exact⟨o,ho,ih o Q E p s hn h⟩
 |update a _ f k ih=>intro Q E p s hn h;exact⟨h.1,ih () Q E p _ (by show n<=(s.heap.update a f).objs.size;rw[md];exact hn) h.2⟩
 |loadIfAlive a k ih=>intro Q E p s hn h;exact ih _ Q E p s hn h
 |point _ k ih=>intro Q E p s hn h;exact ih () Q E p s hn h
 |register _ _=>intro Q E p s _ h;exact h
 |alloc o k ih=>intro Q E p s hn h;exact ih _ Q E p _ (by show n<=(s.heap.push o).objs.size;rw[Heap.size_push];lia) h
 |fresh k ih=>intro Q E p s hn h;exact ih _ Q E p _ hn h
 |ask k ih=>intro Q E p s hn h;exact ih _ Q E p s hn h
 |choose src m k ih=>intro Q E p s hn h;exact⟨h.1,ih _ Q E p _ hn h.2⟩
 |os q _ k ih=>intro Q E p s hn h;exact ih _ Q E p _ hn h
 |call c hd _ _ k ih=>intro Q E p s hn h;obtain⟨r,s',hr,h⟩:=h;exact⟨r,s',hr,ih r Q E p s' (q0d hn (pZ hr)) h⟩
 |handled own k ih=>intro Q E p s hn h;exact ih _ Q E p s hn h
 |genState g k ih=>intro Q E p s hn h;obtain⟨st,hs,h⟩:=h;exact⟨st,hs,ih _ Q E p s hn h⟩
 |newGen c k ih=>intro Q E p s hn h;exact ih _ Q E p _ hn h
 |resume g r _ k ih=>intro Q E p s hn h;obtain⟨res,s',hw,h⟩:=h;exact⟨res,s',hw,ih res Q E p s' (q0d hn (u0 hw)) h⟩
 |yield _ _ _ _=>intro Q E p s _ h;exact h
 |stack k ih=>intro Q E p s hn h;exact ih _ Q E p s hn h
 |fork _ _=>intro Q E p s _ h;exact h
 |thread k ih=>intro Q E p s hn h;exact ih _ Q E p s hn h
 |await _ _ _ _ _=>intro Q E p s _ h;exact h
theorem bK{α:Type}{M:Model}{A:Around}{s:Shared}{t:Sem α}{Q:α->Shared->Prop}{E:Value->Shared->Prop}{n:Nat}(hn:n<=s.heap.objs.size)(h:wpAny M A t (λa s'=>n<=s'.heap.objs.size->Q a s') E s):wpAny M A t Q E s:=λΓ p hΓ=>
 Sem.wp_mono M Γ t (λ_ _ _ x=>x.2 x.1) (λ_ _ _ x=>x.2) _ _ (Gr M Γ n t _ _ p s hn (h Γ p hΓ))
inductive Fl where
 |next
 |brk
 |cont
 |ret (v:V)
inductive Go(ρ:cY)(h:Heap):Fl->Flow->Prop
 |next:Go ρ h .next .next
 |brk:Go ρ h .brk .brk
 |cont:Go ρ h .cont .cont
 |ret {v x}:VR ρ h v x->Go ρ h (.ret v) (.ret x)
abbrev fk(F:ck)(st:Stmt)(m:M Fl):Prop:=∀W:Wd F,dg Go W (exec st F.env) m
abbrev eF(F:ck)(Ue:List Stmt)(m:M Fl):Prop:=∀W:Wd F,dg Go W (execs Ue F.env) m
theorem hM{names:List (Str×NameKind)}(nd:(names.map (·.1)).Nodup){i j:Nat}{x:Str}{k k':NameKind}(h1:names[i]?=some (x,k))(h2:names[j]?=some (x,k')):i=j:=by
 have e1:(names.map (·.1))[i]?=some x:=by rw[q0y,h1];rfl
 have e2:(names.map (·.1))[j]?=some x:=by rw[q0y,h2];rfl
 exact(List.getElem?_inj (q0b.mp e1).1 nd).mp (e1.trans e2.symm)
section
variable{K:Kx}{env:Env}{ρ ρ':cY}{σ:St}{H:List O}{h h':Heap}{z:Addr}
theorem HR.dT(R:HR K ρ H h)(nz:¬dJ [] ρ z)(bz:K.B.objs.size<=z)(ni:pB h z)(k:∀b o,b≠z->h.get? b=some o->h'.get? b=some o)(hs:h.objs.size<=h'.objs.size):HR K ρ H h'/\jm h h':=by
 have im:jm h h':=λb o e ci=>k b o (λe'=>ni.not (e'▸e) ci) e;have own:∀{n:Nat}{p:Addr×Addr},ρ[n]?=some p->p.1≠z/\p.2≠z:=λf=>⟨λe'=>nz (e'▸(dJ.at f).1),λe'=>nz (e'▸(dJ.at f).2)⟩
 exact⟨⟨R.len,λn o p e f=>(R.obj n o p e f).mono im (.refl _) (λx=>k _ x (own f).1) (λx=>k _ x (own f).2),R.sep,R.hi,λb o e=>k b o (q0t (q0l (q0s e) bz)) (R.stays b o e),q0d R.low hs,R.big⟩,im⟩
theorem FR.rest(F:FR K env ρ σ h)(tA:bw<K.B.objs.size)(tC:jA<K.B.objs.size)(bz:K.B.objs.size<=z)(key:∀b o,b≠z->h.get? b=some o->h'.get? b=some o):fj h':=F.tab.at' (key _ · (q0t (q0l tA bz))) (key _ · (q0t (q0l tC bz)))
theorem bS(sb:Heap.SameBut z h h'):∀b ob,b≠z->h.get? b=some ob->h'.get? b=some ob:=λb _ nb e=>(sb.2 b nb).trans e
end
section
variable{F:ck}{W W₁:Wd F}{v a b:V}{x y:Value}
theorem i6{loc:List (Option V)}{i j:Nat}{u:V}(f:(loc.set i (some v))[j]?=some (some u)):(i=j/\u=v)\/(i≠j/\loc[j]?=some (some u)):=by
 by_cases hj:i=j
 ·subst hj
  have hi:i<loc.length:=by have:=(q0b.mp f).1;rwa[q1n] at this
  exact .inl ⟨rfl,(q0a (q0a ((List.getElem?_set_self hi).symm.trans f))).symm⟩
 ·exact .inr ⟨hj,(q0j hj).symm.trans f⟩
noncomputable def Wd.stored(W:Wd F){h':Heap}{loc:List (Option V)}{z:Addr}(t:Nat)(R:HR F.K W.ρ W.σ.H h')(hl:loc.length=W.σ.loc.length)(L:∃m,Fr F.K.B F.env.locals h' m/\Yf W.ρ h' F.env loc m)(C:∀(i:Nat)(x:Str)(k:NameKind),F.env.scope.names[i]?=some (x,k)->k=.cell\/k=.free->∃c,F.env.cells.lookup x=some c/\Yl W.ρ h' loc i c)(O:∀x c,F.env.cells.lookup x=some c->∃vo,h'.IsCell c vo)(bz:F.K.B.objs.size<=z)(key:∀b o,b≠z->W.s.heap.get? b=some o->h'.get? b=some o):Wd F:=⟨W.ρ,⟨W.σ.H,loc⟩,{W.s with heap:=h',toks:=t},⟨R,hl.trans W.fr.len,L,C,λx c e=>let q:=W.fr.celO x c e;⟨q.own,q.loc,q.low,O x c e⟩,W.fr.own,W.fr.rest F.tA F.tC bz key⟩,W.bare⟩
theorem eT.Qv(t:Nat)(hz:Bj fn env z)(nt:z≠bw)(key:∀b o,b≠z->s.heap.get? b=some o->h'.get? b=some o)(hs:s.heap.objs.size<=h'.objs.size):eT fn env ρ s ρ {s with heap:=h',toks:=t}:=⟨.refl _,λa o e _ np _=>key a o (λe'=>np (e'▸hz)) e,λ_ _=>.inl,gI (key _ · nt.symm),rfl,hs⟩
theorem Wd.store(W:Wd F){i:Nat}{x':Str}{k:NameKind}(hn:F.c.sc.names[i]?=some (x',k))(hk:k=.local\/(k=.cell/\F.c.fn.fn=true))(r:VR W.ρ W.s.heap v y){Q:Unit->Shared->Prop}(q:∀W':Wd F,W'.σ=⟨W.σ.H,W.σ.loc.set i (some v)⟩->W.Le W'->Q () W'.s):F.wp (storeName F.env x' y) Q W.s:=by
 rw[<-F.sc] at hn;have hl:=bT F.nd hn;rcases hk with rfl | ⟨rfl,hfn⟩
 ·obtain⟨m,M,lm⟩:=W.fr.loc
  refine wpAny_storeName_local hl M.ns (λh' n' sb=>?_) (by rw[F.kind];rfl);have key:=bS sb;obtain⟨R',im⟩:=W.fr.hr.dT W.fr.own M.above W.fr.iO key (q2q sb.1.symm);refine q (W.stored (z:=F.env.locals) (W.s.toks+1) R' q1n ⟨_,M.set n' sb,λj z u e f=>?_⟩ (λj z kd e f=>?_) (λz cc e=>?_) M.above key) rfl (eT.Qv _ (.inl rfl) (F.nT M.above).1 key (q2q sb.1.symm))
  ·cases i6 f with
   |inl g=>
    obtain⟨rfl,rfl⟩:=g;obtain rfl:=(q0v (q0a (hn.symm.trans e))).1;exact⟨y,q1k rfl,r.mono im (.refl _)⟩
   |inr g=>exact(lm j z u e g.2).imp λ_ p=>⟨(q1l λe'=>g.1 (hM F.nd hn (e'▸e))).trans p.1,p.2.mono im (.refl _)⟩
  ·obtain⟨cc,c1,vo,c2,c3⟩:=W.fr.cel j z kd e f
   refine⟨cc,c1,vo,c2.sameBut sb (W.fr.celO z cc c1).loc,λu hu=>?_⟩;cases i6 hu with
   |inl g=>
    obtain rfl:=g.1;obtain rfl:=(q0v (q0a (hn.symm.trans e))).2;exact f.elim (λf=>nomatch f) λf=>nomatch f
   |inr g=>exact(c3 u g.2).imp λ_ p=>⟨p.1,p.2.mono im (.refl _)⟩
  ·exact(W.fr.celO z cc e).is.imp λ_ g=>g.sameBut sb (W.fr.celO z cc e).loc
 ·obtain⟨cc,c1,vo,c2,c3⟩:=W.fr.cel i x' _ hn (.inl rfl)
  have C:=W.fr.celO x' cc c1;refine wpAny_storeName_cell F.kind hl c1 c2 λh' n' sb=>?_;have key:=bS sb;obtain⟨R',im⟩:=W.fr.hr.dT C.own C.low (mB c2) key (q2q sb.1.symm);obtain⟨m,M,lm⟩:=W.fr.loc;refine q (W.stored (z:=cc) W.s.toks R' q1n ⟨m,⟨M.ns.sameBut sb C.loc.symm,R'.stays,M.above⟩,λj z u e f=>?_⟩ (λj z kd e f=>?_) (λz cz e=>?_) C.low key) rfl (eT.Qv _ (.inr ⟨hfn,x',c1⟩) (F.nT C.low).1 key (q2q sb.1.symm))
  ·cases i6 f with
   |inl g=>
    obtain rfl:=g.1;exact nomatch (q0v (q0a (hn.symm.trans e))).2
   |inr g=>exact(lm j z u e g.2).imp λ_ p=>⟨p.1,p.2.mono im (.refl _)⟩
  ·by_cases hj:i=j
   ·subst hj
    obtain rfl:=(q0v (q0a (hn.symm.trans e))).1;refine⟨cc,c1,some y,n',λu hu=>?_⟩;cases i6 hu with
    |inl g=>exact⟨y,rfl,g.2▸r.mono im (.refl _)⟩
    |inr g=>exact q1t rfl g.1
   ·obtain⟨cz,d1,vo',d2,d3⟩:=W.fr.cel j z kd e f
    have nz:cz≠cc:=λe'=>by
     obtain rfl:=F.celN z x' cc (e'▸d1) c1;exact hj (hM F.nd hn e)
    exact⟨cz,d1,vo',d2.sameBut sb nz,λu hu=>(i6 hu).elim (λg=>q1t g.1 hj) λg=>(d3 u g.2).imp λ_ p=>⟨p.1,p.2.mono im (.refl _)⟩⟩
  ·by_cases nz:cz=cc
   ·exact nz▸⟨_,n'⟩
   ·exact(W.fr.celO z cz e).is.imp λ_ g=>g.sameBut sb nz
noncomputable def aE(i:Nat)(v:V):M Unit:=λσ=>some ((),⟨σ.H,σ.loc.set i (some v)⟩)
theorem Wd.qS(W:Wd F){γ:Type}{i:Nat}{x':Str}{k:NameKind}{f:Unit->M γ}{c:γ×St}(hn:F.c.sc.names[i]?=some (x',k))(hk:k=.local\/(k=.cell/\F.c.fn.fn=true))(r:VR W.ρ W.s.heap v y)(hm:Y (aE i v) f W.σ=some c){Q:Unit->Shared->Prop}(q:∀W':Wd F,W.Le W'->f () W'.σ=some c->Q () W'.s):F.wp (storeName F.env x' y) Q W.s:=W.store hn hk r λW' e l=>q W' l (e▸hm)
theorem GU:eF F [] (Z .next):=λW _ hm=>wpAny_execs_nil (aB.ret (W':=W) hm .next .refl)
noncomputable def ak(m:M Fl)(r:M Fl):M Fl:=Y m λf=>match f with
 |.next=>r
 |f=>Z f
theorem Ob{st:Stmt}{Ue:List Stmt}{m r:M Fl}(S:fk F st m)(T:eF F Ue r):eF F (st::Ue) (ak m r):=λW _ hm=>
 wpAny_execs_cons ((S W).use hm λf g W₁ r q hm=>by
  induction r with
  |next=>exact(T W₁).last hm q
  |brk=>exact aB.ret hm .brk q
  |cont=>exact aB.ret hm .cont q
  |ret r=>exact aB.ret hm (.ret r) q)
theorem Un{t:Expr}{b o:List Stmt}{mt:M Bool}{mb mo:M Fl}{pos:Pos}(T:jr F t mt)(L:eF F b mb)(R:eF F o mo):fk F (.If t b o pos) (Y mt λt=>if t then mb else mo):=λW _ hm=>
 wpAny_If ((T W).cond hm (λW₁ q hm=>(L W₁).last hm q) λW₁ q hm=>(R W₁).last hm q)
theorem Oc(S:aM F e m):fk F (.Return (some e) pos) (Y m λv=>Z (.ret v)):=λW _ hm=>
 wpAny_Return_some ((S W).use hm λ_ _ _ r q hm=>aB.ret hm (.ret r) q)
theorem G4(S:aM F e m)(hs:∀env:Env,swapsWith e none pos.line env=pure false):fk F (.Expr e pos) (Y m λ_=>Z .next):=λW _ hm=>by
 have hi:interactive F.env=false:=by unfold interactive;rw[F.kind];rfl
 rw[exec_Expr F.env e pos hi (hs F.env)];exact wb (wpAny_standAt (wb ((S W).use hm λ_ _ _ r q hm=>wpAny_dropValue (aB.ret hm .next q))))
theorem GW:fk F (.Pass pos) (Z .next):=λW _ hm=>wpAny_Pass (aB.ret (W':=W) hm .next .refl)
theorem Ck:fk F (.Break pos) (Z .brk):=λW _ hm _ _ _=>aB.ret (W':=W) hm .brk .refl
theorem G6:fk F (.Continue pos) (Z .cont):=λW _ hm _ _ _=>aB.ret (W':=W) hm .cont .refl
theorem vv{i:Nat}{x':Str}{k:NameKind}{e:Expr}{m:M V}{p pos:Pos}(S:aM F e m)(hn:F.c.sc.names[i]?=some (x',k))(hk:k=.local\/(k=.cell/\F.c.fn.fn=true))(hs:∀env:Env,swapsWith e (some (.Name x' p)) pos.line env=pure false):fk F (.Assign [.Name x' p] e pos) (Y m λv=>Y (aE i v) λ_=>Z .next):=λW _ hm=>
 wpAny_Assign_Name ((S W).use hm λ_ _ W₁ r q hm=>W₁.qS hn hk r hm λW₂ q₂ hm=>aB.ret hm .next (q.trans q₂)) (hs F.env)
end
noncomputable def Cx.hold(c:Cx)(z:List Nat):Cx:={c with fn:=⟨c.fn.fn,z⟩}
noncomputable def ck.hold(F:ck)(z:List Nat):ck:={F with c:=F.c.hold z,room:=F.room,sc:=F.sc,cd:=F.cd}
inductive It where
 |lst (n:Nat)
 |iH (k:Int)
 |keys (n:Nat) (es:List (Str×V))
 |items (n:Nat) (es:List (Str×V))
noncomputable def It.hold:It->List Nat
 |.keys n _=>[n]
 |.items n _=>[n]
 |_=>[]
noncomputable def mR(H:List O):It->Nat->Option (Option V)
 |.lst n,i=>match cI H n with
  |some vs=>some vs[i]?
  |none=>none
 |.iH k,i=>some (if (i:Int)<k then some (.int i) else none)
 |.keys _ es,i=>some ((es[i]?).map λe=>.str e.1)
 |.items _ es,i=>some ((es[i]?).map λe=>.tup [.str e.1,e.2])
inductive qJ(K:Kx)(ρ:cY)(h:Heap)(J:Addr)(i:Nat):It->Prop
 |lst {n p}:ρ[n]?=some p->h.IsListIter J p.1 i->qJ K ρ h J i (.lst n)
 |iH {k l}:IsRangeIter h J i l 1->((i:Int)<k->l=k-i)->(k<=i->l<=0)->qJ K ρ h J i (.iH k)
 |keys {n es p cM ep}:ρ[n]?=some p->h.DictAt (strKind K.prog K.w) p.1 cM ep->gF ρ h es cM->h.IsKeyIter J p.1 i cM.length ep->qJ K ρ h J i (.keys n es)
 |items {n es p cM ep ok ov}:ρ[n]?=some p->h.DictAt (strKind K.prog K.w) p.1 cM ep->gF ρ h es cM->IsItemIter h J p.1 i cM.length ep ok ov->qJ K ρ h J i (.items n es)
structure dh(K:Kx)(ρ:cY)(env:Env)(h:Heap)(J:Addr):Prop where
 own:¬dJ [] ρ J
 loc:J≠env.locals
 cel:∀x,env.cells.lookup x≠some J
 low:K.B.objs.size<=J
 tJ:pB h J
structure fu(J:Addr)(s s':Shared):Prop where
 keep:∀b o,b≠J->s.heap.get? b=some o->s'.heap.get? b=some o
 size:s.heap.objs.size<=s'.heap.objs.size
 os:s'.os=s.os
 gens:s'.gens=s.gens
theorem fu.same(tk:Nat)(sb:Heap.SameBut J s.heap h'):fu J s {s with heap:=h',toks:=tk}:=⟨bS sb,q2q sb.1.symm,rfl,rfl⟩
theorem fu.ext(sb:Heap.ExtBut J s.heap h')(hz:s.heap.objs.size<=h'.objs.size):fu J s {s with heap:=h' }:=⟨sb,hz,rfl,rfl⟩
section
variable{F:ck}{W W':Wd F}{J:Addr}{s':Shared}{fn:Fm}{env:Env}{ρ ρ₀ ρ':cY}{s s₀:Shared}{K:Kx}{h:Heap}
theorem dh.tab(L:dh F.K ρ env h J):J≠bw:=(F.nT L.low).1
theorem eT.less(hf:fn'.fn=fn.fn)(hz:∀n∈fn.frz,n∈fn'.frz)(q:eT fn' env ρ s ρ' s'):eT fn env ρ s ρ' s':=⟨q.pre,λa o e h1 h2 h3=>q.chg a o e (λz=>h1 (z.imp λ_=>Exists.imp λ_=>q2l λg h=>g (hz _ h))) (λz=>h2 (z.imp id (q2l λg=>hf▸g))) h3,q.new,q.zA,q.os,q.size⟩
theorem Wd.eY(W:Wd F)(L:dh F.K W.ρ F.env W.s.heap J)(k:fu J W.s s'):FR F.K F.env W.ρ W.σ s'.heap/\jm W.s.heap s'.heap:=by obtain⟨R',im⟩:=W.fr.hr.dT L.own L.low L.tJ k.keep k.size;exact⟨W.fr.upd (.refl _) im R' (k.keep _ · (Ne.symm L.loc)) (λx c e o=>k.keep c o λe'=>L.cel x (e'▸e)) (λ_=>.inl) (W.fr.rest F.tA F.tC L.low k.keep),im⟩
noncomputable def Wd.dT(W:Wd F)(L:dh F.K W.ρ F.env W.s.heap J)(k:fu J W.s s'):Wd F:=⟨W.ρ,W.σ,s',(W.eY L k).1,k.gens▸W.bare⟩
theorem eT.dT(q:eT fn env ρ₀ s₀ ρ s)(hJ:s₀.heap.objs.size<=J)(hA:J≠bw)(k:fu J s s'):eT fn env ρ₀ s₀ ρ s':=⟨q.pre,λa o e h1 h2 h3=>k.keep a o (q0t (q0l (q0s e) hJ)) (q.chg a o e h1 h2 h3),q.new,pT q.zA (gI (k.keep _ · (Ne.symm hA))),k.os.trans q.os,q0d q.size k.size⟩
theorem dh.keep(L:dh K ρ env s.heap J)(hA:J≠bw)(q:eT fn env ρ s ρ' s')(o:Obj)(e:s.heap.get? J=some o):s'.heap.get? J=some o:=q.chg J o e (λz=>L.own z.full) (λz=>z.elim L.loc λz=>z.2.elim L.cel) hA
theorem dh.X9(L:dh K ρ env s.heap J)(hA:J≠bw)(q:eT fn env ρ s ρ' s'):dh K ρ' env s'.heap J:=⟨λz=>(q.new _ _ z).elim L.own λz=>Nat.not_lt.mpr z L.tJ.lt,L.loc,L.cel,L.low,L.tJ.imp λ_=>q2l (L.keep hA q _)⟩
theorem dh.le(L:dh F.K W.ρ F.env W.s.heap J)(q:W.Le W'):dh F.K W'.ρ F.env W'.s.heap J:=dh.X9 L (dh.tab L) q
theorem Wd.Le.Mq(q:W.Le W')(hp:W.ρ[n]?=some p)(hn:n∈F.c.fn.frz)(o:Obj)(e:W.s.heap.get? p.1=some o):W'.s.heap.get? p.1=some o:=by
 obtain⟨n1,n2,n3,_⟩:=W.eM (dJ.at hp).1;refine q.chg _ o e (λz=>?_) (λz=>z.elim n1 λz=>z.2.elim n2) n3;obtain⟨m,p',g,e',r'⟩:=z;by_cases hmn:n=m
 ·exact g (hmn▸hn)
 ·have s:=W.fr.hr.sep n m p p' hp e' hmn
  exact r'.elim s.1 s.2.1
theorem qJ.X9(L:dh F.K W.ρ F.env W.s.heap J)(hz:∀n∈it.hold,n∈F.c.fn.frz)(q:W.Le W')(r:qJ F.K W.ρ W.s.heap J i it):qJ F.K W'.ρ W'.s.heap J i it:=by
 have hk:=L.keep (dh.tab L) q
 induction r with
 |lst e r=>exact .lst (q.pre _ _ e) (r.imp λ_=>q2l (hk _))
 |iH r l1 l2=>exact .iH (hk _ r) l1 l2
 |keys e d kv r=>exact .keys (q.pre _ _ e) (d.at (q.Mq e (hz _ q0g))) (kv.mono q.uX q.pre) (r.imp λ_=>q2l (hk _))
 |items e d kv r=>exact .items (q.pre _ _ e) (d.at (q.Mq e (hz _ q0g))) (kv.mono q.uX q.pre) (hk _ r)
theorem qJ.tJ(r:qJ K ρ h J i it):pB h J:=by
 induction r with
 |lst e r=>exact r.imp λ_ q=>⟨q.1,dE (by decide) (by decide) q.2.1⟩
 |iH r=>exact⟨_,r,dE (by decide) (by decide) rfl⟩
 |keys e d kv r=>exact r.imp λ_ q=>⟨q.1,dE (by decide) (by decide) q.2.1⟩
 |items e d kv r=>exact⟨_,r,dE (by decide) (by decide) rfl⟩
theorem gF.get(r:gF ρ h es cM):∀{i:Nat},(es[i]?=none->cM[i]?=none)/\∀e,es[i]?=some e->∃y,cM[i]?=some (e.1,y)/\VR ρ h e.2 y:=by
 induction r with
 |nil=>intro i;exact⟨λ_=>rfl,λe h=>(nomatch h)⟩
 |cons a _ ih=>
  intro i;cases i with
  |zero=>exact⟨λh=>(nomatch h),λe h=>q0a h▸⟨_,rfl,a⟩⟩
  |succ i=>exact ih (i:=i)
noncomputable def jK(e:Expr):Bool:=Nat.beq e.ctorIdx 23
noncomputable def lM(e:Expr):Bool:=Nat.beq e.ctorIdx 25
noncomputable def xq(t:Expr)(it:It):Bool:=match it with
 |.lst _=>jK t||lM t
 |.items .. =>lM t
 |_=>jK t
theorem oC(h:jK t=true)(i y:Value):letOwnedTupleGo t i y=pure ():=by
 cases t with
 |Name=>rfl
 |_=>exact q1t h q0f
theorem xj(h:lM t=true):∃ts k p,t=.Tuple ts k p:=by
 cases t with
 |Tuple ts k p=>exact⟨ts,k,p,rfl⟩
 |_=>exact q1t h q0f
theorem wk(ht:lM t=true)(hJ:s.heap.IsListIter J l i)(q:Q () s):F.wp (letOwnedTupleGo t (.ref J) y) Q s:=by
 obtain⟨ts,k,p,rfl⟩:=xj ht;obtain⟨o,ho,hc,hd⟩:=hJ;cases y with
 |ref r=>
  unfold letOwnedTupleGo;refine q1f (wpAny_load ho ?_);rw[hc,hd];exact q1e q
 |_=>exact q1e q
theorem m8(h:(strKind prog w).is k key=true):∃t,key=.str k t:=by
 cases key with
 |str x t=>exact⟨t,(eq_of_beq (show(x==k)=true from h))▸rfl⟩
 |_=>exact q1t h q0f
def nqA(M:Model)(A:Around)(t:Expr)(J:Addr)(Q:Option Value->Shared->Prop)(o:Option Value)(s:Shared):Prop:=match o with
 |none=>Q none s
 |some x=>wpAny M A (letOwnedTupleGo t (.ref J) x) (λ_ s₂=>Q (some x) s₂) no s
noncomputable abbrev ck.nq(F:ck):=nqA (model F.K.prog F.K.w) F.A
theorem rh(ht:jK t=true)(q:Q (some x) s):F.nq t J Q (some x) s:=by show wpAny _ _ (letOwnedTupleGo t _ _) _ _ _;rw[oC ht];exact q1e q
structure Gb(W:Wd F)(J:Addr)(it:It)(i:Nat)(r:Option V)(Q:Option Value->Shared->Prop):Prop where
 fin:∀s',r=none->fu J W.s s'->Q none s'
 val:∀s' x v,r=some v->fu J W.s s'->VR W.ρ s'.heap v x->qJ F.K W.ρ s'.heap J (i+1) it->Q (some x) s'
theorem AI(L:dh F.K W.ρ F.env W.s.heap J)(hp:W.ρ[n]?=some p)(hJ:W.s.heap.IsListIter J p.1 i)(e:mR W.σ.H (.lst n) i=some r)(ht:(jK t||lM t)=true)(D:Gb W J (.lst n) i r Q):F.wp (pyNext (.ref J)) (F.nq t J Q) W.s:=by
 change (match cI W.σ.H n with | some vs=>some vs[i]? | none=>none)=some r at e
 split at e
 ·rename_i vs hl'
  obtain rfl:=q0a e;refine W.dx hl' hp λitems _ _ h2 h3 l=>?_;cases hv:vs[i]? with
  |none=>
   have hn:items[i]?=none:=Array.getElem?_eq_none_iff.mpr (l▸List.getElem?_eq_none_iff.mp hv);exact bK (q0c _) (wpAny_pyNext_list_end F.room.1 hJ h2 hn λh' sb hz=>D.fin _ hv (.ext sb hz))
  |some v=>
   obtain⟨x,hx,r⟩:=h3.get hv;refine wpAny_pyNext_list_item hJ h2 (q2i.symm.trans hx) λh' hJ' sb=>?_;have as:=fu.same W.s.toks sb;have done:=D.val _ x v hv as (r.mono (W.eY L as).2 (.refl _)) (.lst hp hJ');exact((Bool.or_eq_true _ _).mp ht).elim (rh · done) (wk · hJ' done)
 ·exact cE e
theorem EG{i:Nat}{k l:Int}{t:Expr}{Q:Option Value->Shared->Prop}(hJ:IsRangeIter W.s.heap J i l 1)(l1:(i:Int)<k->l=k-i)(l2:k<=i->l<=0)(ht:jK t=true)(D:Gb W J (.iH k) i (if (i:Int)<k then some (.int i) else none) Q):F.wp (pyNext (.ref J)) (F.nq t J Q) W.s:=by
 by_cases hk:(i:Int)<k
 ·have hl0:=l1 hk
  refine wpAny_pyNext_range_item hJ (by lia) λh' hJ' sb=>rh ht ?_;exact D.val _ _ (.int i) (q1k hk) (.same _ sb) (.int _ _) (.iH (l:=l-1) hJ' (λhh=>by lia) (λhh=>by lia))
 ·exact bK (q0c _) (wpAny_pyNext_range_end F.room.1 hJ (l2 (Int.not_lt.mp hk)) λh' sb hz=>D.fin _ (q1l hk) (.ext sb hz))
theorem AJ(L:dh F.K W.ρ F.env W.s.heap J)(hp:W.ρ[n]?=some p)(hd:W.s.heap.DictAt (strKind F.K.prog F.K.w) p.1 cM ep)(kv:gF W.ρ W.s.heap es cM)(hJ:W.s.heap.IsKeyIter J p.1 i cM.length ep)(ht:jK t=true)(D:Gb W J (.keys n es) i ((es[i]?).map λe=>.str e.1) Q):F.wp (pyNext (.ref J)) (F.nq t J Q) W.s:=by
 cases hv:es[i]? with
 |none=>exact bK (q0c _) (wpAny_pyNext_dict_end F.room.1 hJ hd (kv.get.1 hv) λh' sb hz=>D.fin _ (by rw[hv];rfl) (.ext sb hz))
 |some ee=>
  obtain⟨y,h1,h2⟩:=kv.get.2 ee hv;refine wpAny_pyNext_dict_item hJ hd h1 λkey h' Ek hJ' sb=>rh ht ?_;obtain⟨tk,rfl⟩:=m8 Ek;have as:=fu.same W.s.toks sb;exact D.val _ _ (.str ee.1) (by rw[hv];rfl) as (.str _ _) (.keys hp (hd.at (as.keep _ · λe'=>L.own (e'▸(dJ.at hp).1))) (kv.mono (W.eY L as).2 (.refl _)) hJ')
theorem wB(L:dh F.K W.ρ F.env W.s.heap J)(hp:W.ρ[n]?=some p)(hd:W.s.heap.DictAt (strKind F.K.prog F.K.w) p.1 cM ep)(kv:gF W.ρ W.s.heap es cM)(hJ:IsItemIter W.s.heap J p.1 i cM.length ep ok ov)(ht:lM t=true)(D:Gb W J (.items n es) i ((es[i]?).map λe=>.tup [.str e.1,e.2]) Q):F.wp (pyNext (.ref J)) (F.nq t J Q) W.s:=by
 cases hv:es[i]? with
 |none=>exact bK (q0c _) (wpAny_pyNext_items_end F.room.1 hJ hd (kv.get.1 hv) λh' sb hz=>D.fin _ (by rw[hv];rfl) (.ext sb hz))
 |some ee=>
  obtain⟨y,h1,h2⟩:=kv.get.2 ee hv;refine wpAny_pyNext_items_item hJ hd h1 λkey h₁ Ek hJ' ZW JI hk₁=>?_;obtain⟨tk,rfl⟩:=m8 Ek;obtain⟨ts,k,q,rfl⟩:=xj ht;refine wpAny_letOwnedTupleGo_items hJ' λh₂ hJ₂ sb=>?_;have as:fu J W.s {W.s with heap:=h₂}:=⟨λb o nb e=>(sb.2 b nb).trans (hk₁ b o nb e),sb.1▸JI▸q2g _,rfl,rfl⟩
  have im:=(W.eY L as).2;have nT:W.s.heap.objs.size≠J:=q1d L.tJ.lt;refine D.val _ _ (.tup [.str ee.1,ee.2]) (by rw[hv];rfl) as (.tup (items:=#[.str ee.1 tk,y]) (W.new (q0c _)) ⟨_,(sb.2 _ nT).trans ZW,rfl,_,rfl⟩ (.cons (.str _ _) (.cons (h2.mono im (.refl _)) .nil)))
   (.items hp (hd.at (as.keep _ · λe'=>L.own (e'▸(dJ.at hp).1))) (kv.mono im (.refl _)) hJ₂)
theorem tK(L:dh F.K W.ρ F.env W.s.heap J)(hit:qJ F.K W.ρ W.s.heap J i it)(e:mR W.σ.H it i=some r)(ht:xq t it=true)(D:Gb W J it i r Q):F.wp (pyNext (.ref J)) (F.nq t J Q) W.s:=by
 induction hit with
 |lst hp hJ=>exact AI L hp hJ e ht D
 |iH hJ l1 l2=>exact EG hJ l1 l2 ht (q0a e▸D)
 |keys hp hd kv hJ=>exact AJ L hp hd kv hJ ht (q0a e▸D)
 |items hp hd kv hJ=>exact wB L hp hd kv hJ ht (q0a e▸D)
end
section
variable{F:ck}{W W₁:Wd F}{v a b:V}{x y:Value}{prog:Program}{w:World}{A:Around}{s:Shared}
theorem EH(my:l≠it):∀(n i:Nat)(s:Shared)(Q:List Value->Shared->Prop),s.heap.IsListIter it l i->s.heap.IsList l items->i+n<=items.size->(∀h',h'.IsListIter it l (i+n)->Heap.SameBut it s.heap h'->Q ((items.toList.drop i).take n) {s with heap:=h' })->wpAny (model prog w) A (draw (.ref it) n) Q no s:=by
 intro n
 induction n with
 |zero=>
  intro i s Q hit _ _ hQ;show wpAny _ _ (pure []) Q _ s;exact q1e (hQ s.heap hit (Heap.SameBut.refl ..))
 |succ n ih=>
  intro i s Q hit ht Au hQ;have fR:i<items.size:=q0l (Nat.lt_add_of_pos_right (Nat.succ_pos n)) Au;have e1:i+(n+1)=i+1+n:=by rw[Nat.add_assoc,Nat.add_comm 1]
  show wpAny _ _ (pyNext (.ref it)>>=_) Q _ s;refine wb (wpAny_pyNext_list_item hit ht (x:=items[i]) (q0o fR) λh₁ Q8 hs₁=>?_);refine wb (q1u (ih (i+1) _ _ Q8 (ht.extBut hs₁.extBut my) (e1▸Au) λh₂ a0a hs₂=>q1e ?_));have:=hQ h₂ (e1▸a0a) (hs₁.trans hs₂);rw[q2m fR,List.take_succ_cons] at this;exact this
theorem mJ(hh:A.handled=none)(ht:s.heap.IsList t items)(hQ:∀h',Heap.ExtBut s.heap.objs.size s.heap h'->Q items.toList {s with heap:=h' }):wpAny (model prog w) A (unpackItems (.ref t) items.size none) Q no s:=by have fR:t≠s.heap.objs.size:=ht.elim λ_ h=>q0t (q0s h.1);have keep:∀o,(s.heap.push o).IsList t items:=λo=>ht.imp λ_=>q2l (q0p _);unfold unpackItems;refine wb ?_;unfold notIterableAtAll;refine wb (wpAny_specialOf ht.typeIs slot_list_iter.lookup (q1e ?_));show wpAny _ _ (if false=true then _ else _) _ _ _;rw[q1l q0f];refine wb (q1u (wpAny_pyIter_list ht ?_));refine q1f (q1u (EH fR items.size 0 _ _ ⟨_,q0n _ rfl,rfl,rfl⟩ (keep _) (q2q (Nat.zero_add _)) λh₁ Q8 hs₁=>?_));rw[List.drop_zero,show List.take items.size items.toList=items.toList from List.take_of_length_le (q0c items.toList.length),q1l (show ¬items.toList.length<items.size from q1c _)];have ZW:h₁.IsList t items:=(keep _).extBut hs₁.extBut fR;refine wb (q1u (wpAny_pyNext_list_end hh Q8 ZW (Array.getElem?_eq_none_iff.mpr (q2q (Nat.zero_add _).symm)) λh₂ he₂=>?_));show wpAny _ _ (if false=true then _ else _) _ _ _;rw[q1l q0f];exact q1e (hQ h₂ λb o hb e=>he₂ b o hb (hs₁.extBut b o hb (q0p _ e)))
def i5(H:List O)(v:V):Option (List V):=ba (vT v) some ((vR v).bind λn=>cI H n)
theorem qP(e:i5 H v=some vs):vT v=some vs\/∃n,vR v=some n/\cI H n=some vs:=by
 cases v with
 |tup us=>exact .inl e
 |ref n=>exact .inr ⟨n,rfl,e⟩
 |_=>exact cE e
def aW(n:Nat)(v:V):M (List V):=nZ λH=>(i5 H v).bind λvs=>if vs.length=n then some vs else none
theorem nL(r:VR W.ρ W.s.heap v y):dg bE W (unpackItems y n none) (aW n v):=by
 refine dg.rd (Ok.bind λvs e=>Ok.iff λhl=>?_);have fin:∀{xs:List Value}{h':Heap},bE W.ρ W.s.heap vs xs->Heap.ExtBut W.s.heap.objs.size W.s.heap h'->W.s.heap.objs.size<=h'.objs.size->aB bE W (vs,W.σ) xs {W.s with heap:=h' }:=λrs he hs=>
  have k:Keeps W.s.heap _:=λa o e=>he a o (q0t (q0s e)) e
  aB.of (W.grow W.s.toks k hs) (rs.mono k.uX (.refl _)) (W.lI _ k hs)
 cases qP e with
 |inl e=>exact r.tupK e λp items h2 h3 l=>hl▸l.symm▸bK (q0c _) (wpAny_unpackItems_tuple F.room.1 h2 λh' he hs=>fin h3 he hs)
 |inr e=>
  obtain⟨m,e1,e2⟩:=e;exact r.ew e1 λp hp=>W.dx e2 hp λitems _ _ h2 h3 l=>hl▸l.symm▸bK (q0c _) (mJ F.room.1 h2 λh' he hs=>fin h3 he hs)
abbrev Bi(F:ck)(t:Expr)(m:V->M Unit):Prop:=∀(W:Wd F)(v:V)(y:Value),VR W.ρ W.s.heap v y->dg UR W (assign t F.env y) (m v)
theorem pV(hn:F.c.sc.names[i]?=some (x',k))(hk:k=.local\/(k=.cell/\F.c.fn.fn=true))(r:VR W.ρ W.s.heap v y):dg UR W (storeName F.env x' y) (aE i v):=λ_ hm=>
 W.store hn hk r λW' e q=>q0a hm▸e▸aB.of W' trivial q
theorem LQ(hn:F.c.sc.names[i]?=some (x',k))(hk:k=.local\/(k=.cell/\F.c.fn.fn=true)):Bi F (.Name x' p) (aE i):=λW v y r c hm=>wpAny_assign_Name (pV hn hk r c hm)
inductive kQ(F:ck):List Expr->List (V->M Unit)->Prop
 |nil:kQ F [] []
 |cons {t ts m ms}:isStarred t=false->Bi F t m->kQ F ts ms->kQ F (t::ts) (m::ms)
noncomputable def bD:List (V->M Unit)->List V->M Unit
 |[],[]=>Z ()
 |m::ms,v::vs=>Y (m v) λ_=>bD ms vs
 |_,_=>λ_=>none
theorem ik(h:isStarred t=false)(ts:List Expr)(env:Env):assignEach (t::ts) env=(false,assign t env)::assignEach ts env:=by
 cases t with
 |Starred=>exact q1t h (λe=>q0f e.symm)
 |_=>rfl
theorem kQ.length(S:kQ F ts ms):(assignEach ts F.env).length=ms.length/\(assignEach ts F.env).findIdx? (·.1)=none:=by
 induction S with
 |nil=>exact⟨rfl,rfl⟩
 |cons h _ _ ih=>rw[ik h];exact⟨q1s Nat.succ ih.1,by rw[List.findIdx?_cons,ih.2];rfl⟩
theorem AH(S:kQ F ts ms):∀{W:Wd F}{vs:List V}{xs:List Value},bE W.ρ W.s.heap vs xs->dg UR W (assignInOrder ((assignEach ts F.env).map (·.2)) xs) (bD ms vs):=by
 induction S with
 |nil=>
  intro W vs xs r c hm
  induction r with
  |nil=>exact wpAny_assignInOrder_none (aB.ret (W':=W) hm trivial .refl)
  |cons _ _=>exact cE hm
 |cons h S _ ih=>
  intro W vs xs r c hm;cases r with
  |nil=>exact cE hm
  |cons r rs=>
   rw[ik h];exact wpAny_assignInOrder_more ((S W _ _ r).use hm λ_ _ W₁ _ q hm=>(ih (q.Y6 rs)).last hm q)
theorem FU(S:kQ F ts ms):Bi F (.Tuple ts k p) (λv=>Y (aW ms.length v) λvs=>bD ms vs):=λW v y r c hm=>by
 rw[assign_Tuple];refine wb (wpAny_standAt ?_);unfold unpack;rw[S.length.1,S.length.2];exact wb (q1u ((nL r).use hm λvs xs W₁ r₁ q₁ hm=>(AH S r₁).last hm q₁))
theorem dS{α β γ:Type}{x:M α}{f:α->M β}{g:β->M γ}{σ:St}:Y (Y x f) g σ=Y x (λa=>Y (f a) g) σ:=by unfold Y;cases x σ<;>rfl
theorem zP(L:aM F e m)(S:kQ F ts ms)(hs:∀env:Env,swapsWith e (some (.Tuple ts k p)) pos.line env=pure false)(hw:∀env:Env,env.scope=F.c.sc->swappedStores [.Tuple ts k p] e env=pure none):fk F (.Assign [.Tuple ts k p] e pos) (Y m λv=>Y (aW ms.length v) λvs=>Y (bD ms vs) λ_=>Z .next):=λW _ hm=>
 Assign_Tuple ((L W).use hm λv y W₁ r₁ q₁ hm=>(FU (k:=k) (p:=p) S W₁ v y r₁).use (dS.trans hm) λ_ _ W₂ _ q₂ hm=>aB.ret hm .next (q₁.trans q₂)) (hs F.env) (hw F.env F.sc)
inductive kP(c:Cx):List Str->List Nat->Prop
 |nil:kP c [] []
 |cons {x xs i is}:c.sc.names[i]?=some (x,.local)->kP c xs is->kP c (x::xs) (i::is)
theorem kP.snoc{c:Cx}{x:Str}{xs:List Str}{i:Nat}{is:List Nat}(S:kP c xs is)(h:c.sc.names[i]?=some (x,.local)):kP c (xs++[x]) (is++[i]):=by
 induction S with
 |nil=>exact .cons h .nil
 |cons a _ ih=>exact .cons a ih
theorem kP.rev{c:Cx}{xs:List Str}{is:List Nat}(S:kP c xs is):kP c xs.reverse is.reverse:=by
 induction S with
 |nil=>exact .nil
 |cons a _ ih=>rw[List.reverse_cons,List.reverse_cons];exact ih.snoc a
theorem kP.length(S:kP c xs is):xs.length=is.length:=by
 induction S with
 |nil=>rfl
 |cons _ _ ih=>exact q1s Nat.succ ih
theorem Af(S:kP F.c xs is):∀{W:Wd F}{vs:List V}{ys:List Value},bE W.ρ W.s.heap vs ys->dg UR W (assignInOrder (xs.map λn=>bindName F.env n) ys) (bD (is.map aE) vs):=by
 induction S with
 |nil=>
  intro W vs xs r c hm
  induction r with
  |nil=>exact wpAny_assignInOrder_none (aB.ret (W':=W) hm trivial .refl)
  |cons _ _=>exact cE hm
 |cons h S ih=>
  intro W vs xs r c hm;cases r with
  |nil=>exact cE hm
  |cons r rs=>exact wpAny_assignInOrder_more (wpAny_bindName ((pV h (.inl rfl) r).use hm λ_ _ W₁ _ q hm=>(ih (q.Y6 rs)).last hm q))
theorem vt(L:aM F e m)(S:kP F.c xs is)(hs:∀env:Env,swapsWith e (some (.Tuple ts k p)) pos.line env=pure false)(hw:∀env:Env,env.scope=F.c.sc->swappedStores [.Tuple ts k p] e env=pure (some xs)):fk F (.Assign [.Tuple ts k p] e pos) (Y m λv=>Y (aW is.length v) λvs=>Y (bD (is.reverse.map aE) vs.reverse) λ_=>Z .next):=λW _ hm=>
 Assign_Tuple_swapped ((L W).use hm λv y W₁ r₁ q₁ hm=>S.length▸(nL r₁).use hm λvs ys W₂ r₂ q₂ hm=>(Af S.rev r₂.reverse).use hm λ_ _ W₃ _ q₃ hm=>aB.ret hm .next (q₁.trans (q₂.trans q₃))) (hs F.env) (hw F.env F.sc)
end
noncomputable def BG(b:M Fl)(next:M Fl):M Fl:=Y b λf=>match f with
 |.next=>next
 |.cont=>next
 |.brk=>Z .next
 |.ret v=>Z (.ret v)
noncomputable def bG:Nat->M Bool->M Fl->M Fl
 |0,_,_=>λ_=>none
 |n+1,t,b=>Y t λu=>if u then BG b (bG n t b) else Z .next
def oS(it:It)(i:Nat):M (Option V):=nZ λH=>mR H it i
noncomputable def rH:Nat->(V->M Unit)->M Fl->It->Nat->M Fl
 |0,_,_,_,_=>λ_=>none
 |n+1,a,b,it,i=>Y (oS it i) λr=>match r with
  |none=>Z .next
  |some v=>Y (a v) λ_=>BG b (rH n a b it (i+1))
section
variable{F:ck}{W W₁:Wd F}{I:Nat->Shared->Prop}{n:Nat}{Q:Flow->Shared->Prop}{r:Fl×St}{body:List Stmt}
def yc(I:Nat->Shared->Prop)(n:Nat)(Q:Flow->Shared->Prop)(f:Flow)(s:Shared):Prop:=match f with
 |.next |.cont=>∃m,m<n/\I m s
 |.brk=>Q .next s
 |.ret v=>Q (.ret v) s
theorem dg.turn{mb next:M Fl}(S:dg Go W (execs body F.env) mb)(hm:BG mb next W.σ=some r)(k1:∀W₁:Wd F,W.Le W₁->next W₁.σ=some r->∃m,m<n/\I m W₁.s)(k2:∀(W₁:Wd F) f f',W.Le W₁->Z f W₁.σ=some r->Go W₁.ρ W₁.s.heap f f'->Q f' W₁.s):F.wp (execs body F.env) (yc I n Q) W.s:=S.use hm λf g W₁ x q hm=>by
 induction x with
 |next=>exact k1 W₁ q hm
 |cont=>exact k1 W₁ q hm
 |brk=>exact k2 W₁ .next .next q hm .next
 |ret x=>exact k2 W₁ _ _ q hm (.ret x)
theorem oy{M:Model}{A:Around}{E':Value->Shared->Prop}{t:Sem Flow}{s:Shared}{R:Result->Shared->Prop}(hR:∀f s,Q f s->R (.ok f) s)(h:wpAny M A t (yc I n Q) no s):wpAny M A t (λf s₃=>match f with | .next | .cont=>∃m,m<n/\I m s₃ | .brk=>R (.ok .next) s₃ | .ret v=>R (.ok (.ret v)) s₃) E' s:=q1h h (λf s h=>match f with
 |.next=>h
 |.cont=>h
 |.brk=>hR _ _ h
 |.ret v=>hR _ _ h) λ_ _ h=>h.elim
def Nl(F:ck)(Q:Flow->Shared->Prop)(r:Result)(s':Shared):Prop:=match r with
 |.ok f=>Q f s'
 |.error e=>cameBackBy (model F.K.prog F.K.w) F.A F.env no e s'
theorem Bq(turn:∀k s,I k s->F.wp (isTrue t F.env (eval t F.env)) (λb s₂=>if b then F.wp (execs body F.env) (yc I k Q) s₂ else Q .next s₂) s)(h:I n s):F.wp (exec (.While t body [] pos) F.env) Q s:=by
 refine wpAny_While (codeAny_whileLoop I (λk s hI=>q1h (turn k s hI) (λb s₂ h=>?_) λ_ _ h=>h.elim) n h);cases b with
 |true=>exact oy (Q:=Q) (R:=Nl F Q) (λ_ _ h=>h) h
 |false=>exact wpAny_execs_nil h
theorem Cb{t:Expr}{mt:M Bool}{mb:M Fl}{pos:Pos}(n:Nat)(T:jr F t mt)(S:eF F body mb):fk F (.While t body [] pos) (bG n mt mb):=λW₀ r hm=>by
 refine Bq (I:=λk s=>∃W:Wd F,W.s=s/\W₀.Le W/\bG k mt mb W.σ=some r) (λk s=>?_) ⟨W₀,rfl,.refl,hm⟩
 rintro⟨W,rfl,q,hk⟩
 cases k with
 |zero=>exact cE hk
 |succ k=>exact(T W).cond hk (λW₁ q₁ hm=>(S W₁).turn hm (λW₂ q₂ h=>⟨k,q2n _,W₂,rfl,q.trans (q₁.trans q₂),h⟩) λW₂ f f' q₂ hm x=>aB.ret hm x (q.trans (q₁.trans q₂))) λW₁ q₁ hm=>aB.ret hm .next (q.trans q₁)
structure Drawn(W:Wd F)(r:It×St)(s':Shared)(W':Wd F)(J:Addr):Prop where
 s:W'.s=s'
 σ:W'.σ=r.2
 le:W.Le W'
 late:W.s.heap.objs.size<=J
 lone:dh F.K W'.ρ F.env W'.s.heap J
 itr:qJ F.K W'.ρ W'.s.heap J 0 r.1
def wV(F:ck)(e:Expr)(m:M It):Prop:=∀(W:Wd F)(r:It×St),m W.σ=some r->F.wp (eval e F.env) (λx s₁=>F.wp (pyIter x) (λj s₂=>∃J W',j=.ref J/\Drawn W r s₂ W' J) s₁) W.s
theorem Wd.QR(W:Wd F)(h:W.s.heap.objs.size=J)(W':Wd F)(e:W'.ρ=W.ρ)(ni:pB W'.s.heap J):dh F.K W'.ρ F.env W'.s.heap J:=by subst h;exact⟨e▸W.fr.hr.fresh (q0c _),(q0t W.fr.iO.lt).symm,λx e=>q1c _ (W.fr.oX e).lt,W.fr.hr.low,ni⟩
theorem ky{T:String}{vs:Array Value}{h:Heap}(h1:T≠"tuple")(h2:T≠"range"):pB (h.push {cls:=.type T,data:=.fields vs}) h.objs.size:=⟨_,q0n _ rfl,dE h1 h2 rfl⟩
theorem Wd.drawn(W:Wd F)(q:W₁.Le W)(ni:pB (W.s.heap.push o) W.s.heap.objs.size)(ir:qJ F.K W.ρ (W.s.heap.push o) W.s.heap.objs.size 0 it):∃J W',Value.ref W.s.heap.objs.size=.ref J/\Drawn W₁ (it,W.σ) {W.s with heap:=W.s.heap.push o} W' J:=⟨_,W.push o,rfl,rfl,rfl,q.trans (W.rr o),q.size,W.QR rfl (W.push o) rfl ni,ir⟩
noncomputable def NS:V->Option Int
 |.iH k=>some k
 |_=>none
@[elab_as_elim] theorem VR.Zv{ρ:cY}{h:Heap}{v:V}{x:Value}{P:Value->Prop}(r:VR ρ h v x){k:Int}(e:NS v=some k)(f:∀a,zm h a k->P (.ref a)):P x:=by
 induction r with
 |iH _ g=>exact f _ (q0a e▸g)
 |_=>exact cE e
def uc(H:List O)(v:V):Option It:=ba (vR v) (λn=>ba (cI H n) (λvs=>if vs.length<=ax then some (.lst n) else none) <| (dm H n).map λes=>.keys n es) <| (NS v).bind λk=>if 0<=k/\k<=ax then some (.iH k) else none
def jq(v:V):M It:=nZ λH=>uc H v
theorem tf(h:0<=k):Builtin.Range.rangeSize 0 k 1=k:=by unfold Builtin.Range.rangeSize;simp only[show(1:Int) > 0 by decide,if_true,Int.ediv_one];split<;>lia
theorem j7(a:0<=i)(b:i<=1048576):Builtin.Range.rangeFitsLong i=true:=by unfold Builtin.Range.rangeFitsLong;rw[q1w (by lia),q1w (by lia)];rfl
theorem zF{k:Int}(h0:0<=k)(h:k<=ax):Builtin.Range.small 0 k 1=true:=by unfold Builtin.Range.small;rw[tf h0,j7 (Int.le_refl 0) (by decide),j7 h0 h,j7 (i:=1) (by decide) (by decide)];simp only[show(1:Int) > 0 by decide,if_true,Int.sub_self,Int.add_zero,j7 h0 h,Bool.or_true,Bool.and_true]
theorem m9{α:Type}{f:List O->Option α}{σ:St}{r:α×St}{P:Prop}(hm:nZ f σ=some r)(k:∀a,f σ.H=some a->r=(a,σ)->P):P:=by
 unfold nZ at hm;split at hm
 ·rename_i a e;exact k a e (q0a hm).symm
 ·exact cE hm
theorem G2{e:Expr}{m:M V}(S:aM F e m):wV F e (Y m jq):=λW r h0=>
 (S W).use h0 λv x W₁ r₁ q₁ hm=>m9 hm λit e er=>by
  subst er;clear hm h0;revert it;refine Ok.ba (λn g1=>r₁.ew g1 λp hp=>Ok.ba (λvs g2=>Ok.iff λ_=>?_) (Ok.map λes g2=>?_)) (Ok.bind λk g1=>Ok.iff λhk=>r₁.Zv g1 λa g=>?_)
  ·exact W₁.dx g2 hp λitems _ _ h2 h3 _=>wpAny_pyIter_list h2 (Wd.drawn W₁ q₁ (ky (by decide) (by decide)) (.lst hp ⟨_,q0n _ rfl,rfl,rfl⟩))
  ·refine W₁.gQ g2 hp λcM _ h2 h3=>?_
   obtain⟨ep,h4⟩:=h2.dictAt;exact wpAny_pyIter_dict (W₁.eL hp) h4 (Wd.drawn W₁ q₁ (ky (by decide) (by decide)) (.keys hp (h4.push _) (h3.mono (.push _ _) (.refl _)) ⟨_,q0n _ rfl,rfl,rfl⟩))
  ·obtain⟨t,u,w',h2⟩:=g
   refine wpAny_pyIter_range h2 (zF hk.1 hk.2) (Wd.drawn W₁ q₁ (ky (by decide) (by decide)) (.iH (l:=k) ?_ (λ_=>(Int.sub_zero k).symm) λh=>h));rw[tf hk.1];exact q0n _ rfl
def Ri(oM:Nat)(t:Expr)(mi:M It)(ma:V->M Unit)(mb:List Nat->M Fl)(z:List Nat):M Fl:=Y mi λit=>if xq t it then rH oM ma (mb (it.hold++z)) it 0 else λ_=>none
structure a0Q(W₀:Wd F)(z:List Nat)(J:Addr)(ma:V->M Unit)(mb:M Fl)(it:It)(r:Fl×St)(k:Nat)(W:Wd (F.hold z))(i:Nat):Prop where
 le:eT F.c.fn F.env W₀.ρ W₀.s W.ρ W.s
 lone:dh F.K W.ρ F.env W.s.heap J
 itr:qJ F.K W.ρ W.s.heap J i it
 run:rH k ma mb it i W.σ=some r
theorem NN{t e:Expr}{J:Addr}{s:Shared}(turn:∀k s,I k s->F.wp (pyNext (.ref J)) (F.nq t J λo s₁=>match o with
 |none=>Q .next s₁
 |some x=>F.wp (assign t F.env x) (λ_ s₂=>F.wp (execs body F.env) (yc I k Q) s₂) s₁) s) (h:I n s):
 codeAny (model F.K.prog F.K.w) F.A (.forLoop t (.ref J) body [] F.env) (λr s'=>match r with | .ok f=>Q f s' | .error e=>cameBackBy (model F.K.prog F.K.w) F.A F.env no e s') s:=by
 refine codeAny_forLoop_any I (λk s hI=>q1h (turn k s hI) (λo s₁ h=>?_) λ_ _ h=>h.elim) n h;cases o with
 |none=>exact wpAny_execs_nil h
 |some x=>exact q1h h (λ_ _ h=>q1h h (λ_ _ h=>oy (Q:=Q) (R:=Nl F Q) (λ_ _ h=>h) h) λ_ _ h=>h.elim) λ_ _ h=>h.elim
noncomputable def Wd.back{z:List Nat}(W:Wd (F.hold z)):Wd F:=⟨W.ρ,W.σ,W.s,W.fr,W.bare⟩
theorem Ch{t e:Expr}{mi:M It}{ma:V->M Unit}{mb:List Nat->M Fl}{pos:Pos}(n:Nat)(L:wV F e mi)(T:∀z,Bi (F.hold z) t ma)(S:∀z,eF (F.hold z) body (mb z))(hs:∀(env:Env) x,foldedSetIterable e env x=pure x):fk F (.For t e body [] pos) (Ri n t mi ma mb F.c.fn.frz):=λW₀ r hm=>by
 refine dH hm λc e1 hm=>?_;obtain⟨it,σ₁⟩:=c;dsimp only at hm;by_cases Ww:xq t it=true
 case neg=>rw[q1l Ww] at hm;exact cE hm
 rw[q1k Ww] at hm;refine wpAny_For (wp_mono (L W₀ _ e1) λx s₁ p=>wp_mono p λj s₂ p=>?_) (hs F.env);obtain⟨J,W₁,rfl,D⟩:=p;obtain rfl:=D.s;obtain rfl:W₁.σ=σ₁:=D.σ;have Tr:∀n∈F.c.fn.frz,n∈it.hold++F.c.fn.frz:=λn h=>List.mem_append_right _ h;have Ee:∀n∈it.hold,n∈it.hold++F.c.fn.frz:=λn h=>List.mem_append_left _ h;generalize it.hold++F.c.fn.frz=z at hm Tr Ee;have less:∀{W W':Wd (F.hold z)},W.Le W'->eT F.c.fn F.env W.ρ W.s W'.ρ W'.s:=λq=>q.less (fn':=(F.hold z).c.fn) rfl Tr;refine NN (e:=e) (I:=λk s=>∃(W:Wd (F.hold z)) (i:Nat),W.s=s/\a0Q W₀ z J ma (mb z) it r k W i) (λk s=>?_) ⟨⟨W₁.ρ,W₁.σ,W₁.s,W₁.fr,W₁.bare⟩,0,rfl,D.le,D.lone,D.itr,hm⟩
 rintro⟨W,i,rfl,X⟩
 cases k with
 |zero=>exact cE X.run
 |succ k=>
  refine fE X.run λd e2 hm=>tK (F:=F.hold z) X.lone X.itr e2 Ww ⟨λs' hr as=>?_,λs' x v hr as rv ir=>?_⟩
  ·subst hr
   exact aB.ret (W':=(W.dT X.lone as).back) hm .next (X.le.dT D.late (dh.tab X.lone) as)
  ·subst hr
   have lo₁:dh F.K (W.dT X.lone as).ρ F.env (W.dT X.lone as).s.heap J:=⟨X.lone.own,X.lone.loc,X.lone.cel,X.lone.low,ir.tJ⟩
   refine(T z (W.dT X.lone as) v x rv).use hm λ_ _ W₂ _ q₂ hm=>?_;have q:=(X.le.dT D.late (dh.tab X.lone) as).trans (less q₂);have lo₂:=lo₁.le (F:=F.hold z) q₂;exact(S z W₂).turn hm (λW₃ q₃ h=>⟨k,q2n _,W₃,i+1,rfl,q.trans (less q₃),lo₂.le (F:=F.hold z) q₃,(ir.X9 (F:=F.hold z) lo₁ Ee q₂).X9 (F:=F.hold z) lo₂ Ee q₃,h⟩)
    λW₃ f f' q₃ hm x=>aB.ret (W':=W₃.back) hm x (q.trans (less q₃))
end
noncomputable def vV(es:List (Str×V))(k:Str)(v:V):List (Str×V):=if es.any (λe=>e.1=k) then es.map (λe=>if e.1=k then(e.1,v) else e) else es++[(k,v)]
section
variable{F:ck}{W W₁:Wd F}{v a b:V}{x y:Value}{prog:Program}{w:World}{A:Around}{s:Shared}{ρ:cY}{h h':Heap}
theorem xE{st:Stmt}:fk F st (λ_=>none):=λ_ _ hm=>cE hm
theorem Xp:eF F Ue (λ_=>none):=λ_ _ hm=>cE hm
theorem yJ:aM F e (λ_=>none):=λ_ _ hm=>cE hm
theorem Xo:jr F e (λ_=>none):=λ_ _ hm=>cE hm
theorem aB.put{α β:Type}{R:cY->Heap->α->β->Prop}{u:α}{c:β}{n:Nat}{o':O}{p:Addr×Addr}(t:Nat)(hz:n∉F.c.fn.frz)(hp:W.ρ[n]?=some p)(k:∀b ob,b≠p.1->b≠p.2->W.s.heap.get? b=some ob->h'.get? b=some ob)(hs:W.s.heap.objs.size<=h'.objs.size)(q:jm W.s.heap h'->OR F.K W.ρ h' o' p.1 p.2)(r:jm W.s.heap h'->R W.ρ h' u c):aB R W (u,⟨W.σ.H.set n o',W.σ.loc⟩) c {W.s with heap:=h',toks:=t}:=have im:=W.fr.hr.vU hp k;have k':∀b ob,¬dJ F.c.fn.frz W.ρ b->W.s.heap.get? b=some ob->h'.get? b=some ob:=λb ob nb e=>k b ob (λz=>nb (z▸(dJ.out hz hp).1)) (λz=>nb (z▸(dJ.out hz hp).2)) e
 aB.of (W.chg t (.refl _) (W.fr.hr.put hp k hs (q im)) k' (λ_ _=>.inl)) (r im) (W.tU t _ _ k' _ hs)
theorem aB.putAt{α β:Type}{R:cY->Heap->α->β->Prop}{u:α}{c:β}{n:Nat}{o':O}{p:Addr×Addr}(t:Nat)(hz:n∉F.c.fn.frz)(hp:W.ρ[n]?=some p)(sb:Heap.SameBut p.1 W.s.heap h')(q:jm W.s.heap h'->OR F.K W.ρ h' o' p.1 p.2)(r:jm W.s.heap h'->R W.ρ h' u c):aB R W (u,⟨W.σ.H.set n o',W.σ.loc⟩) c {W.s with heap:=h',toks:=t}:=aB.put t hz hp (λb ob nb _ e=>bS sb b ob nb e) (q2q sb.1.symm) q r
def a8(z:List Nat)(o k u:V):HM Unit:=λH=>(vR o).bind λn=>ba (vI k) (λi=>(cI H n).bind λvs=>if n∉z/\0<=i/\i<vs.length/\vs.length<=ax then some ((),H.set n (.list (vs.set i.toNat u))) else none) <| (vS k).bind λkey=>(dm H n).bind λes=>if n∉z/\es.length<=ax then some ((),H.set n (.dict (vV es key u))) else none
theorem gF.QO(r:gF ρ h es cM)(rv:VR ρ h v y):gF ρ h (es.map (λe=>if e.1=k then(e.1,v) else e)) (cM.map (λe=>if e.1=k then(e.1,y) else e)):=by
 induction r with
 |nil=>exact .nil
 |@cons k' v' x' uY a0U a _ ih=>
  rw[q1p,q1p];by_cases hk:k'=k
  ·rw[q1k hk,q1k hk];exact .cons rv ih
  ·rw[q1l hk,q1l hk];exact .cons a ih
theorem gF.snoc(r:gF ρ h es cM)(rv:VR ρ h v y):gF ρ h (es++[(k,v)]) (cM++[(k,y)]):=by
 induction r with
 |nil=>exact .cons rv .nil
 |cons a _ ih=>exact .cons a ih
theorem gF.S7(r:gF ρ h es cM):es.any (λe=>e.1=k)=cM.any (λe=>e.1=k):=by
 induction r with
 |nil=>rfl
 |cons a _ ih=>rw[List.any_cons,List.any_cons,ih]
theorem gF.put{es:List (Str×V)}{cM:List (Str×Value)}(r:gF ρ h es cM){k:Str}(rv:VR ρ h v y):gF ρ h (vV es k v) (stored cM k y):=by
 unfold vV stored;rw[r.S7];split
 ·exact r.QO rv
 ·exact r.snoc rv
theorem dQ(o:Obj)(f:Array Value->Array Value):(o.mapSeq f).dict=o.dict/\(o.mapSeq f).slots=o.slots:=by obtain⟨c,d,dt,sl⟩:=o;cases dt<;>exact⟨rfl,rfl⟩
theorem pC{l:Addr}{items:Array Value}{k:Int}{t:Tok}{v:Value}{Q:Unit->Shared->Prop}(hl:s.heap.IsList l items)(hp:Pl s.heap l)(h0:0<=k)(WE:k<2 ^ 63)(hn:k<items.size)(hQ:∀h',h'.IsList l (items.setIfInBounds k.toNat v)->Pl h' l->Heap.SameBut l s.heap h'->Q () {s with heap:=h' }):wpAny (model prog w) A (setItem (.ref l) (.int k t) v) Q no s:=by
 obtain⟨o,ho,hc,ne,hd⟩:=id hl;have WG:o.dict=none/\o.slots=#[]:=by obtain⟨o',e1,e2⟩:=hp;rw[ho] at e1;obtain rfl:=q0a e1;exact e2
 unfold setItem;refine q1u (wb (wpAny_sequenceKey hl.typeIs (by decide) ?_));refine wb (wpAny_callSpecial?_slot (name:=Str.ofString "__setitem__") hl.typeIs slot_list_setitem
  (q1z slot_list_setitem hl.typeIs entry_list_setitem ?_ (args_list_setitem _ _ _)))
 show wpAny _ _ (Builtin.List.listSubscript? (.int k t)>>=_) _ _ s;refine wb (wpAny_listSubscript_int (fitsIndex_of h0 WE) ?_);clear WE;obtain⟨j,rfl⟩:=Int.eq_ofNat_of_zero_le h0;have hj:j<items.size:=Int.ofNat_lt.mp hn;obtain⟨n',Bm⟩:=Obj.data_mapSeq hd (·.setIfInBounds j v);have hg:=Heap.get?_update_self (Obj.mapSeq (·.setIfInBounds j v)) ho (Obj.isFreed_of_seq Bm);have fin:=hQ _ ⟨_,hg,(Obj.cls_mapSeq ..).trans hc,n',Bm⟩ ⟨_,hg,(dQ _ _).1.trans WG.1,(dQ _ _).2.trans WG.2⟩ (Heap.SameBut.update ..);refine wb (m:=seqItemAt l j>>=λr=>pure (r.map (j,·))) (wb (wpAny_seqItemAt ho hd (q1e ?_)));rw[q0o hj];refine wb (m:=setSeqItemAt l j v) (wpAny_setSeqItemAt ho hd ?_)
 first
  |exact wb (q1e (q1e ⟨.none,rfl,q1e fin⟩))
  |exact q1e ⟨.none,rfl,q1e fin⟩
theorem mf{o k u:V}{xo xk xu:Value}(ro:VR W.ρ W.s.heap o xo)(rk:VR W.ρ W.s.heap k xk)(ru:VR W.ρ W.s.heap u xu):dg UR W (setItem xo xk xu) (au (a8 F.c.fn.frz o k u)):=by
 refine dg.on (Ok.bind λn g1=>ro.ew g1 λp hp=>Ok.ba (λi g2=>Ok.bind λvs g3=>Ok.iff λhc=>?_) (Ok.bind λkey g2=>Ok.bind λes g3=>Ok.iff λhc=>?_))
 ·refine rk.hB g2 λt=>W.dx g3 hp λitems ed pl h2 h3 l=>?_
  exact pC h2 pl hc.2.1 (Int.lt_trans hc.2.2.1 (oB hc.2.2.2)) (l▸hc.2.2.1) λh' Gj Zy sb=>
   aB.putAt W.s.toks hc.1 hp sb (λim=>ed▸.list Zy Gj (by rw[Array.toList_setIfInBounds];exact(h3.mono im (.refl _)).set (ru.mono im (.refl _)))) λ_=>trivial
 ·refine rk.fC g2 λt=>W.gQ g3 hp λcM ed h2 h3=>?_
  exact wpAny_setItem_pairs (strKind_is F.K.prog F.K.w key t) h2 (λh' Gj sb=>
   aB.putAt (W.s.toks+1) hc.1 hp sb (λim=>ed▸.dict Gj ((h3.mono im (.refl _)).put (ru.mono im (.refl _)))) λ_=>trivial) (de (h3.length▸hc.2))
theorem vw(E:aM F e m)(L:aM F o mo)(R:aM F i mi)(hs:∀env:Env,swapsWith e (some (.Subscript o i p)) pos.line env=pure false):fk F (.Assign [.Subscript o i p] e pos) (Y m λu=>Y mo λa=>Y mi λb=>Y (au (a8 F.c.fn.frz a b u)) λ_=>Z .next):=λW _ hm=>
 wpAny_Assign_Subscript ((E W).use hm λ_ _ W₁ r₁ q₁ hm=>(L W₁).use hm λ_ _ W₂ r₂ q₂ hm=>(R W₂).use hm λ_ _ W₃ r₃ q₃ hm=>
  (mf (q₃.vr r₂) r₃ ((q₂.trans q₃).vr r₁)).use hm λ_ _ W₄ _ q₄ hm=>aB.ret hm .next (q₁.trans (q₂.trans (q₃.trans q₄)))) (hs F.env)
def dN(z:List Nat)(a b:V):HM V:=λH=>ba (vI a) (λi=>(vI b).map λj=>(.int (i+j),H)) <| ba (vS a) (λx=>(vS b).bind λy=>if x.length+y.length<=ax then some (.str (x++y),H) else none) <| (vR a).bind λn=>(vR b).bind λk=>(cI H n).bind λxs=>(cI H k).bind λys=>if n∉z/\xs.length+ys.length<=ax then some (.ref n,H.set n (.list (xs++ys))) else none
theorem rE(hl:s.heap.IsList l items)(hp:Pl s.heap l)(sq:s.heap.IsList l2 lL)(hz:items.size+lL.size<=ax)(q:∀h',h'.IsList l (items++lL)->Pl h' l->Heap.SameBut l s.heap h'->Q (.ref l) {s with heap:=h' }):wpAny (model prog w) A (inplaceOp .Add (.ref l) (.ref l2)) Q no s:=by
 have nz:=z9.1;have nz':=z9.2
 obtain⟨o,ho,hc,n,hd⟩:=id hl;obtain⟨o2,YI,hc2,n2,hd2⟩:=id sq;have YE:isSeqSlot (some (.builtin "list.__iadd__"))=true:=by decide +kernel
 unfold inplaceOp;refine q1u ?_;have hfi:fillsInplaceSlot (.type "list") "add" (Operator.Add==.Add)=pure false:=by unfold fillsInplaceSlot;show(typeLookup (.type "list") (dunderI "add")>>=λfi=>pure (fi.isSome&&!isSeqSlot fi))=pure false;rw[PySem.F.slot_list_iadd.lookup];show(pure ((some (Value.builtin "list.__iadd__")).isSome&&!isSeqSlot (some (.builtin "list.__iadd__"))):Sem Bool)=_;rw[YE];rfl
 have Wy:(!items.isEmpty&&Builtin.List.listTooLong (items.size+lL.size))=false:=by unfold Builtin.List.listTooLong;rw[q1x (by lia),Bool.and_false]
 have WG:o.dict=none/\o.slots=#[]:=by obtain⟨o',e1,e2⟩:=hp;rw[ho] at e1;obtain rfl:=q0a e1;exact e2
 obtain⟨n',Bm⟩:=Obj.data_mapSeq hd (· ++ lL);have hg:=Heap.get?_update_self (Obj.mapSeq (· ++ lL)) ho (Obj.isFreed_of_seq Bm);refine wb (wpAny_typeOf hl.typeIs (wb (q1g hfi ?_)));refine wb (wpAny_binaryOp1_none (nm:="add") hl.typeIs sq.typeIs noFill_list_add ?_);refine wb (q1g (PySem.seqSlot_of PySem.F.slot_list_iadd.lookup YE) ?_);refine wb (wpAny_rule ?_);refine q1z PySem.F.slot_list_iadd hl.typeIs PySem.F.entry_list_iadd ?_ (PySem.F.args_list_iadd_2 _ _);refine wb (m:=typeOf (.ref l2)) (wpAny_typeOf sq.typeIs (q1i (KPc.ite_yes (by simp) ?_)));refine wb (wb (q2o YI hd2 (q1e ?_)));refine wb (wb (q2o ho hd (q1e (q1i (KPc.ite_no (Bool.eq_false_iff.mp Wy) ?_)))));refine wb (m:=updateSeq l (· ++ lL)) (wpAny_updateSeq ho hd ?_ (by lia) (by simp;lia));exact q1e ⟨_,rfl,q _ ⟨_,hg,(Obj.cls_mapSeq ..).trans hc,n',Bm⟩ ⟨_,hg,(dQ _ _).1.trans WG.1,(dQ _ _).2.trans WG.2⟩ (Heap.SameBut.update ..)⟩
theorem r6(ra:VR W.ρ W.s.heap a x)(rb:VR W.ρ W.s.heap b y):dg VR W (inplaceOp .Add x y) (au (dN F.c.fn.frz a b)):=by
 refine dg.on (Ok.ba (λi g1=>Ok.map λj g2=>?_) (Ok.ba (λz g1=>Ok.bind λu g2=>Ok.iff λhl=>?_) (Ok.bind λn g1=>Ok.bind λk g2=>Ok.bind λxs g3=>Ok.bind λys g4=>Ok.iff λhl=>?_)))
 ·exact ra.hB g1 λt=>rb.hB g2 λu=>wpAny_iadd_int (aB.toks _ (.int _ _))
 ·exact ra.fC g1 λt=>rb.fC g2 λu=>PyProof.Rows.iadd_str (λt' tk=>aB.toks _ (.str _ _)) (de hl)
 ·refine ra.ew g1 λp hp=>rb.ew g2 λq hq=>W.dx g3 hp λi1 ed pl h1 h2 l1=>W.dx g4 hq λi2 _ _ h3 h4 l2=>?_
  exact rE h1 pl h3 (l1▸l2▸hl.2) λh' TC Zy sb=>aB.putAt W.s.toks hl.1 hp sb (λim=>ed▸.list Zy TC (by rw[Array.toList_append];exact(h2.mono im (.refl _)).append (h4.mono im (.refl _)))) λ_=>.ref (d:=p.2) hp
theorem vn(S:aM F e m)(hn:F.c.sc.names[i]?=some (x',k))(hk:k=.local\/(k=.cell/\F.c.fn.fn=true))(hc:(x'==("__classdict__" : Str))=false):fk F (.AugAssign (.Name x' p) .Add e pos) (Y (af i) λa=>Y m λb=>Y (au (dN F.c.fn.frz a b)) λv=>Y (aE i v) λ_=>Z .next):=λW _ hm=>
 ku hm λa hv hm=>wpAny_AugAssign_Name (W.load hn (hk.imp id λh=>.inl h.1) hv hc λxa ra=>(S W).use hm λb xb W₂ r₂ q₂ hm=>
  (r6 (q₂.vr ra) r₂).use hm λv y W₃ r₃ q₃ hm=>W₃.qS hn hk r₃ hm λW₄ q₄ hm=>aB.ret hm .next (q₂.trans (q₃.trans q₄)))
theorem Ar{γ:Type}{f:V->M γ}{r:γ×St}(ra:VR W.ρ W.s.heap a x)(rb:VR W.ρ W.s.heap b y)(hm:Y (av a b) f W.σ=some r){P:Prop}(k:∀v,Yh W x y v->f v W.σ=some r->P):P:=fE hm λv e h=>k v (qq W ra rb v e) h
theorem vp{o i e:Expr}{mo mi m:M V}{p pos:Pos}(L:aM F o mo)(R:aM F i mi)(E:aM F e m)(hi:iM i=true):fk F (.AugAssign (.Subscript o i p) .Add e pos) (Y mo λa=>Y mi λk=>Y (av a k) λx=>Y m λy=>Y (au (dN F.c.fn.frz x y)) λv=>Y (au (a8 F.c.fn.frz a k v)) λ_=>Z .next):=λW _ hm=>by
 have ha:∀ov iv new,augStore i ov iv new=(do holding [new,ov,iv] (setItem ov iv new);release [new,ov,iv] [];pure .next):=λ_ _ _=>by
  cases i with
  |Slice=>exact q1t hi q0f
  |_=>rfl
 exact wpAny_AugAssign_SubscriptAny ((L W).use hm λa xa W₁ r₁ q₁ hm=>(R W₁).use hm λk xk W₂ r₂ q₂ hm=>Ar (q₂.vr r₁) r₂ hm λv I hm=>I.get _ λold t r₃=>
  (E (W₂.toks t)).use hm λy xy W₄ r₄ q₄ hm=>(r6 (q₄.vr (W:=W₂.toks t) r₃) r₄).use hm λv xv W₅ r₅ q₅ hm=>
   have q:W₂.Le W₅:=(W₂.gv t).trans (q₄.trans q₅)
   (mf (q.vr (q₂.vr r₁)) (q.vr r₂) r₅).use hm λ_ _ W₆ _ q₆ hm=>aB.ret hm .next (q₁.trans (q₂.trans (q.trans q₆)))) ha
noncomputable def lS:HM V:=λH=>some (.ref H.length,H++[.dict []])
theorem G5:aM F (.Dict [] [] pos) (au lS):=λW r hm=>wpAny_Dict_empty (q0a hm▸W.made (p:=(_,_)) W.s.toks (.push _ _) (bu _ _) (q0c _) (q0c _) (.dict (Heap.DictOf.new _) .nil))
end
noncomputable def aZ:Addr:=743
noncomputable def aL:Addr:=608
structure NL(K:Frag)(C:Addr):Prop where
 get:∀name,plainGet K C name=true
 has:hasDictIn K C=true
 set:findIn K (.ref C) "__setattr__" = some (some (.builtin "object.__setattr__"))
 over:plainOver K C=true
 free:∀x∈aI,findIn K (.ref C) x=some none
structure m5(B:Heap)(K:Frag):Prop where
 inB:K.In B
 cls:∀C,C=aZ\/C=aL->NL K C
theorem uk(name:Str)(hsh:Int)(key v:Value)(hk:key.isStr name=true):∀es:List DictEntry,getL name (putL name hsh key v es)=some (some v)
 |[]=>by unfold getL putL;simp[hk]
 |e::r=>by
  have ih:=uk name hsh key v hk r;unfold putL;cases he:e.key.isStr name with
  |true=>simp only[if_true];unfold getL;simp[he]
  |false=>
   simp only[Bool.false_eq_true,if_false];unfold getL at ih ⊢;rw[List.find?_cons_of_neg (by simp[he])];cases hf:(putL name hsh key v r).find? (·.key.isStr name) with
   |some e'=>rw[hf] at ih;exact ih
   |none=>rw[hf] at ih;simp at ih
theorem kh(hx:∀k:Value,k.isStr name=true->k.isStr x=false)(hk:key.isStr name=true):∀es:List DictEntry,((putL name hsh key v es).find? (·.key.isStr x)).map (·.val)=(es.find? (·.key.isStr x)).map (·.val)
 |[]=>by simp[putL,hx key hk]
 |e::r=>by
  unfold putL;cases he:e.key.isStr name with
  |true=>simp only[if_true];rw[List.find?_cons_of_neg (by simp[hx _ he]),List.find?_cons_of_neg (by simp[hx _ he])]
  |false=>
   simp only[Bool.false_eq_true,if_false];cases YN:e.key.isStr x with
   |true=>rw[List.find?_cons_of_pos (by exact YN),List.find?_cons_of_pos (by exact YN)]
   |false=>rw[List.find?_cons_of_neg (by simp[YN]),List.find?_cons_of_neg (by simp[YN])];exact kh hx hk r
theorem tz(hk:key.isStr name=true):∀es:List DictEntry,(putL name hsh key v es).any (·.refKey)=es.any (·.refKey)
 |[]=>by
  cases key with
  |str y t=>rfl
  |_=>cases hk
 |e::r=>by
  unfold putL;cases he:e.key.isStr name with
  |true=>simp only[if_true];rfl
  |false=>simp only[Bool.false_eq_true,if_false,List.any_cons,tz hk r]
theorem isStr_of{k:Value}{name:Str}(h:k.isStr name=true):∃t,k=.str name t:=by
 cases k with
 |str y t=>exact⟨t,by have:(y==name)=true:=h;rw[eq_of_beq this]⟩
 |_=>cases h
theorem iR{name x:Str}{hsh:Int}{key v:Value}(my:x≠name)(hk:key.isStr name=true)(es:List DictEntry):getL x (putL name hsh key v es)=getL x es:=by
 have hx:∀k:Value,k.isStr name=true->k.isStr x=false:=λk h=>by
  obtain⟨t,rfl⟩:=isStr_of h;exact q2d.mpr (Ne.symm my)
 have h1:=kh (hsh:=hsh) (v:=v) hx hk es;unfold getL;rw[tz hk];cases e1:(putL name hsh key v es).find? (·.key.isStr x)<;>cases e2:es.find? (·.key.isStr x)<;>rw[e1,e2] at h1<;>simp at h1 ⊢
 exact h1
theorem n8(name:Str)(hsh:Int)(key v:Value):∀es:List DictEntry,(putL name hsh key v es).length<=es.length+1
 |[]=>by simp[putL]
 |e::r=>by
  unfold putL;split
  ·simp
  ·have:=n8 name hsh key v r;simp;omega
section
variable{F:ck}{K:Frag}{W W₁:Wd F}{v u a b:V}{x y:Value}{ρ:cY}{h:Heap}
noncomputable def bN:V->Bool
 |.top _=>false
 |_=>true
theorem qu(r:VR ρ h v y)(hv:bN v=true):handedIn y=true:=by
 induction r with
 |top=>exact q1t hv q0f
 |_=>rfl
noncomputable def dI(H:List O)(n:Nat):Option (Addr×List (Option V)):=match H[n]? with
 |some (.inst C fs)=>some (C,fs)
 |_=>none
theorem rD(h:dI H n=some c):H[n]?=some (.inst c.1 c.2):=by
 unfold dI at h;split at h
 ·rename_i e;exact q0a h▸e
 ·exact cE h
theorem Wd.qs(W:Wd F){n:Nat}{c:Addr×List (Option V)}(e:dI W.σ.H n=some c){p:Addr×Addr}(hp:W.ρ[n]?=some p){P:Prop}(k:∀es n,p.1≠p.2->W.s.heap.get? p.1=some (instObj c.1 p.2)->W.s.heap.get? p.2=some (dictOf es n)->kR W.ρ W.s.heap c.2 es->P):P:=(W.fr.hr.obj n _ p (rD e) hp).qs k
def cj(i:Nat)(o:V)(H:List O):Option V:=(vR o).bind λn=>(dI H n).bind λc=>if c.1=aZ\/c.1=aL then(c.2[i]?).bind λf=>f.bind λv=>if bN v then some v else none else none
theorem mz{i:Nat}{name:Str}{Rn:Bool}(Z00:m5 F.K.B K)(hn:aI[i]?=some name)(ro:VR W.ρ W.s.heap v x):Ok (λu=>∀Q:Value->Shared->Prop,(∀y t,VR W.ρ W.s.heap u y->Q y {W.s with toks:=t})->F.wp (getAttr x name Rn) Q W.s) (cj i v W.σ.H):=by refine Ok.bind λn g1=>ro.ew g1 λp hp=>Ok.bind λc g2=>Ok.ifs λhC=>Ok.bind λf g3=>Ok.bind λu g4=>Ok.iff λht Q q=>W.qs g2 hp λes ne _ h2 h3 h4=>?_;obtain⟨y,g5,g6⟩:=h4.has i name u hn (g4▸g3);obtain⟨m,M⟩:=W.fr.WY;have ok:=Z00.cls c.1 hC;exact PySem.W.get_own M Z00.inB (ox:=instObj c.1 p.2) ⟨h2,rfl,rfl,h3⟩ (ok.get _) ok.has (ok.free name (q2k hn)) rfl g5 (qu g6 ht) (q y _ g6)
def az(i:Nat)(o:V):M V:=nZ λH=>cj i o H
theorem uG{γ:Type}{f:V->M γ}{r:γ×St}{i:Nat}{name:Str}{Rn:Bool}{Q:Value->Shared->Prop}(Z00:m5 F.K.B K)(hn:aI[i]?=some name)(ro:VR W.ρ W.s.heap v x)(hm:Y (az i v) f W.σ=some r)(k:∀u y (W₁:Wd F),VR W₁.ρ W₁.s.heap u y->W.Le W₁->f u W₁.σ=some r->Q y W₁.s):F.wp (getAttr x name Rn) Q W.s:=fE hm λu e h=>mz Z00 hn ro u e Q λy t g=>k u y (W.toks t) g (W.gv t) h
theorem Vr{α:Type}{m:M α}:Y m Z=m:=by funext σ;unfold Y Z;cases m σ<;>rfl
theorem Hp{e:Expr}{m:M V}{i:Nat}{name:Str}{pos:Pos}(Z00:m5 F.K.B K)(L:aM F e m)(hn:aI[i]?=some name)(he:∀env:Env,eval (.Attribute e name pos) env=(do
 let o <-eval e env
 standAt pos.atName
 let r <-holding [o] (getAttr o name true)
 letTemporaryGo e o r
 pure r)):aM F (.Attribute e name pos) (Y m λo=>az i o):=λW _ hm=>
 Attribute_any_ ((L W).use hm λ_ _ W₁ r₁ q₁ hm=>uG (f:=Z) Z00 hn r₁ (Vr.symm▸hm) λu y W₂ r₂ q₂ hm=>aB.ret hm r₂ (q₁.trans q₂)) (he F.env)
def aA(z:List Nat)(i:Nat)(o u:V):HM Unit:=λH=>(vR o).bind λn=>(dI H n).bind λc=>
 if n∉z/\(c.1=aZ\/c.1=aL)/\i<c.2.length then some ((),H.set n (.inst c.1 (c.2.set i (some u)))) else none
theorem kg{name:Str}{hsh:Int}{key v:Value}:∀{es:List DictEntry}{y:Value},getL name es=some (some y)->(putL name hsh key v es).length=es.length
 |[],y,h=>by simp[getL] at h
 |e::r,y,h=>by
  unfold putL;cases he:e.key.isStr name with
  |true=>simp
  |false=>
   simp only[Bool.false_eq_true,if_false,List.length_cons];congr 1;refine kg (y:=y) ?_;unfold getL at h ⊢;rw[List.find?_cons_of_neg (by simp[he])] at h;cases hf:r.find? (·.key.isStr name) with
   |some e'=>rw[hf] at h;exact h
   |none=>rw[hf] at h;simp at h
theorem ii:∀{fs:List (Option V)}{i:Nat}{u:V},fs[i]?=some Option.none->(fs.set i (some u)).countP (·.isSome)=fs.countP (·.isSome)+1
 |[],i,u,h=>by simp at h
 |f::r,0,u,h=>by simp at h;subst h;simp
 |f::r,i+1,u,h=>by
  have:=ii (fs:=r) (i:=i) (u:=u) (by simpa using h);simp only[List.set_cons_succ,List.countP_cons,this];lia
theorem ig:∀{fs:List (Option V)}{i:Nat}{u v:V},fs[i]?=some (some v)->(fs.set i (some u)).countP (·.isSome)=fs.countP (·.isSome)
 |[],i,u,v,h=>by simp at h
 |f::r,0,u,v,h=>by simp at h;subst h;simp
 |f::r,i+1,u,v,h=>by
  have:=ig (fs:=r) (i:=i) (u:=u) (v:=v) (by simpa using h);simp only[List.set_cons_succ,List.countP_cons,this]
theorem Ag{i j:Nat}{x:Str}(h1:aI[i]?=some x)(h2:aI[j]?=some x):i=j:=by
 have nd:aI.Nodup:=by decide +kernel
 exact(List.getElem?_inj (q0b.mp h1).1 nd).mp (h1.trans h2.symm)
theorem kR.put{fs:List (Option V)}{es:List DictEntry}{i:Nat}{name:Str}{hsh:Int}{t:Tok}(r:kR ρ h fs es)(hn:aI[i]?=some name)(rv:VR ρ h v y):kR ρ h (fs.set i (some v)) (putL name hsh (.str name t) y es):=by
 have hk:(Value.str name t).isStr name=true:=beq_self_eq_true name;have hi:i<fs.length:=r.len▸(q0b.mp hn).1;have ne:∀{j:Nat}{z:Str},aI[j]?=some z->i≠j->z≠name:=λhz hj e=>hj (Ag hn (e▸hz));refine⟨q1n.trans r.len,λj z u hz hu=>?_,λj z hz hu=>?_,λz hz=>?_,?_⟩
 ·cases i6 hu with
  |inl g=>
   obtain⟨rfl,rfl⟩:=g;obtain rfl:=q0a (hn.symm.trans hz);exact⟨y,uk _ _ _ _ hk _,rv⟩
  |inr g=>exact(r.has j z u hz g.2).imp λ_=>q2l (iR (ne hz g.1) hk _).trans
 ·by_cases hj:i=j
  ·subst hj;exact nomatch (List.getElem?_set_self hi).symm.trans hu
  ·exact(iR (ne hz hj) hk _).trans (r.not j z hz ((q0j hj).symm.trans hu))
 ·exact(iR (λ(e:z=name)=>hz (e▸q2k hn)) hk _).trans (r.out z hz)
 ·have hf:fs[i]?=some fs[i]:=q0h hi
  cases hg:fs[i] with
  |none=>
   rw[ii (hg▸hf)];exact q0d (n8 _ _ _ _ _) (Nat.succ_le_succ r.few)
  |some u=>
   obtain⟨y',g1,_⟩:=r.has i name u hn (hg▸hf);rw[ig (hg▸hf),kg g1];exact r.few
theorem kR.any{fs:List (Option V)}{es:List DictEntry}{i:Nat}{name:Str}(r:kR ρ h fs es)(hn:aI[i]?=some name):(getL name es).isSome=true:=by
 have hi:i<fs.length:=r.len▸(q0b.mp hn).1;have hf:fs[i]?=some fs[i]:=q0h hi;cases hg:fs[i] with
 |none=>rw[r.not i name hn (hg▸hf)];rfl
 |some u=>obtain⟨y',g1,_⟩:=r.has i name u hn (hg▸hf);rw[g1];rfl
theorem Ac(hl:(getL name es).isSome=true):(!es.toArray.any (·.key.isStr name)&&es.toArray.any (·.refKey))=false:=by
 rw[<-Array.any_toList,<-Array.any_toList];unfold getL at hl;split at hl
 ·rename_i en he
  rw[List.any_eq_true.mpr ⟨en,List.mem_of_find?_eq_some he,List.find?_some he⟩];rfl
 ·split at hl
  ·exact q1t hl q0f
  ·rename_i z;rw[q1r] at z;rw[z,Bool.and_false]
theorem W2(r:kR ρ h fs es):(putL name hsh k y es).toArray.size<=sizeLine:=by rw[List.size_toArray];have h5:=n8 name hsh k y es;have h7:fs.countP (·.isSome)<=fs.length:=List.countP_le_length;exact q0d h5 (q0d (Nat.succ_le_succ (q0d r.few (q0d h7 (q2q r.len)))) (by decide))
theorem iF{i:Nat}{name:Str}{o u:V}{xo xu:Value}(Z00:m5 F.K.B K)(hn:aI[i]?=some name)(ro:VR W.ρ W.s.heap o xo)(ru:VR W.ρ W.s.heap u xu):dg UR W (setAttr xo name xu) (au (aA F.c.fn.frz i o u)):=by
 refine dg.on (Ok.bind λn g1=>ro.ew g1 λp hp=>Ok.bind λc g2=>Ok.iff λhc=>W.qs g2 hp λes ne my h2 h3 h4=>?_);have ok:=Z00.cls c.1 hc.2.1;have X:=Z00.inB.keeps W.fr.hr.stays;have inst:PySem.W.InstAt W.s.heap p.1 (instObj c.1 p.2) c.1 (some (dictOf es ne)):=⟨h2,rfl,rfl,h3⟩
 have ht:takerIn K c.1 name=some none:=by unfold takerIn;rw[ok.free name (q2k hn)];rfl
 refine PySem.W.set_plain X inst ok.set (PySem.W.osa_open (s:={W.s with toks:=W.s.toks+1}) X inst ok.over ht λbb=>?_);obtain⟨cd,Gi,Bm⟩:=PySem.W.any_some ok.has;have Lc:Looks (model F.K.prog F.K.w) ({W.s with toks:=W.s.toks+1}:Shared).heap (classData c.1) cd:=PySem.W.looks_clsIn X Gi;refine q1f (q1e (q1f (q1f (wpAny_loadPart h2 (q1f (Lc.here ?_))))));rw[Bm];refine q1e (a:=some p.2) (wb (q1e (wb ?_)));unfold nsSet;refine q1f (q1f (wpAny_askSetting (q1e (q1f (wpAny_mkText (q1f (wpAny_loadPart h3 ?_)))))));dsimp only;rw[aRefKeyMayBeTheName_at,Ac (h4.any hn)];have Wv:=putName_dict name (PyData.keyHash F.K.w.params name) (.str name (W.s.toks+1)) xu es ne;refine wpAny_updatePart h3 ?_;have D':(W.s.heap.update p.2 (Obj.putName name (PyData.keyHash F.K.w.params name) (.str name (W.s.toks+1)) xu)).get? p.2=some (dictOf (putL name (PyData.keyHash F.K.w.params name) (.str name (W.s.toks+1)) xu es) (putN name es ne)):=by rw[Heap.get?_update_self _ h3 (by rw[Wv];rfl),Wv]
 refine wb (wpAny_lookBehind D' (pastItsLine_dict (Nat.le_succ_of_le (W2 h4))) (q1e ?_));have sb:Heap.SameBut p.2 W.s.heap (W.s.heap.update p.2 (Obj.putName name (PyData.keyHash F.K.w.params name) (.str name (W.s.toks+1)) xu)):=Heap.SameBut.update ..;exact aB.put (W.s.toks+1+1) hc.1 hp (λb ob _ nb e=>bS sb b ob nb e) (q2q sb.1.symm) (λim=>.inst my (bS sb _ _ my h2) D' ((h4.mono im (.refl _)).put hn (ru.mono im (.refl _)))) λ_=>trivial
theorem vy(Z00:m5 F.K.B K)(E:aM F e m)(L:aM F o mo)(hn:aI[i]?=some name)(hs:∀env:Env,swapsWith e (some (.Attribute o name p)) pos.line env=pure false):fk F (.Assign [.Attribute o name p] e pos) (Y m λu=>Y mo λa=>Y (au (aA F.c.fn.frz i a u)) λ_=>Z .next):=λW _ hm=>
 plainObj_wpAny_Assign_Attribute ((E W).use hm λ_ _ W₁ r₁ q₁ hm=>(L W₁).use hm λ_ _ W₂ r₂ q₂ hm=>(iF Z00 hn r₂ (q₂.vr r₁)).use hm λ_ _ W₃ _ q₃ hm=>aB.ret hm .next (q₁.trans (q₂.trans q₃))) (hs F.env)
theorem vq{o e:Expr}{mo m:M V}{i:Nat}{name:Str}{p pos:Pos}(Z00:m5 F.K.B K)(L:aM F o mo)(E:aM F e m)(hn:aI[i]?=some name):fk F (.AugAssign (.Attribute o name p) .Add e pos) (Y mo λa=>Y (az i a) λx=>Y m λy=>Y (au (dN F.c.fn.frz x y)) λv=>Y (au (aA F.c.fn.frz i a v)) λ_=>Z .next):=λW _ hm=>
 wpAny_AugAssign_AttributeAny ((L W).use hm λa xa W₁ r₁ q₁ hm=>uG Z00 hn r₁ hm λx xx W₃ r₃ q₃ hm=>(E W₃).use hm λy xy W₄ r₄ q₄ hm=>(r6 (q₄.vr r₃) r₄).use hm λv xv W₅ r₅ q₅ hm=>
  have q:=q₃.trans (q₄.trans q₅)
  (iF Z00 hn (q.vr r₁) r₅).use hm λ_ _ W₆ _ q₆ hm=>aB.ret hm .next (q₁.trans (q.trans q₆)))
end
structure aQ where
 fd:FuncData
 params:List Str
 body:List Stmt
structure FnOk0(B:Heap)(f:Addr)(r:aQ):Prop where
 at_:∃o,B.get? f=some o/\o.data=.func r.fd
 code:B.CodeRec r.fd.code r.fd.qualname
 glob:r.fd.globals=mainGlobals
 blt:r.fd.builtins=builtinsNs
 clo:r.fd.closure=[]
 body:r.fd.body=.stmts r.body
 kind:r.fd.scope.kind=.function
 co:r.fd.scope.isCoroutine=false
 gen:r.fd.scope.isGenerator=false
 nd:(r.fd.scope.names.map (·.1)).Nodup
 free:∀p∈r.fd.scope.names,p.2≠.free
structure dc(B:Heap)(f:Addr)(r:aQ):Prop extends FnOk0 B f r where
 pnd:r.params.Nodup
 par:∀x∈r.params,r.fd.scope.names.lookup x=some .local\/r.fd.scope.names.lookup x=some .cell
 bind:∀s:Shared,(∀a o,B.get? a=some o->s.heap.get? a=some o)->∀xs:List Value,xs.length=r.params.length->BindsTo s r.fd ⟨xs,[]⟩ (r.params.zip xs)
noncomputable def bI(r:aQ)(k:Nat):Cx:=⟨⟨true,[]⟩,k,r.fd.scope,r.fd.code⟩
noncomputable def lF(r:aQ)(bs:List (Str×V)):List (Option V):=r.fd.scope.names.map λp=>bs.lookup p.1
noncomputable def dX:Fl->V
 |.ret v=>v
 |_=>.none
theorem tQ{α:Type}{r:List (Str×α)}{x:Str}(h:x∉r.map (·.1)):r.lookup x=none:=by
 cases e:r.lookup x with
 |none=>rfl
 |some y=>exact q1t (List.mem_map_of_mem (f:=(·.1)) (mem_of_lookup e)) h
theorem yW{kd:Str->Option NameKind}{x:Str}{bs:List (Str×Value)}:∀{m:Str->Option Value},(bs.map (·.1)).Nodup->(bindL kd bs m x=ba (bs.lookup x) (λy=>if kd x=some .local then some y else m x) (m x))/\(bindC kd bs m x=ba (bs.lookup x) (λy=>if kd x=some .local then m x else some y) (m x)):=by
 induction bs with
 |nil=>exact λ_=>⟨rfl,rfl⟩
 |cons p r ih=>
  obtain⟨n,v⟩:=p;intro m nd;rw[q1p,List.nodup_cons] at nd;unfold bindL bindC;rw[(ih nd.2).1,(ih nd.2).2,List.lookup_cons];by_cases hx:x=n
  ·subst hx
   rw[tQ nd.1,beq_self_eq_true];by_cases hk:kd x=some .local
   ·exact⟨by simp only[ba,q1k hk,if_true],by simp only[ba,q1k hk]⟩
   ·exact⟨by simp only[ba,q1l hk],by simp only[ba,q1l hk,if_true]⟩
  ·rw[q2d.mpr hx]
   have e:∀(c:Prop) [Decidable c] (a:Value),(if c then(λz=>if z=n then some a else m z) else m) x=m x:=λc _ a=>by split<;>simp[hx]
   have e':∀(c:Prop) [Decidable c] (a:Value),(if c then m else(λz=>if z=n then some a else m z)) x=m x:=λc _ a=>by split<;>simp[hx]
   exact⟨by simp only[ba,e],by simp only[ba,e']⟩
section
variable{F:ck}{K:Kx}{W W₁:Wd F}{v a b:V}{x y:Value}{ρ ρ₂:cY}{h:Heap}{H:List O}{s s' s₀ s₁:Shared}{σ₁:St}{env':Env}
theorem gF.Ju(r:gF ρ h es cM)(e:es.lookup k=some u):∃y,cM.lookup k=some y/\VR ρ h u y:=by
 induction r with
 |nil=>exact cE e
 |@cons k' _ _ _ _ a _ ih=>
  rw[List.lookup_cons] at e ⊢;cases hb:k==k' with
  |true=>rw[hb] at e;exact q0a e▸⟨_,rfl,a⟩
  |false=>rw[hb] at e;exact ih e
theorem gF.keys(r:gF ρ h es cM):es.map (·.1)=cM.map (·.1):=by
 induction r with
 |nil=>rfl
 |cons _ _ ih=>rw[q1p,q1p,ih]
theorem W6(R:HR K ρ H s.heap)(tb:fj s.heap)(ok:FnOk0 K.B f r)(rs:gF ρ s.heap bs binds)(nd:(bs.map (·.1)).Nodup)(hL:L=s.heap.objs.size)(he:env'=newEnv r.fd.scope L r.fd.globals (cellsFrom (L+1) r.fd.scope.names []) (r.fd.qualname++".<locals>.") (some f) r.fd.code none r.fd.builtins)(hx:InCallC s env'.locals (bindL env'.kindOf binds λ_=>none) env'.cells (bindC env'.kindOf binds λ_=>none) s₁):FR K env' ρ ⟨H,lF r bs⟩ s₁.heap:=by
 have ndb:(binds.map (·.1)).Nodup:=rs.keys▸nd;have hloc:env'.locals=s.heap.objs.size:=by rw[he];exact hL
 have pI:env'.scope=r.fd.scope:=by rw[he];rfl
 have YR:env'.cells=cellsFrom (L+1) r.fd.scope.names []:=by rw[he];rfl
 clear he;obtain⟨⟨_,ns,keep,fresh⟩,cell,apart,above⟩:=hx;have mx:s.heap.objs.size<=s₁.heap.objs.size:=hloc▸q1b ns.lt;have kd:∀{i:Nat}{x:Str}{k:NameKind},r.fd.scope.names[i]?=some (x,k)->env'.kindOf x=some k:=λe=>by
  show env'.scope.names.lookup _=_;rw[pI];exact bT ok.nd e
 have Wh:∀{i:Nat}{x:Str}{k:NameKind}{v:V},r.fd.scope.names[i]?=some (x,k)->(lF r bs)[i]?=some (some v)->∃y,binds.lookup x=some y/\VR ρ s₁.heap v y:=λ{i x k v} e e'=>by
  unfold lF at e';rw[q0y,e] at e';exact(rs.Ju (q0a e')).imp λ_=>And.imp_right (VR.mono (Keeps.uX keep) (.refl _))
 refine⟨R.grow keep mx,by rw[pI];exact q0w ..,⟨_,⟨ns,R.stays.trans keep,hloc▸R.low⟩,λi x v e f=>?_⟩,λi x k e f=>?_,λx cc e=>?_,hloc▸R.fresh (q0c _),tb.at' (keep _) (keep _)⟩
 ·rw[pI] at e
  obtain⟨y,h1,h2⟩:=Wh e f;exact⟨y,by rw[(yW ndb).1,h1];exact q1k (kd e),h2⟩
 ·rw[pI] at e
  obtain rfl:k=.cell:=f.resolve_right λh=>ok.free _ (q2k e) h;obtain⟨cc,h1⟩:=Option.isSome_iff_exists.mp (show(env'.cells.lookup x).isSome=true by rw[YR];exact PySem.W.cellsFrom_some _ _ _ (.inl (bT ok.nd e)));refine⟨cc,h1,_,cell x cc h1,λv hv=>?_⟩;obtain⟨y,h2,h3⟩:=Wh e hv;exact⟨y,by rw[(yW ndb).2,h2];exact q1l (by rw[kd e];exact λq=>nomatch q),h3⟩
 ·have ha:=above x cc (mem_of_lookup e)
  rw[hloc] at ha;exact⟨R.fresh (q1b ha),hloc▸q1d ha,q0d R.low (q1b ha),_,cell x cc e⟩
structure L4(K:Kx)(ρ:cY)(s:Shared)(v:V)(H':List O)(ρ₂:cY)(y:Value)(s₂:Shared):Prop where
 pre:pN ρ ρ₂
 hr:HR K ρ₂ H' s₂.heap
 key:∀b ob,¬dJ [] ρ b->b≠bw->s.heap.get? b=some ob->s₂.heap.get? b=some ob
 new:∀z a,dJ z ρ₂ a->dJ z ρ a\/s.heap.objs.size<=a
 tab:fj s₂.heap
 bare:AllBare s₂.gens
 vr:VR ρ₂ s₂.heap v y
 zA:∀vs,s.heap.get? bw=some {cls:=.none,data:=.fields vs}->∃more,s₂.heap.get? bw=some {cls:=.none,data:=.fields (vs++more)}
 os:s₂.os=s.os
 size:s.heap.objs.size<=s₂.heap.objs.size
theorem L4.post(q:L4 F.K W.ρ W.s v H' ρ₂ y s₂)(hz:F.c.fn.frz=[]):aB VR W (v,⟨H',W.σ.loc⟩) y s₂:=by have low:∀{b:Addr},F.K.B.objs.size<=b->b≠bw:=λhb=>(F.nT hb).1;have im:jm W.s.heap s₂.heap:=λb ob e ci=>q.key b ob (λz=>(W.fr.hr.fX z).not e ci) (λe'=>W.fr.tab.tJ.not (e'▸e) ci) e;exact⟨ρ₂,W.fr.upd q.pre im q.hr (q.key _ · W.fr.own (W.fr.loc.elim λ_ m=>low m.1.above)) (λx c e o=>q.key c o (W.fr.celO x c e).own (low (W.fr.celO x c e).low)) (q.new []) q.tab,q.bare,q.vr,⟨q.pre,λa o e h1 _ h3=>q.key a o (hz▸h1) h3 e,q.new,q.zA,q.os,q.size⟩⟩
def cD(P:Value->Shared->Prop)(res:Result)(s':Shared):Prop:=match res with
 |.ok (.ret y)=>P y s'
 |.ok _=>False
 |.error _=>False
theorem cD.use{P:Value->Shared->Prop}{Q:Result->Shared->Prop}{M:Model}{A:Around}{cd:Code}{s:Shared}(h:codeAny M A cd (cD P) s)(k:∀y s',P y s'->Q (.ok (.ret y)) s'):codeAny M A cd Q s:=codeAny_mono h λres s' h=>by
 cases res with
 |error=>exact h.elim
 |ok f=>cases f with
  |ret y=>exact k y s' h
  |_=>exact h.elim
theorem qC(tA:bw<K.B.objs.size)(tC:jA<K.B.objs.size)(bo:BOk K.B)(Yt:Keeps K.B s₀.heap)(R:HR K ρ H s.heap)(tb:fj s.heap)(bare:AllBare s.gens)(ok:FnOk0 K.B f r)(fH:K.B.NoLimit)(hA:ft (k+1) A')(hb:∀(Q:List (Str×Value)->Shared->Prop) (E:Value->Shared->Prop),Q binds s->wpAny (model K.prog K.w) A'.in1 (bindArgs r.fd ⟨xs,[]⟩) Q E s₀)(rs:gF ρ s.heap bs binds)(nd:(bs.map (·.1)).Nodup)(Q7:∀x∈bs.map (·.1),r.fd.scope.names.lookup x=some .local\/r.fd.scope.names.lookup x=some .cell)(S:∀F:ck,F.K=K->F.c=bI r k->eF F r.body mb)(hm:mb ⟨H,lF r bs⟩=some (fl,σ₁)):codeAny (model K.prog K.w) A' (.call (.ref f) ⟨xs,[]⟩) (cD λy s'=>∃ρ₂,L4 K ρ s (dX fl) σ₁.H ρ₂ y s') s₀:=by
 obtain⟨o,ho,hd⟩:=ok.at_;refine codeAny_call_function hA.depth (Yt _ _ ho) hd ok.co ok.gen ok.body (ok.code.keeps Yt) (hb _ _ ?_);rw[ok.clo];refine wpAny_newFunctionEnv_cells ok.kind (λz hz=>?_) λenv' he s₁ hx=>⟨(fH.keeps R.stays).keeps hx.toInCall.keep,codeAny_func ?_⟩
 ·have ZT:z.1∈bs.map (·.1):=by rw[rs.keys];exact List.mem_map_of_mem (f:=(·.1)) hz
  exact(Q7 z.1 ZT).imp id λh=>⟨h,PySem.W.cellsFrom_some _ _ _ (.inl h)⟩
 ·have X:=W6 (s₁:=s₁) R tb ok rs nd rfl he hx
  have hloc:env'.locals=s.heap.objs.size:=by rw[he];rfl
  have pI:env'.scope=r.fd.scope:=by rw[he];rfl
  have Gi:env'.code=r.fd.code:=by rw[he];rfl
  have hgl:env'.globals=mainGlobals:=by rw[he];exact ok.glob
  have hbl:env'.builtins=builtinsNs:=by rw[he];exact ok.blt
  clear he;obtain⟨⟨⟨h1,tk,hs₁⟩,ns,keep,fresh⟩,cell,apart,above⟩:=hx;have hos:s₁.os=s.os:=by rw[hs₁]
  let F':ck:={K:=K,c:=bI r k,A:=A'.deeper env',env:=env',room:=hA.deeper,sc:=pI,cd:=Gi,kind:=pI.symm▸ok.kind,glob:=hgl,blt:=hbl,nd:=pI.symm▸ok.nd,celN:=λx y c e f=>name_of_addr apart (mem_of_lookup e) (mem_of_lookup f),tA:=tA,tC:=tC,bo:=bo}
  let W':Wd F':=⟨ρ,⟨H,lF r bs⟩,s₁,X,hs₁▸bare⟩
  refine q1h (S F' rfl rfl W' _ hm) (λf' s₂ p=>?_) λ_ _ h=>h.elim;have fin:∀y ρ₂ H₂,FR K env' ρ₂ H₂ s₂.heap->AllBare s₂.gens->eT ⟨true,[]⟩ env' ρ s₁ ρ₂ s₂->VR ρ₂ s₂.heap (dX fl) y->∃ρ₂,L4 K ρ s (dX fl) H₂.H ρ₂ y s₂:=λy ρ₂ H₂ F₂ G₂ q ry=>
   ⟨ρ₂,q.pre,F₂.hr,λb ob nb nt e=>q.chg b ob (keep b ob e) nb (λz=>z.elim (λz=>q1c _ (hloc▸z▸q0s e)) λz=>z.2.elim λx z=>q1c _ (Nat.lt_trans (q0s e) (hloc▸above x b (mem_of_lookup z)))) nt,λz a h=>(q.new z a h).imp id (q0d (hloc▸q1b ns.lt)),F₂.tab,G₂,ry,λvs e=>q.zA vs (keep _ _ e),q.os.trans (hos:s₁.os=s.os),q0d (hloc▸q1b ns.lt) q.size⟩
  induction p with
  |mk ρ₂ F₂ G₂ r₂ q₂=>cases r₂ with
   |next=>exact fin _ _ _ F₂ G₂ q₂ .none
   |brk=>exact fin _ _ _ F₂ G₂ q₂ .none
   |cont=>exact fin _ _ _ F₂ G₂ q₂ .none
   |ret r=>exact fin _ _ _ F₂ G₂ q₂ r
theorem oZ{f:Addr}{r:aQ}{k:Nat}{A':Around}{bs:List (Str×V)}{binds:List (Str×Value)}{xs:List Value}{mb:M Fl}{fl:Fl}(Yt:Keeps F.K.B s₀.heap)(hz:F.c.fn.frz=[])(ok:FnOk0 F.K.B f r)(fH:F.K.B.NoLimit)(hA:ft (k+1) A')(hb:∀(Q:List (Str×Value)->Shared->Prop) (E:Value->Shared->Prop),Q binds W.s->wpAny (model F.K.prog F.K.w) A'.in1 (bindArgs r.fd ⟨xs,[]⟩) Q E s₀)(rs:gF W.ρ W.s.heap bs binds)(nd:(bs.map (·.1)).Nodup)(Q7:∀x∈bs.map (·.1),r.fd.scope.names.lookup x=some .local\/r.fd.scope.names.lookup x=some .cell)(S:∀F':ck,F'.K=F.K->F'.c=bI r k->eF F' r.body mb)(hm:mb ⟨W.σ.H,lF r bs⟩=some (fl,σ₁)):codeAny (model F.K.prog F.K.w) A' (.call (.ref f) ⟨xs,[]⟩) (cD (aB VR W (dX fl,⟨σ₁.H,W.σ.loc⟩))) s₀:=cD.use (qC F.tA F.tC F.bo Yt W.fr.hr W.fr.tab W.bare ok fH hA hb rs nd Q7 S hm) λy s h=>h.elim λ_ q=>q.post hz
end
def ZM(v:V)(r:Option (List Int)):Option (List Int):=(vI v).bind λi=>r.map (i :: ·)
noncomputable def uf:List V->Option (List Int)
 |[]=>some []
 |v::r=>ZM v (uf r)
noncomputable def signsOf(x:Str):List V:=x.cps.toList.map λc=>.str ⟨#[c]⟩
inductive Bf where
 |len |isinstance |type |int |str |list |sum |range |deque
noncomputable def Bf.val:Bf->Value
 |.len=>.builtin "len"
 |.isinstance=>.builtin "isinstance"
 |.type=>.type "type"
 |.int=>.type "int"
 |.str=>.type "str"
 |.list=>.type "list"
 |.sum=>.builtin "sum"
 |.range=>.type "range"
 |.deque=>.type "collections.deque"
def tO(H:List O)(n:Nat):Option (List V):=(cI H n).bind λus=>if us.length<=ax then some us else none
theorem gM(h:tO H n=some vs):cI H n=some vs/\vs.length<=ax:=by obtain⟨us,h1,h2⟩:=q1a.mp h;exact ifk h2 λhl=>⟨h1,hl⟩
def XQ(v:V):HM V:=λH=>ba (vS v) (λx=>if x.length<=ax then some (.int x.length,H) else none) <| (vR v).bind λn=>(tO H n).map λus=>(.int us.length,H)
def LI(v:V)(u:Value):HM V:=λH=>ba (vS v) (λ_=>if u=.type "str" then some (.bool true,H) else none) <| (vT v).bind λ_=>if u=.type "tuple" then some (.bool true,H) else none
def NE(v:V):HM V:=λH=>ba (vS v) (λ_=>some (.top (.type "str"),H)) <| (vI v).map λ_=>(.top (.type "int"),H)
def A9(v:V):HM V:=λH=>ba (vI v) (λi=>some (.int i,H)) <| (vS v).bind λx=>if x.length<=640 then(PySem.intText? x).map λn=>(.int n,H) else none
def XC(v:V):HM V:=λH=>(vI v).bind λi=>if i.natAbs.log2<1920 then some (.str (toString i),H) else none
def y4(v:V):HM V:=λH=>ba (vS v) (λx=>if x.cps.size<=ax then some (.ref H.length,H++[.list (signsOf x)]) else none) <| (vR v).bind λn=>(dm H n).bind λes=>if es.length<=ax then some (.ref H.length,H++[.list (es.map λe=>.str e.1)]) else none
def LH(v:V):HM V:=λH=>(vR v).bind λn=>(tO H n).bind λus=>(uf us).map λis=>(.int is.sum,H)
def FK(v:V):HM V:=λH=>(vI v).map λn=>(.iH n,H)
noncomputable def blt(f:Bf)(vs:List V):HM V:=λH=>match f with
 |.len=>(one vs).bind λv=>XQ v H
 |.isinstance=>(sC vs).bind λv=>(Gv v.2).bind λu=>LI v.1 u H
 |.type=>(one vs).bind λv=>NE v H
 |.int=>(one vs).bind λv=>A9 v H
 |.str=>(one vs).bind λv=>XC v H
 |.list=>(one vs).bind λv=>y4 v H
 |.sum=>(one vs).bind λv=>LH v H
 |.range=>(one vs).bind λv=>FK v H
 |.deque=>if vs.isEmpty then some (.ref H.length,H++[.d8 []]) else none
section
variable{prog:Program}{w:World}{A:Around}{s:Shared}
namespace Dq
theorem mro:mroOf (.type "collections.deque")=pure [.type "collections.deque",.type "object"]:=by rw[mroOf_type];kernel_rfl
theorem wi:typeLookup (.type "collections.deque") "__new__" = pure (some (.builtin "collections.deque.__new__")):=by rw[typeLookup_type,q2b];kernel_rfl
theorem lv:plainId "collections.deque.__new__" = true:=by decide +kernel
theorem zG:Slot "collections.deque" "__init__" "collections.deque.__init__" :=.of (owner:="collections.deque") (n:="__init__") (by rw[typeLookup_type,q2b];kernel_rfl) (by decide +kernel) (by decide +kernel) (by decide +kernel) (by first | exact .inl (by decide +kernel) | exact .inr (by decide +kernel)) (by rw[isSubtype_type];kernel_rfl)
theorem sub:isSubtype (.type "collections.deque") (.type "collections.deque")=pure true:=by rw[isSubtype_type];kernel_rfl
theorem called:TypeCalled "collections.deque" "collections.deque.__new__" "collections.deque.__init__" :=⟨by decide +kernel,by decide +kernel,⟨_,_,mro⟩,madeBy_type mro wi (by decide +kernel),lv,sub,zG⟩
theorem typeCall:checkTypeCall "collections.deque" ⟨[],[]⟩=pure ():=by kernel_rfl
theorem wx:entryFor table "collections.deque.__init__" = some Builtin.«collections.deque.__init__» :=entryFor_of_tree (by kernel_rfl)
theorem AG:entryFor table "collections.deque.__new__" = some Builtin.«collections.deque.__new__» :=entryFor_of_tree (by kernel_rfl)
theorem Bd(a:Value):argsOk "collections.deque.__init__" ⟨[a],[]⟩:=by unfold argsOk;kernel_rfl
theorem Jg:checkBuiltinCall "collections.deque.__new__" ⟨[.type "collections.deque"],[]⟩=pure ():=by kernel_rfl
theorem noDict:typeHasDict (.type "collections.deque")=false:=by decide +kernel
end Dq
theorem wH(q:∀h',(∀a o,s.heap.get? a=some o->h'.get? a=some o)->h'.get? s.heap.objs.size=some (eQ 0 #[])->s.heap.objs.size<=h'.objs.size->Q (.ref s.heap.objs.size) {s with heap:=h' }):wpAny (model prog w) A (call (.type "collections.deque") []) Q no s:=by
 refine callType_codes (Q₁:=λobj s₁=>obj=.ref s.heap.objs.size/\s₁={s with heap:=s.heap.push (eQ 0 #[])}) Dq.called Dq.typeCall Dq.wx ?_ λobj s₁ h₁=>?_
 ·refine codeAny_of_tree ?_
  show wpAny _ A.in1.in1 (do checkBuiltinCall "collections.deque.__new__" ⟨[.type "collections.deque"],[]⟩;again (.builtin "collections.deque.__new__" ⟨[.type "collections.deque"],[]⟩)) _ _ s;refine wb (q1g Dq.Jg (q1e ⟨plainId_quiet Dq.lv _,codeAny_builtin Dq.AG ?_⟩));rw[Around.under_plainId Dq.lv _];unfold Builtin.«collections.deque.__new__» Builtin.Deque.newArgs;refine wb (wb (m:=isType _) (q1g (a:=true) (by kernel_rfl) ?_));simp only[Bool.not_true,Bool.false_eq_true,if_false];refine q1f (m:=isSubtype _ _) (q1g (a:=true) Dq.sub ?_);simp only[Bool.not_true,Bool.false_eq_true,if_false];refine q1e ?_;unfold Builtin.Deque.new;refine wb ?_;rw[q1l (by simp),Dq.noDict];simp only[Bool.false_eq_true,if_false];refine wb (q1e ?_);refine q2a ?_ (by size_fits);exact q1e ⟨rfl,rfl⟩
 ·obtain⟨rfl,rfl⟩:=h₁
  have ho:(s.heap.push (eQ 0 #[])).get? s.heap.objs.size=some (eQ 0 #[]):=q0n _ rfl;refine⟨⟨_,ho,rfl⟩,Dq.Bd _,?_⟩;show wpAny _ _ (setField (.ref s.heap.objs.size) 0 .none>>=λ_=>Builtin.Deque.clear (.ref s.heap.objs.size)>>=λ_=>ret .none) _ _ _;refine q1f (wpAny_setField_rec ho (by simp) λh' Wx sb=>?_);have YI:h'.get? s.heap.objs.size=some (eQ 0 #[]):=Wx;unfold Builtin.Deque.clear Builtin.Deque.items;refine q1f (q1f (q1f (wpAny_fieldsOf YI rfl (q1e ?_))));rw[q1l (by simp)];refine q1e (q1e ⟨rfl,q h' (λa o e=>?_) YI (by rw[sb.1];exact bu _ _)⟩);rw[sb.2 a (q0t (q0s e))];exact q0p _ e
end
section
variable{F:ck}{W W₁:Wd F}{v a b:V}{x y:Value}{ρ:cY}{h h':Heap}{prog:Program}{w:World}
theorem ue(r:bE ρ h us xs):Ok (λis=>∃ps:List (Int×Tok),xs=ps.map (λp=>Value.int p.1 p.2)/\ps.map (·.1)=is) (uf us):=by
 induction r with
 |nil=>exact .some ⟨[],rfl,rfl⟩
 |cons r1 _ ih=>
  refine Ok.bind λi e1=>Ok.map λjs e2=>?_;obtain⟨ps,h1,h2⟩:=ih js e2;exact r1.hB e1 λt=>⟨(i,t)::ps,by rw[h1];rfl,by rw[<-h2];rfl⟩
theorem t7{acc:Array Value}{x:Str}(hi:ItemsOf (SignAt x) acc x.cps.size):bE ρ h (signsOf x) acc.toList:=by obtain⟨h1,h2⟩:=hi;refine bE.of_get (by unfold signsOf;rw[q0w];exact h1.symm) λi v y e f=>?_;obtain⟨c,u,e1,e2⟩:=h2 i y (q2i.symm.trans f);unfold signsOf at e;rw[q0y,q2i,e1] at e;exact q0a e▸e2▸.str _ _
theorem wo(r:gF ρ h es cM)(hi:ItemsOf (λi v=>∃k x,cM[i]?=some (k,x)/\(strKind prog w).is k v=true) acc cM.length):bE ρ h' (es.map λe=>V.str e.1) acc.toList:=by obtain⟨h1,h2⟩:=hi;refine bE.of_get (by rw[q0w,r.length];exact h1.symm) λi v y e f=>?_;obtain⟨k,z,e1,e2⟩:=h2 i y (q2i.symm.trans f);obtain⟨t,rfl⟩:=m8 e2;rw[q0y] at e;obtain⟨p,e3,rfl⟩:=q0z.mp e;obtain⟨y',e4,_⟩:=r.get.2 _ e3;exact(q0v (q0a (e1.symm.trans e4))).1▸.str _ _
abbrev dU(W:Wd F)(f:Value)(xs:List Value)(r:Option (V×List O)):Prop:=Ok (λc=>F.wp (call f xs) (aB VR W (c.1,⟨c.2,W.σ.loc⟩)) W.s) r
theorem FL(r:VR W.ρ W.s.heap a x):dU W (.builtin "len") [x] (XQ a W.σ.H):=by refine Ok.ba (λz e=>Ok.iff λhl=>r.fC e λt=>PySem.P.len_str (Int.not_le.mpr (oB hl)) (aB.toks _ (.int _ _))) (Ok.bind λn e=>Ok.map λus e1=>r.ew e λp hp=>W.dx (gM e1).1 hp λitems _ _ h2 h3 l=>?_);exact call_len_list h2 (oB (l▸(gM e1).2)) (l▸aB.toks _ (.int _ _))
theorem FM(r:VR W.ρ W.s.heap a x):dU W (.builtin "isinstance") [x,u] (LI a u W.σ.H):=by refine Ok.ba (λz e=>Ok.iff λhu=>r.fC e λt=>hu▸PySem.IsiPair.str_str (aB.same (.bool _))) (Ok.bind λn e=>Ok.iff λhu=>r.tupK e λp items h2 h3 _=>?_);obtain⟨o,ho,hc,_⟩:=h2;exact hu▸PySem.IsiPair.tuple_tuple ho hc (aB.same (.bool _))
theorem A3(r:VR W.ρ W.s.heap a x):dU W (.type "type") [x] (NE a W.σ.H):=Ok.ba (λz e=>.some (VR.fC (P:=λx=>F.wp (call (.type "type") [x]) _ _) r e λt=>call_type_of (typeIs_str W.s _ t) (by decide) (aB.same (.top rfl)))) (Ok.map λn e=>VR.hB (P:=λx=>F.wp (call (.type "type") [x]) _ _) r e λt=>call_type_of (typeIs_int W.s _ t) (by decide) (aB.same (.top rfl)))
theorem FN(r:VR W.ρ W.s.heap a x):dU W (.type "int") [x] (A9 a W.σ.H):=Ok.ba (λz e=>.some (VR.hB (P:=λx=>F.wp (call (.type "int") [x]) _ _) r e λt=>call_int_int (aB.same (.int _ _)))) (Ok.bind λn e=>Ok.ifs λhl=>Ok.map λn e1=>VR.fC (P:=λx=>F.wp (call (.type "int") [x]) _ _) r e λt=>PySem.W.KIN.call_text e1 hl (aB.toks _ (.int _ _)))
theorem FH(r:VR W.ρ W.s.heap a x):dU W (.type "str") [x] (XC a W.σ.H):=Ok.bind λn e=>Ok.iff λhl=>VR.hB (P:=λx=>F.wp (call (.type "str") [x]) _ _) r e λt=>PySem.P.str_of_int hl (aB.toks _ (.str _ _))
theorem A8(r:VR W.ρ W.s.heap a x):dU W (.type "list") [x] (y4 a W.σ.H):=by
 refine Ok.ba (λz e=>Ok.iff λhl=>r.fC e λt=>?_) (Ok.bind λn e=>Ok.bind λes e1=>Ok.iff λhl=>r.ew e λp hp=>W.gQ e1 hp λcM _ h2 h3=>?_)
 ·refine bK (q0c _) (call_list_str F.room.1 _ t (λh' tk Ta c' k hS hi mx=>?_) (de hl))
  exact W.qo (items:=Ta.toList) tk k mx (q0c _) ⟨_,hS,rfl,⟨c',rfl⟩,rfl,rfl⟩ (t7 hi)
 ·obtain⟨ep,h4⟩:=h2.dictAt
  refine bK (q0c _) (PySem.W.kdl_call (PySem.W.kdl_dict (ep:=ep) (knd:=strKind F.K.prog F.K.w) (W.eL hp)) F.room.1 h4 (de (h3.length▸hl)) λh' tk Ta c' k hS hi mx=>?_);exact W.qo (items:=Ta.toList) tk k mx (q0c _) ⟨_,hS,rfl,⟨c',rfl⟩,rfl,rfl⟩ (wo h3 hi)
theorem FG(r:VR W.ρ W.s.heap a x):dU W (.builtin "sum") [x] (LH a W.σ.H):=by
 refine Ok.bind λn e=>Ok.bind λus e1=>Ok.map λis e2=>r.ew e λp hp=>W.dx (gM e1).1 hp λitems _ _ h2 h3 _=>?_;obtain⟨ps,e3,e4⟩:=ue h3 is e2;have e5:items=intItems ps.toArray:=Array.ext' (e3.trans (by simp[intItems]));refine bK (q0c _) (sum_intListG F.room.1 (e5▸h2) λh' tk t' k mx=>?_);have e6:preSum (numAt ps.toArray) ps.toArray.size=is.sum:=by rw[preSum_eq,List.take_of_length_le (by simp)];simp[e4]
 rw[e6];exact aB.grown tk k mx (.int _ _)
theorem wK{vs:List V}{xs:List Value}{f:Value}{g:V->HM V}(rs:bE W.ρ W.s.heap vs xs)(G:∀{a:V}{x:Value},VR W.ρ W.s.heap a x->dU W f [x] (g a W.σ.H)):dU W f xs ((one vs).bind λv=>g v W.σ.H):=Ok.bind λa e=>rs.Dx (P:=λxs=>dU W f xs (g a W.σ.H)) e λx r=>G r
theorem KD(f:Bf)(rs:bE W.ρ W.s.heap vs xs):dg VR W (call f.val xs) (au (blt f vs)):=by
 refine dg.on ?_;cases f with
 |len=>exact wK rs FL
 |type=>exact wK rs A3
 |int=>exact wK rs FN
 |str=>exact wK rs FH
 |list=>exact wK rs A8
 |sum=>exact wK rs FG
 |isinstance=>exact Ok.bind λp e=>Ok.bind λu e2=>rs.NW (P:=λxs=>dU W (.builtin "isinstance") xs (LI p.1 u W.σ.H)) e λx y r r'=>r'.T4 (P:=λy=>dU W (.builtin "isinstance") [x,y] (LI p.1 u W.σ.H)) e2 (FM r)
 |range=>
  refine wK (g:=FK) rs λ{a x} r=>Ok.map λn e=>VR.hB (P:=λx=>F.wp (call (.type "range") [x]) _ _) r e λt=>?_;exact call_range_1 (aB.grown _ (.push _ _) (bu _ _) (.iH (W.new (q0c _)) ⟨_,_,_,q0n _ rfl⟩))
 |deque=>
  cases vs with
  |nil=>exact .some (rs.nil_inv▸wH λh' k ho mx=>W.made (p:=(_,_)) W.s.toks k mx (q0c _) (q0c _) (.d8 ho .nil))
  |cons=>exact .none
end
inductive Mt where
 |append |pop |reverse |get |startswith |endswith
noncomputable def Mt.name:Mt->Str
 |.append=>"append"
 |.pop=>"pop"
 |.reverse=>"reverse"
 |.get=>"get"
 |.startswith=>"startswith"
 |.endswith=>"endswith"
inductive Kd where
 |list |dict |str |d8
noncomputable def Wk(o:Option O):Option Kd:=match o with
 |some (.list _)=>some .list
 |some (.dict _)=>some .dict
 |some (.d8 _)=>some .d8
 |_=>none
def dy(H:List O)(v:V):Option Kd:=ba (vS v) (λ_=>some .str) <| (vR v).bind λn=>Wk H[n]?
noncomputable def so:Kd->Mt->Option String
 |.list,.append=>some "list.append"
 |.list,.pop=>some "list.pop"
 |.list,.reverse=>some "list.reverse"
 |.dict,.get=>some "dict.get"
 |.str,.startswith=>some "str.startswith"
 |.str,.endswith=>some "str.endswith"
 |.d8,.append=>some "collections.deque.append"
 |.d8,.pop=>some "collections.deque.pop"
 |_,_=>none
noncomputable def DL(n:Nat)(us:List V)(m:Mt)(vs:List V):HM V:=λH=>match m with
 |.append=>(one vs).bind λu=>if us.length<ax then some (.none,H.set n (.list (us++[u]))) else none
 |.pop=>if vs.isEmpty then us.getLast?.map λu=>(u,H.set n (.list us.dropLast)) else none
 |.reverse=>if vs.isEmpty then some (.none,H.set n (.list us.reverse)) else none
 |_=>none
noncomputable def Jt(n:Nat)(us:List V)(m:Mt)(vs:List V):HM V:=λH=>match m with
 |.append=>(one vs).bind λu=>if us.length<ax then some (.none,H.set n (.d8 (us++[u]))) else none
 |.pop=>if vs.isEmpty/\us.length<=ax then us.getLast?.map λu=>(u,H.set n (.d8 us.dropLast)) else none
 |_=>none
noncomputable def V8(x:Str)(m:Mt)(vs:List V):HM V:=λH=>(one vs).bind λv=>(vS v).bind λy=>match m with
 |.startswith=>some (.bool (Txt.startswith x y),H)
 |.endswith=>some (.bool (Txt.endswith x y),H)
 |_=>none
noncomputable def V9(es:List (Str×V))(m:Mt)(vs:List V):HM V:=λH=>match m with
 |.get=>(sC vs).bind λp=>(vS p.1).map λkey=>((es.lookup key).getD p.2,H)
 |_=>none
noncomputable def nh(z:List Nat)(k:Kd)(m:Mt)(o:V)(vs:List V):HM V:=λH=>match k with
 |.list=>(vR o).bind λn=>(tO H n).bind λus=>if n∈z then none else DL n us m vs H
 |.dict=>(vR o).bind λn=>(dm H n).bind λes=>V9 es m vs H
 |.str=>(vS o).bind λx=>V8 x m vs H
 |.d8=>(vR o).bind λn=>(iW H n).bind λus=>if n∈z then none else Jt n us m vs H
theorem DY(h:Wk o=some k):(k=.list/\∃vs,o=some (.list vs))\/(k=.dict/\∃vs,o=some (.dict vs))\/(k=.d8/\∃vs,o=some (.d8 vs)):=by
 cases o with
 |none=>exact cE h
 |some o=>cases o with
  |list vs=>exact .inl ⟨D9 h,vs,rfl⟩
  |dict vs=>exact .inr (.inl ⟨D9 h,vs,rfl⟩)
  |d8 vs=>exact .inr (.inr ⟨D9 h,vs,rfl⟩)
  |_=>exact cE h
namespace Dq
theorem plain:PlainAttrs "collections.deque" :=⟨⟨"collections.deque.__getattribute__",by rw[typeLookup_type,q2b];kernel_rfl,by decide +kernel⟩,by rw[typeLookup_type,q2b];kernel_rfl⟩
theorem l9:Slot "collections.deque" "append" "collections.deque.append" :=.of (owner:="collections.deque") (n:="append") (by rw[typeLookup_type,q2b];kernel_rfl) (by decide +kernel) (by decide +kernel) (by decide +kernel) (by first | exact .inl (by decide +kernel) | exact .inr (by decide +kernel)) (by rw[isSubtype_type];kernel_rfl)
theorem sS:Slot "collections.deque" "pop" "collections.deque.pop" :=.of (owner:="collections.deque") (n:="pop") (by rw[typeLookup_type,q2b];kernel_rfl) (by decide +kernel) (by decide +kernel) (by decide +kernel) (by first | exact .inl (by decide +kernel) | exact .inr (by decide +kernel)) (by rw[isSubtype_type];kernel_rfl)
theorem rL:entryFor table "collections.deque.append" = some Builtin.«collections.deque.append» :=entryFor_of_tree (by kernel_rfl)
theorem AF:entryFor table "collections.deque.pop" = some Builtin.«collections.deque.pop» :=entryFor_of_tree (by kernel_rfl)
theorem uI(a b:Value):argsOk "collections.deque.append" ⟨[a,b],[]⟩:=by unfold argsOk;kernel_rfl
theorem FX(a:Value):argsOk "collections.deque.pop" ⟨[a],[]⟩:=by unfold argsOk;kernel_rfl
theorem sB:typeOf (.builtin "collections.deque.append")=pure (.type "method_descriptor"):=by show builtinType _=_;rw[builtinType_eq_fast];kernel_rfl
theorem BD:typeOf (.builtin "collections.deque.pop")=pure (.type "method_descriptor"):=by show builtinType _=_;rw[builtinType_eq_fast];kernel_rfl
end Dq
section
variable{prog:Program}{w:World}{A:Around}{s:Shared}
theorem WV(hT:s.TypeIs (.ref l) "list")(nd:∀a,Value.ref l=.ref a->∃o,s.heap.get? a=some o/\o.dict=none)(q:Q (.builtin "list.append",[.ref l]) s):wpAny (model prog w) A (getMethod (.ref l) "append" pl) Q no s:=by with_reducible exact getMethod_builtin hT PySem.F.plainAttrs_list PySem.F.slot_list_append PySem.F.type_list_append nd q
theorem WU(hT:s.TypeIs (.ref l) "list")(nd:∀a,Value.ref l=.ref a->∃o,s.heap.get? a=some o/\o.dict=none)(q:Q (.builtin "list.pop",[.ref l]) s):wpAny (model prog w) A (getMethod (.ref l) "pop" pl) Q no s:=by with_reducible exact getMethod_builtin hT PySem.F.plainAttrs_list PySem.F.slot_list_pop PySem.F.type_list_pop nd q
theorem WT(hT:s.TypeIs (.ref l) "list")(nd:∀a,Value.ref l=.ref a->∃o,s.heap.get? a=some o/\o.dict=none)(q:Q (.builtin "list.reverse",[.ref l]) s):wpAny (model prog w) A (getMethod (.ref l) "reverse" pl) Q no s:=by with_reducible exact getMethod_builtin hT PySem.F.plainAttrs_list PySem.F.slot_list_reverse PySem.F.type_list_reverse nd q
theorem WW(hT:s.TypeIs (.ref l) "dict")(nd:∀a,Value.ref l=.ref a->∃o,s.heap.get? a=some o/\o.dict=none)(q:Q (.builtin "dict.get",[.ref l]) s):wpAny (model prog w) A (getMethod (.ref l) "get" pl) Q no s:=by with_reducible exact getMethod_builtin hT PySem.F.plainAttrs_dict PySem.F.slot_dict_get PySem.F.type_dict_get nd q
theorem WR(hT:s.TypeIs (.ref l) "collections.deque")(nd:∀a,Value.ref l=.ref a->∃o,s.heap.get? a=some o/\o.dict=none)(q:Q (.builtin "collections.deque.append",[.ref l]) s):wpAny (model prog w) A (getMethod (.ref l) "append" pl) Q no s:=by with_reducible exact getMethod_builtin hT Dq.plain Dq.l9 Dq.sB nd q
theorem WQ(hT:s.TypeIs (.ref l) "collections.deque")(nd:∀a,Value.ref l=.ref a->∃o,s.heap.get? a=some o/\o.dict=none)(q:Q (.builtin "collections.deque.pop",[.ref l]) s):wpAny (model prog w) A (getMethod (.ref l) "pop" pl) Q no s:=by with_reducible exact getMethod_builtin hT Dq.plain Dq.sS Dq.BD nd q
theorem dC(h:some a=some b):b=a:=(q0a h).symm
end
section
variable{F:ck}{W W₁:Wd F}{v a b:V}{x y:Value}{ρ:cY}{h h':Heap}
theorem v9{k:Kd}{m:Mt}{o:V}{xo:Value}{id:String}{pl:Sem Bool}{Q:Value×List Value->Shared->Prop}(ro:VR W.ρ W.s.heap o xo)(hk:dy W.σ.H o=some k)(hi:so k m=some id)(q:Q (.builtin id,[xo]) W.s):F.wp (getMethod xo m.name pl) Q W.s:=by
 suffices h:Ok (λk=>so k m=some id->F.wp (getMethod xo m.name pl) Q W.s) (dy W.σ.H o) from h k hk hi
 clear hk hi;refine Ok.ba (λz e=>.some ?_) (Ok.bind λn e k hk=>?_)
 ·intro hi
  revert q;refine ro.fC e λt q=>?_;cases m with
  |startswith=>rw[dC hi] at q;exact GM.startswith q
  |endswith=>rw[dC hi] at q;exact GM.endswith q
  |_=>exact cE hi
 ·intro hi
  revert q;refine ro.ew e λp hp q=>?_;have nd:∀{ob:Obj},W.s.heap.get? p.1=some ob->ob.dict=none->∀a,Value.ref p.1=.ref a->∃o,W.s.heap.get? a=some o/\o.dict=none:=λg e a h=>Value.ref.inj h▸⟨_,g,e⟩;rcases DY hk with⟨rfl,us,h1⟩ | ⟨rfl,us,h1⟩ | ⟨rfl,us,h1⟩
  ·refine(W.fr.hr.obj n _ p h1 hp).dx λitems _ pl h2 h3 _=>?_
   obtain⟨ob,g,gd,_⟩:=pl;cases m with
   |append=>rw[dC hi] at q;exact WV h2.typeIs (nd g gd) q
   |pop=>rw[dC hi] at q;exact WU h2.typeIs (nd g gd) q
   |reverse=>rw[dC hi] at q;exact WT h2.typeIs (nd g gd) q
   |_=>exact cE hi
  ·refine(W.fr.hr.obj n _ p h1 hp).gQ λcM _ h2 h3=>?_
   have Gj:=h2;obtain⟨ob,_,_,g,gx,_⟩:=Gj;cases m with
   |get=>rw[dC hi] at q;exact WW h2.typeIs (nd g gx.2.1) q
   |_=>exact cE hi
  ·refine(W.fr.hr.obj n _ p h1 hp).EJ λj items _ h2 h3 _=>?_
   cases m with
   |append=>rw[dC hi] at q;exact WR ⟨_,h2,rfl⟩ (nd h2 rfl) q
   |pop=>rw[dC hi] at q;exact WQ ⟨_,h2,rfl⟩ (nd h2 rfl) q
   |_=>exact cE hi
end
section
variable{F:ck}{W W₁:Wd F}{v a b:V}{x y:Value}{ρ:cY}{h h':Heap}{prog:Program}{w:World}{A:Around}{s:Shared}
theorem bE.last(r:bE ρ h vs xs)(e:vs.getLast?=some u):∃x,xs.getLast?=some x/\VR ρ h u x:=by rw[List.getLast?_eq_getElem?] at e;rw[List.getLast?_eq_getElem?,<-r.length];exact r.get e
theorem bE.dropLast(r:bE ρ h vs xs):bE ρ h vs.dropLast xs.dropLast:=by rw[List.dropLast_eq_take,List.dropLast_eq_take,<-r.length];exact r.take _
theorem aB.listed(hz:n∉F.c.fn.frz)(hp:W.ρ[n]?=some p)(ed:p=(p.1,p.1))(ho:W.s.heap.get? p.1=some {cls:=.type "list",dict:=none,data:=.seq items j,slots:=#[]})(hv:∀{h'},jm W.s.heap h'->bE W.ρ h' Zh (f items).toList)(r:∀{h'},jm W.s.heap h'->VR W.ρ h' u c):aB VR W (u,⟨W.σ.H.set n (.list Zh),W.σ.loc⟩) c {W.s with heap:=W.s.heap.update p.1 (Obj.mapSeq f)}:=by obtain⟨n',Bm⟩:=Obj.data_mapSeq (o:={cls:=.type "list",dict:=none,data:=.seq items j,slots:=#[]}) rfl f;have hg:=Heap.get?_update_self (Obj.mapSeq f) ho (Obj.isFreed_of_seq Bm);exact aB.putAt W.s.toks hz hp (Heap.SameBut.update ..) (λim=>ed▸.list ⟨_,hg,(dQ _ _).1,(dQ _ _).2⟩ ⟨_,hg,Obj.cls_mapSeq ..,n',Bm⟩ (hv im)) r
theorem aB.EI(hz:n∉F.c.fn.frz)(hp:W.ρ[n]?=some p)(ed:p=(p.1,p.1))(ho:W.s.heap.get? p.1=some (eQ j items))(hf:G (eQ j items)=eQ j' oE)(hv:∀{h'},jm W.s.heap h'->bE W.ρ h' Zh oE.toList)(r:∀{h'},jm W.s.heap h'->VR W.ρ h' u c):aB VR W (u,⟨W.σ.H.set n (.d8 Zh),W.σ.loc⟩) c {W.s with heap:=W.s.heap.update p.1 G}:=aB.putAt W.s.toks hz hp (Heap.SameBut.update ..) (λim=>ed▸.d8 ((Heap.get?_update_self G ho (by rw[hf];rfl)).trans (q1s some hf)) (hv im)) r
theorem yI:((#[.none,rawInt j]:Array Value)++items).extract 2 ((#[.none,rawInt j]:Array Value)++items).size=items:=by apply Array.ext';simp
theorem oT(ho:s.heap.get? d=some (eQ j items))(hf:f items=oE)(hz:oE.size<=ax)(q:(eQ j items).mapFields (λvs=>#[vs.getD 0 .none,rawInt (j+1)]++f (vs.extract 2 vs.size))=eQ (j+1) oE->Q () {s with heap:=s.heap.update d (Obj.mapFields λvs=>#[vs.getD 0 .none,rawInt (j+1)]++f (vs.extract 2 vs.size))}):wpAny (model prog w) A (Builtin.Deque.change (.ref d) f) Q no s:=by
 have JP:(#[((#[.none,rawInt j]:Array Value)++items).getD 0 .none,rawInt (j+1)]:Array Value)++f (((#[.none,rawInt j]:Array Value)++items).extract 2 ((#[.none,rawInt j]:Array Value)++items).size)=#[.none,rawInt (j+1)]++oE:=by rw[yI,hf,show((#[.none,rawInt j]:Array Value)++items).getD 0 .none=.none by simp[Array.getD]]
 unfold Builtin.Deque.change Builtin.Deque.state;refine wb (wb (q1y ho rfl (x:=rawInt j) (by rw[Array.getElem?_append_left (by simp)];rfl) (q1e ?_)));show wpAny _ _ (updateFields d λvs=>#[vs.getD 0 .none,rawInt (j+1)]++f (vs.extract 2 vs.size)) _ _ _;refine wpAny_updateFields ho rfl (q (q1s (λz=>({cls:=.type "collections.deque",data:=.fields z}:Obj)) JP)) ?_;simp only[if_true,JP];rw[Array.size_append];exact q0d (q2j hz 2) (by decide)
theorem AK(ho:s.heap.get? d=some (eQ j items))(q:Q items s):wpAny (model prog w) A (Builtin.Deque.items (.ref d)) Q no s:=by unfold Builtin.Deque.items;refine wb (wpAny_fieldsOf ho rfl (q1e ?_));rw[yI];exact q
theorem tB{items:Array Value}{us:List V}{u:V}{xu:Value}(h3:bE ρ h us items.toList)(ru:VR ρ h u xu){h':Heap}(im:jm h h'):bE ρ h' (us++[u]) (items.push xu).toList:=by rw[Array.toList_push];exact(h3.mono im (.refl _)).append (.cons (ru.mono im (.refl _)) .nil)
theorem I5{items:Array Value}{us:List V}(h3:bE ρ h us items.toList)(my:0<items.size){h':Heap}(im:jm h h'):bE ρ h' us.dropLast (items.eraseIdxIfInBounds (items.size-1)).toList:=by
 have:(items.eraseIdxIfInBounds (items.size-1)).toList=items.toList.dropLast:=by have fR:items.size-1<items.size:=Nat.sub_lt my Nat.one_pos;rw[Array.eraseIdxIfInBounds_eq,dif_pos fR,Array.toList_eraseIdx,<-List.eraseIdx_length_sub_one,Array.length_toList]
 rw[this];exact(h3.mono im (.refl _)).dropLast
theorem DK{n:Nat}{p:Addr×Addr}{m:Mt}{us vs:List V}{xs:List Value}{id:String}(hp:W.ρ[n]?=some p)(h1:cI W.σ.H n=some us)(Au:us.length<=ax)(hz:n∉F.c.fn.frz)(rs:bE W.ρ W.s.heap vs xs)(hi:so .list m=some id):dU W (.builtin id) (.ref p.1::xs) (DL n us m vs W.σ.H):=by
 refine W.dx h1 hp λitems ed pl h2 h3 l=>?_;obtain⟨j,ho⟩:=pl.exact h2;cases m with
 |append=>
  rw[dC hi];refine Ok.bind λu e=>Ok.iff λhl=>rs.Dx e λxu ru=>?_;exact call_meets PySem.F.slot_list_append ⟨_,ho,rfl⟩ PySem.F.entry_list_append (PySem.F.args_list_append_2 _ _) (list_append p.1 items j xu (de (q1b (l▸hl)))) ⟨ho,aB.listed (f:=λxs=>xs.push xu) hz hp ed ho (tB h3 ru) λ_=>.none⟩
 |pop=>
  rw[dC hi];cases vs with
  |cons=>exact .none
  |nil=>
   refine Ok.map λu e=>?_;rw[rs.nil_inv];obtain⟨xu,e3,ru⟩:=h3.last e;have hy:items[items.size-1]?=some xu:=by rw[<-q2i,<-Array.length_toList,<-List.getLast?_eq_getElem?];exact e3
   have my:0<items.size:=q0r (Nat.zero_le _) (Array.getElem?_eq_some_iff.mp hy).1;exact call_meets PySem.F.slot_list_pop ⟨_,ho,rfl⟩ PySem.F.entry_list_pop (PySem.F.args_list_pop_1 _) (MeetsSeq.list_pop_last p.1 items j xu hy (de (l▸Au)))
    ⟨ho,aB.listed (f:=λxs=>xs.eraseIdxIfInBounds (items.size-1)) hz hp ed ho (I5 h3 my) λim=>ru.mono im (.refl _)⟩
 |reverse=>
  rw[dC hi];cases vs with
  |cons=>exact .none
  |nil=>
   refine .some ?_;rw[rs.nil_inv];exact call_meets PySem.F.slot_list_reverse ⟨_,ho,rfl⟩ PySem.F.entry_list_reverse (PySem.F.args_list_reverse_1 _) (AutoSeq1.list_reverse_list_0 p.1 items j (de (l▸Au))) ⟨ho,aB.listed (f:=λx=>x.reverse) hz hp ed ho (λim=>by rw[Array.toList_reverse];exact(h3.mono im (.refl _)).reverse) λ_=>.none⟩
 |_=>exact .none
theorem DM{n:Nat}{p:Addr×Addr}{m:Mt}{us vs:List V}{xs:List Value}{id:String}(hp:W.ρ[n]?=some p)(h1:iW W.σ.H n=some us)(hz:n∉F.c.fn.frz)(rs:bE W.ρ W.s.heap vs xs)(hi:so .d8 m=some id):dU W (.builtin id) (.ref p.1::xs) (Jt n us m vs W.σ.H):=by
 refine W.EJ h1 hp λj items ed h2 h3 l=>?_;cases m with
 |append=>
  rw[dC hi];refine Ok.bind λu e=>Ok.iff λhl=>rs.Dx e λxu ru=>?_;refine q1z Dq.l9 ⟨_,h2,rfl⟩ Dq.rL ?_ (Dq.uI _ _);unfold Builtin.«collections.deque.append» Builtin.Deque.pushRight;refine wb (m:=selfAndOne _ _) (q1e ?_);dsimp only;refine wb (wb (oT h2 rfl (by rw[Array.size_push];exact Nat.succ_le_of_lt (l▸hl)) λhF=>?_));have h4:=(Heap.get?_update_self _ h2 (by rw[hF];rfl)).trans (q1s some hF);unfold Builtin.Deque.maxlen;refine wb (wb (q1y h4 rfl (x:=.none) (by rw[Array.getElem?_append_left (by simp)];rfl) (q1e ?_)));exact q1e (q1e ⟨_,rfl,aB.EI hz hp ed h2 hF (tB h3 ru) λ_=>.none⟩)
 |pop=>
  rw[dC hi];refine Ok.ifs λhc=>Ok.map λu e=>?_;rw[List.isEmpty_iff.mp hc.1] at rs;rw[rs.nil_inv];obtain⟨xu,e3,ru⟩:=h3.last e;refine q1z Dq.sS ⟨_,h2,rfl⟩ Dq.AF ?_ (Dq.FX _);unfold Builtin.«collections.deque.pop»;refine wb (m:=selfOnly _ _) (q1e ?_);refine q1f (AK h2 ?_);rw[show items.back?=some xu by rw[<-Array.getLast?_toList];exact e3];refine wb (oT h2 rfl (by rw[Array.size_pop];exact q0d (Nat.sub_le _ _) (l▸hc.2)) λhF=>?_);exact q1e ⟨_,rfl,aB.EI hz hp ed h2 hF (λim=>by rw[Array.toList_pop];exact(h3.mono im (.refl _)).dropLast) λim=>ru.mono im (.refl _)⟩
 |_=>exact .none
theorem DN{n:Nat}{p:Addr×Addr}{m:Mt}{es:List (Str×V)}{vs:List V}{xs:List Value}{id:String}(hp:W.ρ[n]?=some p)(h1:dm W.σ.H n=some es)(rs:bE W.ρ W.s.heap vs xs)(hi:so .dict m=some id):dU W (.builtin id) (.ref p.1::xs) (V9 es m vs W.σ.H):=by
 cases m with
 |get=>
  rw[dC hi];refine Ok.bind λq e1=>Ok.map λkey e2=>rs.NW e1 λxk xd rk rd=>rk.fC e2 λt=>W.gQ h1 hp λcM _ h2 h3=>?_;have hm:=h2.mapOf;refine call_meetsIn PySem.F.slot_dict_get hm.typeIs PySem.F.entry_dict_get (PySem.F.args_dict_get_3 _ _ _) (meets_dict_get_default (strKind F.K.prog F.K.w) p.1 (strKind_is F.K.prog F.K.w key t) (W.eL hp) xd) ⟨_,hm,?_⟩;rcases h3.lookup key with⟨q1,q2⟩ | ⟨v2,y2,q1,q2,r⟩
  ·rw[q1,q2];exact aB.toks _ rd
  ·rw[q1,q2];exact aB.toks _ r
 |_=>exact .none
theorem DJ{z:Str}{t:Tok}{m:Mt}{vs:List V}{xs:List Value}{id:String}(rs:bE W.ρ W.s.heap vs xs)(hi:so .str m=some id):dU W (.builtin id) (.str z t::xs) (V8 z m vs W.σ.H):=by
 refine Ok.bind λu e1=>Ok.bind λy e2=>rs.Dx e1 λxu ru=>ru.fC e2 λt'=>?_;cases m with
 |startswith=>rw[dC hi];exact .some (SC.startswith (aB.same (.bool _)))
 |endswith=>rw[dC hi];exact .some (SC.endswith (aB.same (.bool _)))
 |_=>exact .none
theorem ya{k:Kd}{m:Mt}{o:V}{vs:List V}{xo:Value}{xs:List Value}{id:String}(ro:VR W.ρ W.s.heap o xo)(rs:bE W.ρ W.s.heap vs xs)(hi:so k m=some id):dg VR W (call (.builtin id) (xo::xs)) (au (nh F.c.fn.frz k m o vs)):=by
 refine dg.on ?_;cases k with
 |str=>exact Ok.bind λz e1=>VR.fC (P:=λxo=>dU W (.builtin id) (xo::xs) _) ro e1 λt=>DJ rs hi
 |list=>exact Ok.bind λn e1=>Ok.bind λus e2=>Ok.Yw λhz=>VR.ew (P:=λxo=>dU W (.builtin id) (xo::xs) _) ro e1 λp hp=>DK hp (gM e2).1 (gM e2).2 hz rs hi
 |dict=>exact Ok.bind λn e1=>Ok.bind λus e2=>VR.ew (P:=λxo=>dU W (.builtin id) (xo::xs) _) ro e1 λp hp=>DN hp e2 rs hi
 |d8=>exact Ok.bind λn e1=>Ok.bind λus e2=>Ok.Yw λhz=>VR.ew (P:=λxo=>dU W (.builtin id) (xo::xs) _) ro e1 λp hp=>DM hp e2 hz rs hi
end
noncomputable def fV(r:aQ)(mb:M Fl)(vs:List V):HM V:=λH=>if vs.length=r.params.length then match mb ⟨H,lF r (r.params.zip vs)⟩ with
 |some (fl,σ')=>some (dX fl,σ'.H)
 |none=>none
 else none
section
variable{F:ck}{K:Frag}{W W₁:Wd F}{v a b:V}{x y:Value}{ρ:cY}{h h':Heap}{r:aQ}{k:Nat}{mb:M Fl}
def i4(B h:Heap):Prop:=∀a o,B.get? a=some o->h.get? a=some o
def uP(K:Kx)(f:Value):Prop:=∀h,i4 K.B h->∃k,(k=Keeper.frame\/k=Keeper.machine\/k=Keeper.boundFrame)/\Looks (model K.prog K.w) h (keeperOf f) k
theorem eA{K:Kx}(i:String):uP K (.builtin i):=λ_ _=>⟨.machine,.inr (.inl rfl),.now⟩
theorem qp{K:Kx}(i:String):uP K (.type i):=λ_ _=>⟨.machine,.inr (.inl rfl),.now⟩
theorem JA{K:Kx}(f:Bf):uP K f.val:=by
 cases f with
 |len=>exact eA _
 |isinstance=>exact eA _
 |sum=>exact eA _
 |_=>exact qp _
theorem yg{K:Kx}{f:Addr}{fd:FuncData}(hf:∃o,K.B.get? f=some o/\o.data=.func fd):uP K (.ref f):=λh st=>by
 obtain⟨o,ho,hd⟩:=hf;have Wx:K.B.get? f=some {cls:=o.cls,dict:=o.dict,data:=.func fd,slots:=o.slots}:=ho.trans (q1s some (vY rfl rfl hd rfl));exact⟨.frame,.inl rfl,(Looks.ld (part:=none) (st _ _ Wx)).andThen .now⟩
theorem zc(S:dz F es ms):(backTo pos (starEach es F.env)).any (·.1)=false/\(backTo pos (starEach es F.env)).all (!·.1)=true:=by
 induction S with
 |nil=>exact⟨rfl,rfl⟩
 |cons h _ _ ih=>rw[eU h];exact ih
theorem fK{γ:Type}{g:List V->M γ}{c:γ×St}{pos:Pos}{f:Value}{first:List Value}{es:List Expr}{ms:List (M V)}{Q:Value->Shared->Prop}(S:dz F es ms)(hk:uP F.K f)(hm:Y (an ms) g W.σ=some c)(k:∀vs xs (W₁:Wd F),bE W₁.ρ W₁.s.heap vs xs->W.Le W₁->g vs W₁.σ=some c->F.wp (call f (first++xs)) Q W₁.s):F.wp (callWith pos f first (backTo pos (starEach es F.env)) []) Q W.s:=by
 refine PySem.W.callWith_of (P:=i4 F.K.B) (by rw[(zc S).1];rfl) hk ?_;have main:F.wp (spliced (backTo pos (starEach es F.env))) (λxs s₁=>i4 F.K.B s₁.heap/\F.wp (call f (first++xs)) Q s₁) W.s:=
  (oR S W).use hm λvs xs W₁ r₁ q₁ hm=>⟨W₁.fr.hr.stays,k vs xs W₁ r₁ q₁ hm⟩
 cases S with
 |nil=>exact PyProof.Rows.evalArgs_nil3 ⟨W.fr.hr.stays,k [] [] W .nil .refl hm⟩
 |cons h S1 S2=>
  rw[eU h] at main ⊢;exact Calls.evalArgs_plain main
def sj(x':Str)(p:Pos)(es:List Expr)(pos:Pos):Prop:=∀env:Env,eval (.Call (.Name x' p) es [] pos) env=(do callWith pos (<-eval (.Name x' p) env) [] (backTo pos (starEach es env)) (backToKw pos (keywordEach [] env)))
theorem gR{γ:Type}{g:List V->M γ}{c:γ×St}{x':Str}{p pos:Pos}{u:Value}{es:List Expr}{ms:List (M V)}{Q:Value->Shared->Prop}(hx:F.c.sc.names.lookup x'=some .globalImplicit)(G:Gl F.K.B x' u)(ht:jJ u=true)(hd:(x'==("__debug__" : Str))=false)(hk:uP F.K u)(S:dz F es ms)(he:sj x' p es pos)(hm:Y (an ms) g W.σ=some c)(k:∀vs xs (W₁:Wd F),bE W₁.ρ W₁.s.heap vs xs->W.Le W₁->g vs W₁.σ=some c->F.wp (call u xs) Q W₁.s):F.wp (eval (.Call (.Name x' p) es [] pos) F.env) Q W.s:=Call_ (nC hx G ht hd λW₁ q e=>fK (first:=[]) S hk (e.symm▸hm) λvs xs W₂ r q₂ hm=>k vs xs W₂ r (q.trans q₂) hm) (he F.env)
theorem Cj(hx:F.c.sc.names.lookup x'=some .globalImplicit)(g:Gl F.K.B x' f.val)(hd:(x'==("__debug__" : Str))=false)(S:dz F es ms)(he:sj x' p es pos):aM F (.Call (.Name x' p) es [] pos) (Y (an ms) λvs=>au (blt f vs)):=λW _ hm=>
 gR hx g (by cases f<;>rfl) hd (JA f) S he hm λ_ _ _ r q hm=>(KD f r).last hm q
theorem gF.zip(r:bE ρ h vs xs):∀{ps:List Str},gF ρ h (ps.zip vs) (ps.zip xs):=by
 induction r with
 |nil=>intro ps;rw[List.zip_nil_right,List.zip_nil_right];exact .nil
 |cons a _ ih=>intro ps;cases ps with
  |nil=>exact .nil
  |cons p ps=>exact .cons a ih
theorem sv{vs:List V}:∀{ps:List Str},vs.length=ps.length->(ps.zip vs).map (·.1)=ps:=by
 induction vs with
 |nil=>intro ps h;cases ps with
  |nil=>rfl
  |cons=>exact nomatch h
 |cons v vs ih=>intro ps h;cases ps with
  |nil=>rfl
  |cons p ps=>exact q1s (p :: ·) (ih (Nat.succ.inj h))
theorem jP{f:Addr}{vs:List V}{xs:List Value}{A':Around}(hz:F.c.fn.frz=[])(ok:dc F.K.B f r)(fH:F.K.B.NoLimit)(hA:ft (k+1) A')(S:∀F':ck,F'.K=F.K->F'.c=bI r k->eF F' r.body mb)(rs:bE W.ρ W.s.heap vs xs):Ok (λc=>codeAny (model F.K.prog F.K.w) A' (.call (.ref f) ⟨xs,[]⟩) (cD (aB VR W (c.1,⟨c.2,W.σ.loc⟩))) W.s) (fV r mb vs W.σ.H):=by
 refine Ok.ifs λhl=>?_;cases e:mb ⟨W.σ.H,lF r (r.params.zip vs)⟩ with
 |none=>exact .none
 |some c=>
  refine .some (oZ W.fr.hr.stays hz ok.toFnOk0 fH hA (λQ E q=>ok.bind W.s W.fr.hr.stays xs (rs.length.symm.trans hl) _ _ E Q q) (gF.zip rs) ?_ (λx hx=>ok.par x ?_) S e)
  ·rw[sv hl];exact ok.pnd
  ·rw[sv hl] at hx;exact hx
theorem cD.res{P:Value->Shared->Prop}{M:Model}{A:Around}{f:Addr}{xs:List Value}{s:Shared}(h:codeAny M A (.call (.ref f) ⟨xs,[]⟩) (cD P) s):wpAny M A (call (.ref f) xs) P no s:=wpAny_call (cD.use h λ_ _ h=>h)
theorem qB(hz:F.c.fn.frz=[])(ok:dc F.K.B f r)(fH:F.K.B.NoLimit)(hk:F.c.k=k+1)(S:∀F':ck,F'.K=F.K->F'.c=bI r k->eF F' r.body mb)(rs:bE W.ρ W.s.heap vs xs)(hm:au (fV r mb vs) W.σ=some c)(q:W₀.Le W):F.wp (call (.ref f) xs) (aB VR W₀ c) W.s:=iz q (dg.run (λc e=>cD.res (jP hz ok fH (hk▸F.room) S rs c e)) hm)
theorem Ci(hx:F.c.sc.names.lookup x'=some .globalImplicit)(g:Gl F.K.B x' (.ref f))(hf:f<k8)(hd:(x'==("__debug__" : Str))=false)(hz:F.c.fn.frz=[])(hk:F.c.k=k+1)(ok:dc F.K.B f r)(fH:F.K.B.NoLimit)(S:dz F es ms)(FB:∀F':ck,F'.K=F.K->F'.c=bI r k->eF F' r.body mb)(he:sj x' p es pos):aM F (.Call (.Name x' p) es [] pos) (Y (an ms) λvs=>au (fV r mb vs)):=λW _ hm=>
 gR hx g (q1w hf) hd (yg ok.at_) S he hm λ_ _ _ r q hm=>qB hz ok fH hk FB r hm q
end
section
variable{F:ck}{K:Frag}{W W₁:Wd F}{v a b:V}{x y:Value}{ρ:cY}{h h':Heap}{r:aQ}{k:Nat}{mb:M Fl}
noncomputable def f8(e:Expr):Bool:=Nat.beq e.ctorIdx 23||(Nat.beq e.ctorIdx 20||Nat.beq e.ctorIdx 21)
theorem yX(h:f8 o=true)(name:Str)(env:Env)(iA:Sem Value):attributeBase o name env iA=iA:=by
 cases o with
 |Name=>rfl
 |Attribute=>rfl
 |Subscript=>rfl
 |_=>exact q1t h q0f
theorem call_meth(S:dz F es ms)(hb:f8 o=true)(hl:(r9.endLine==pos.line)=true)(hn:es.length<30)(h:F.wp (eval o F.env) (λov s₁=>F.wp (getMethod ov name (do return (<-importBound o F.env).getD true)) (λp s₂=>F.wp (callWith pos p.1 p.2 (backTo pos (starEach es F.env)) []) Q s₂) s₁) W.s):F.wp (eval (.Call (.Attribute o name r9) es [] pos) F.env) Q W.s:=by
 have WD:methodCallForm (es.length+([]:List Keyword).length) (backTo pos (starEach es F.env)) (backToKw pos (keywordEach [] F.env))=true:=by unfold methodCallForm;rw[(zc S).2];exact q1w hn
 have Z2:methodCallPos true o F.env r9 pos=pure pos:=by unfold methodCallPos;rw[hl];rfl
 show wpAny _ _ _ _ _ _;rw[arm_eval_Call,yX hb];refine wb (q1h h (λov s₁ h₁=>wb (wpAny_standAt ?_)) λ_ _ e=>e);unfold methodCall;rw[WD];refine wb (q1u ?_);show wpAny _ _ (getMethod ov name _) _ _ _;exact q1h h₁ (λp s₂ h₂=>wb (q1g Z2 h₂)) λ_ _ e=>e
def tW(o:V):M Kd:=nZ λH=>dy H o
def d0(z:List Nat)(m:Mt)(mo:M V)(ms:List (M V)):M V:=Y mo λo=>Y (tW o) λk=>Y (an ms) λvs=>if (so k m).isSome then au (nh z k m o vs) else λ_=>none
theorem G1(L:aM F o mo)(S:dz F es ms)(hb:f8 o=true)(hl:(r9.endLine==pos.line)=true)(hn:es.length<30):aM F (.Call (.Attribute o m.name r9) es [] pos) (d0 F.c.fn.frz m mo ms):=λW c hm=>
 call_meth S hb hl hn ((L W).use hm λo xo W₁ r₁ q₁ hm=>fE hm λk e hm=>by
  cases hi:so k m with
  |none=>
   rw[hi] at hm;exact dH hm λ_ _ h=>cE h
  |some id=>
   rw[hi] at hm;exact v9 r₁ e hi (fK (first:=[xo]) S (eA id) hm λvs xs W₂ r₂ q₂ hm=>(ya (q₂.vr r₁) r₂ hi).last hm (q₁.trans q₂)))
structure wW(K:Frag)(C:Addr)(name:Str)(f:Addr):Prop where
 get:plainGet K C name=true
 find:findIn K (.ref C) name=some (some (.ref f))
 fn:isFn K (.ref f)=true
def eB(C:Addr)(o:V)(H:List O):Bool:=ba (vR o) (λn=>ba (dI H n) (λc=>c.1==C) false) false
def dj(C:Addr)(o:V):M Unit:=nZ λH=>if eB C o H then some () else none
theorem oQ{α:Type}{o:Option α}{f:α->Bool}(h:ba o f false=true):∃a,o=some a/\f a=true:=by
 cases o with
 |none=>exact q1t h q0f
 |some a=>exact⟨a,rfl,h⟩
theorem qr{γ:Type}{g:Unit->M γ}{c:γ×St}{C:Addr}{o:V}{xo:Value}(ro:VR W.ρ W.s.heap o xo)(hm:Y (dj C o) g W.σ=some c){P:Value->Prop}(k:∀(p:Addr×Addr) fs es n,W.s.heap.get? p.1=some (instObj C p.2)->W.s.heap.get? p.2=some (dictOf es n)->kR W.ρ W.s.heap fs es->VR W.ρ W.s.heap o (.ref p.1)->g () W.σ=some c->P (.ref p.1)):P xo:=fE hm λu e hm=>by
 obtain⟨n,h1,e⟩:=oQ (ifk (P:=λ_=>eB C o W.σ.H=true) e λh=>h);obtain⟨d,h2,e⟩:=oQ e;have hC:d.1=C:=eq_of_beq e;have Zu:=ro;revert Zu;refine ro.ew h1 λp hp Zu=>W.qs h2 hp λes m _ g1 g2 g3=>k p d.2 es m (hC▸g1) g2 g3 Zu hm
theorem Ce{o:Expr}{mo:M V}{C f:Addr}{name:Str}{r9 pos:Pos}{es:List Expr}{ms:List (M V)}(X:K.In F.K.B)(mk:wW K C name f)(hna:name∉aI)(hz:F.c.fn.frz=[])(hk:F.c.k=k+1)(ok:dc F.K.B f r)(fH:F.K.B.NoLimit)(L:aM F o mo)(S:dz F es ms)(FB:∀F':ck,F'.K=F.K->F'.c=bI r k->eF F' r.body mb)(hb:f8 o=true)(hl:(r9.endLine==pos.line)=true)(hn:es.length<30):aM F (.Call (.Attribute o name r9) es [] pos) (Y mo λo=>Y (dj C o) λ_=>Y (an ms) λvs=>au (fV r mb (o::vs))):=λW c hm=>
 call_meth S hb hl hn ((L W).use hm λo xo W₁ r₁ q₁ hm=>qr (P:=λxo=>F.wp (getMethod xo name _) _ W₁.s) r₁ hm λp fs uY n h2 h3 h4 r₁ hm=>by
  obtain⟨m,M⟩:=W₁.fr.WY;exact PySem.W.method_inst M X (ox:=instObj C p.2) (es:=uY) (n:=n) ⟨h2,rfl,rfl,h3⟩ mk.get mk.find mk.fn (h4.out name hna) (fK (first:=[.ref p.1]) S (yg ok.at_) hm λvs xs W₂ r₂ q₂ hm=>qB hz ok fH hk FB (.cons (q₂.vr r₁) r₂) hm (q₁.trans q₂)))
structure F6(K:Frag)(C:Addr)(name:Str)(f:Addr):Prop where
 get:plainGet K C name=true
 has:hasDictIn K C=true
 find:∃p,findIn K (.ref C) name=some (some (.ref p))/\specialIn K (.ref p) "__get__" = some (some (.builtin "property.__get__"))/\takesIn K (.ref p)=some true/\∃rest,recIn K p "property" = some (.ref f::rest)
theorem GV{o:Expr}{mo:M V}{C f:Addr}{name:Str}{pos:Pos}(X:K.In F.K.B)(pk:F6 K C name f)(hz:F.c.fn.frz=[])(hk:F.c.k=k+2)(ok:dc F.K.B f r)(fH:F.K.B.NoLimit)(L:aM F o mo)(FB:∀F':ck,F'.K=F.K->F'.c=bI r k->eF F' r.body mb)(he:∀env:Env,eval (.Attribute o name pos) env=(do
 let ov <-eval o env
 standAt pos.atName
 let r <-holding [ov] (getAttr ov name true)
 letTemporaryGo o ov r
 pure r)):
 aM F (.Attribute o name pos) (Y mo λo=>Y (dj C o) λ_=>Y (au (fV r mb [o])) λv=>if bN v then Z v else λ_=>none):=λW c hm=>
 Attribute_any_ ((L W).use hm λo xo W₁ r₁ q₁ hm=>qr (P:=λxo=>F.wp (getAttr xo name true) _ W₁.s) r₁ hm λp fs es n h2 h3 h4 r₁ hm=>by
  obtain⟨m,M⟩:=W₁.fr.WY;obtain⟨q,f1,f2,f3,rest,f4⟩:=pk.find;refine PySem.W.get_prop M X (ox:=instObj C p.2) (od:=dictOf es n) ⟨h2,rfl,rfl,h3⟩ pk.get pk.has f1 f2 f3 f4 ?_;refine dH hm λd e hm=>?_;unfold au at e;split at e
  ·rename_i v H' e2
   obtain rfl:=q0a e;refine cD.use (jP (W:=W₁.toks (W₁.s.toks+1)) hz ok fH (hk▸F.room).in1 FB (.cons r₁ .nil) (v,H') e2) λy s' p=>?_;dsimp only at hm;by_cases ht:bN v=true
   ·rw[q1k ht] at hm
    induction p with
    |mk ρ' fr bare vr le=>
     show wpAny _ _ (handedOut y) _ _ _;rw[PySem.W.handedOut_of (qu vr ht)];exact q1e (q0a hm▸⟨ρ',fr,bare,vr,eT.trans (q₁.trans (W₁.gv (W₁.s.toks+1))) le⟩)
   ·rw[q1l ht] at hm;exact cE hm
  ·exact cE e) (he F.env)
def oD(o:V):M It:=nZ λH=>(vR o).bind λn=>(dm H n).map λes=>.items n es
theorem Cf(L:aM F o mo)(hb:f8 o=true)(hl:(r9.endLine==pos.line)=true):wV F (.Call (.Attribute o "items" r9) [] [] pos) (Y mo oD):=λW c hm=>
 call_meth (S:=(dz.nil:dz F [] [])) hb hl (by decide) ((L W).use hm λo xo W₁ r₁ q₁ hm=>m9 hm λit e er=>by
  subst er;obtain⟨n,e1,e⟩:=q1a.mp e;obtain⟨es,e2,rfl⟩:=q0z.mp e;clear e hm;refine r₁.ew e1 λp hp=>W₁.gQ e2 hp λcM _ h2 h3=>?_;have Gj:=h2;obtain⟨ob,_,_,g,gx,_⟩:=Gj;have nd:∀a,Value.ref p.1=.ref a->∃o,W₁.s.heap.get? a=some o/\o.dict=none:=λa h=>Value.ref.inj h▸⟨ob,g,gx.2.1⟩;have fin:F.wp (callWith pos (.builtin "dict.items") [.ref p.1] (backTo pos (starEach [] F.env)) []) (λx s₁=>F.wp (pyIter x) (λj s₂=>∃J W',j=.ref J/\Drawn W (.items n es,W₁.σ) s₂ W' J) s₁) W₁.s:=by refine fK (g:=Z) (first:=[.ref p.1]) (dz.nil:dz F [] []) (eA _) rfl λvs xs W₂ r₂ q₂ hm=>?_;obtain⟨rfl,e⟩:=q0v (q0a hm);rw[r₂.nil_inv];refine W₂.gQ (show dm W₂.σ.H n=some es from e▸e2) (q₂.pre _ _ hp) λcM _ h2 h3=>?_;obtain⟨ep,h4⟩:=h2.dictAt;refine call_meetsIn PySem.F.slot_dict_items h2.typeIs PySem.F.entry_dict_items (PySem.F.args_dict_items_1 _) (meets_dict_items (strKind F.K.prog F.K.w) p.1 (W₂.eL (q₂.pre _ _ hp))) ⟨⟨cM,h2⟩,?_⟩;refine wpAny_pyIter_items (s:=(W₂.push {cls:=.type "dict_items",data:=.fields #[.ref p.1]}).s) ⟨_,q0n _ rfl,rfl,rfl⟩ (h4.push _) ?_;exact e▸Wd.drawn (W₂.push {cls:=.type "dict_items",data:=.fields #[.ref p.1]}) ((q₁.trans q₂).trans (W₂.rr _)) (ky (by decide) (by decide)) (.items (ok:=.none) (ov:=.none) (q₂.pre _ _ hp) ((h4.push _).push _) ((h3.mono (.push _ _) (.refl _)).mono (.push _ _) (.refl _)) (q0n _ rfl))
  show wpAny _ _ (getMethod (.ref p.1) "items" _) _ _ _
  with_reducible exact getMethod_builtin h2.typeIs PySem.F.plainAttrs_dict PySem.F.slot_dict_items PySem.F.type_dict_items nd fin)
end
noncomputable def eK(scope QA:Scope):Scope:={scope with names:=scope.names.map λ(n,k)=>if (k==.free&&QA.kind==.function&&QA.names.lookup n==some .cell) then(n,.cell) else(n,k)}
noncomputable def mV(cells:List (Str×Addr)):List (Str×NameKind)->List (Str×Addr)->List (Str×Addr)
 |[],acc=>acc
 |p::r,acc=>mV cells r (if p.2==.free then ba (cells.lookup p.1) (λc=>(p.1,c)::acc) acc else acc)
theorem rT:∀{acc:List (Str×Addr)},(∀p∈names,p.2=.free->∃c,env.cells.lookup p.1=some c)->(forIn names acc λ(x:Str×NameKind) (cs:List (Str×Addr))=>match x with
 |(name,kind)=>if (kind==NameKind.free)=true then(do let a <-cellOf env name;pure (ForInStep.yield ((name,a)::cs))) else(pure (ForInStep.yield cs):Sem _))=pure (mV env.cells names acc):=by
 induction names with
 |nil=>exact λ_=>rfl
 |cons p r ih=>
  intro acc h;obtain⟨n,k⟩:=p;rw[List.forIn_cons];unfold mV;have hr :=@ih;by_cases hk:(k==NameKind.free)=true
  ·obtain⟨c,hc⟩:=h (n,k) q0g (eq_of_beq hk)
   dsimp only at hc ⊢;rw[q1k hk,q1k hk];unfold cellOf;rw[hc];exact ih λp hp=>h p (q0k _ hp)
  ·dsimp only
   rw[q1l hk,q1l hk];exact ih λp hp=>h p (q0k _ hp)
theorem wF(h:∀p∈scope.names,p.2=.free->∃c,env.cells.lookup p.1=some c):closureFor scope env=pure (mV env.cells scope.names []):=by unfold closureFor;have:=rT (acc:=[]) h;simp only[bind_pure] at this ⊢;exact this
theorem EW:∀{acc:List (Str×Addr)},(∀p∈acc,cells.lookup p.1=some p.2)->∀p∈mV cells names acc,cells.lookup p.1=some p.2:=by
 induction names with
 |nil=>exact λh=>h
 |cons q r ih=>
  intro acc h;refine ih λp hp=>?_;cases hk:q.2==NameKind.free with
  |false=>rw[hk,q1l q0f] at hp;exact h p hp
  |true=>
   rw[hk,q1k rfl] at hp;cases e:cells.lookup q.1 with
   |none=>rw[e] at hp;exact h p hp
   |some c=>
    rw[e] at hp;exact(q0m.mp hp).elim (λz=>z▸e) (h p)
theorem EY:∀{acc:List (Str×Addr)},p∈acc->p∈mV cells names acc:=by
 induction names with
 |nil=>exact λh=>h
 |cons q r ih=>
  intro acc h;refine ih ?_;split
  ·cases cells.lookup q.1 with
   |none=>exact h
   |some c=>exact q0k _ h
  ·exact h
theorem EX(hc:cells.lookup x=some c):∀{acc:List (Str×Addr)},(x,.free)∈names->(x,c)∈mV cells names acc:=by
 induction names with
 |nil=>exact λh=>(nomatch h)
 |cons q r ih=>
  intro acc h;refine(q0m.mp h).elim (λz=>?_) ih;subst z;unfold mV;rw[q1k (show((x,NameKind.free).2==NameKind.free)=true from rfl),hc];exact EY q0g
theorem jG{l:List (Str×Addr)}{x:Str}{c:Addr}(h:(x,c)∈l):∃c',l.lookup x=some c':=by
 induction l with
 |nil=>exact nomatch h
 |cons p r ih=>
  obtain⟨y,d⟩:=p;rw[List.lookup_cons];cases hb:x==y with
  |true=>exact⟨d,rfl⟩
  |false=>exact(q0m.mp h).elim (λz=>q1t (q0v z).1 (q2d.mp hb)) ih
theorem dR(h:(mV cells names []).lookup x=some c):cells.lookup x=some c:=EW (λ_ h=>q1t h q2c) (x,c) (mem_of_lookup h)
theorem AR{cells:List (Str×Addr)}{names:List (Str×NameKind)}{x:Str}{c:Addr}(h:(x,.free)∈names)(hc:cells.lookup x=some c):(mV cells names []).lookup x=some c:=by obtain⟨c',h'⟩:=jG (EX hc (acc:=[]) h);exact h'.trans ((dR h').symm.trans hc)
noncomputable def placeOf(names:List (Str×NameKind))(x:Str):Option Nat:=names.findIdx? (·.1==x)
theorem gZ(h:placeOf names x=some i):∃k,names[i]?=some (x,k):=by obtain⟨hl,h1,_⟩:=List.findIdx?_eq_some_iff_getElem.mp h;exact⟨(names[i]).2,by rw[q0h hl,<-eq_of_beq h1]⟩
noncomputable def jf(scope QA:Scope)(loc:List (Option V)):List (Option V):=scope.names.map λp=>if p.2==.free then(placeOf QA.names p.1).bind λi=>(loc[i]?).join else none
noncomputable def AL(c:Cx)(scope:Scope)(z:List Nat):Cx:=⟨⟨false,z⟩,c.k,eK scope c.sc,c.cd⟩
structure uN(c:Cx)(scope:Scope):Prop where
 kind:scope.kind=.function
 okind:c.sc.kind=.function
 nd:(scope.names.map (·.1)).Nodup
 noCell:∀p∈scope.names,p.2≠.cell
 free:∀p∈scope.names,p.2=.free->c.sc.names.lookup p.1=some .cell
theorem oz{names:List (Str×NameKind)}{x:Str}{k:NameKind}(h:names.lookup x=some k):∃i:Nat,names[i]?=some (x,k):=by
 induction names with
 |nil=>exact cE h
 |cons p r ih=>
  obtain⟨y,k'⟩:=p;rw[List.lookup_cons] at h;cases hb:x==y with
  |true=>rw[hb] at h;exact⟨0,by rw[eq_of_beq hb,<-q0a h];rfl⟩
  |false=>rw[hb] at h;exact(ih h).elim λi hi=>⟨i+1,hi⟩
theorem tg:(eK scope QA).names.map (·.1)=scope.names.map (·.1):=by
 unfold eK;rw[List.map_map];apply List.map_congr_left
 rintro⟨n,k⟩ _
 dsimp only[Function.comp];split<;>rfl
theorem qd{c:Cx}{scope:Scope}(ok:uN c scope){i:Nat}{x:Str}{k:NameKind}(e:(eK scope c.sc).names[i]?=some (x,k)):(scope.names[i]?=some (x,.free)/\k=.cell)\/(scope.names[i]?=some (x,k)/\k≠.free):=by
 unfold eK at e;rw[q0y] at e;obtain⟨⟨n,k'⟩,e1,e2⟩:=q0z.mp e;by_cases hf:k'=.free
 ·subst hf
  have:=ok.free (n,.free) (q2k e1) rfl;dsimp only at e2 this;rw[q1k (by rw[ok.okind,this];rfl)] at e2;obtain⟨rfl,rfl⟩:=q0v e2;exact .inl ⟨e1,rfl⟩
 ·dsimp only at e2
  rw[q1l (by simp[hf])] at e2;obtain⟨rfl,rfl⟩:=q0v e2;exact .inr ⟨e1,hf⟩
section
variable{F:ck}{W:Wd F}{scope:Scope}{C:Addr}{z:List Nat}{s₁:Shared}
theorem Wd.frees(W:Wd F)(ok:uN F.c scope):∀p∈scope.names,p.2=.free->∃cc,F.env.cells.lookup p.1=some cc:=λp hp hf=>by
 obtain⟨i,hi⟩:=oz (ok.free p hp hf);rw[<-F.sc] at hi;exact(W.fr.cel i p.1 _ hi (.inl rfl)).imp λ_ h=>h.1
noncomputable abbrev compEnv(F:ck)(scope:Scope)(C:Addr):Env:=compEnvC scope (mV F.env.cells scope.names []) C F.env
noncomputable def Xq(F:ck)(scope:Scope)(C:Addr)(z:List Nat)(ok:uN F.c scope):ck:=have pI:(compEnv F scope C).scope=eK scope F.c.sc:=by rw[<-F.sc];rfl
 {K:=F.K,c:=AL F.c scope z,A:=F.A,env:=compEnv F scope C,room:=F.room,sc:=pI,cd:=F.cd,kind:=by rw[pI];exact ok.kind,glob:=F.glob,blt:=F.blt,nd:=by rw[pI,tg];exact ok.nd,celN:=λx y c e f=>F.celN x y c (dR e) (dR f),tA:=F.tA,tC:=F.tC,bo:=F.bo}
theorem Rs(W:Wd F)(ok:uN F.c scope)(hC:C=W.s.heap.objs.size)(ns:s₁.heap.Ns C (λ_=>none))(keep:Keeps W.s.heap s₁.heap):FR F.K (compEnv F scope C) W.ρ ⟨W.σ.H,jf scope F.c.sc W.σ.loc⟩ s₁.heap:=by
 have mx:W.s.heap.objs.size<=s₁.heap.objs.size:=hC▸q1b ns.lt;have pI:(compEnv F scope C).scope=eK scope F.c.sc:=by rw[<-F.sc];rfl
 have loc:∀{i:Nat}{x:Str}{k:NameKind},scope.names[i]?=some (x,k)->(jf scope F.c.sc W.σ.loc)[i]?=some (if k==.free then(placeOf F.c.sc.names x).bind λi=>(W.σ.loc[i]?).join else none):=λe=>by
  unfold jf;rw[q0y,e];rfl
 refine⟨W.fr.hr.grow keep mx,by rw[pI];unfold eK jf;rw[q0w,q0w],⟨_,⟨ns,W.fr.hr.stays.trans keep,hC▸W.fr.hr.low⟩,λi x v e f=>?_⟩,
  λi x k e f=>?_,λx cc e=>?_,hC▸W.fr.hr.fresh (q0c _),W.fr.tab.at' (keep _) (keep _)⟩
 ·rw[pI] at e
  cases qd ok e with
  |inl g=>exact nomatch g.2
  |inr g=>exact nomatch (q0a ((loc g.1).symm.trans f):(none:Option V)=some v)
 ·rw[pI] at e
  have g:scope.names[i]?=some (x,.free):=(qd ok e).elim (·.1) λg=>q1t g.2 (λq=>f.elim (λf=>ok.noCell _ (q2k g.1) f) q);obtain⟨i',JM⟩:=oz (ok.free (x,.free) (q2k g) rfl);rw[<-F.sc] at JM;obtain⟨cc,h1,vo,h2,h3⟩:=W.fr.cel i' x _ JM (.inl rfl);refine⟨cc,AR (q2k g) h1,vo,h2.keeps keep,λv hv=>?_⟩;obtain⟨j,hj,hv⟩:=q1a.mp (q0a ((loc g).symm.trans hv));obtain⟨k2,Gh⟩:=gZ hj;rw[<-F.sc] at Gh;obtain rfl:j=i':=hM F.nd Gh JM;exact(h3 v (Option.join_eq_some_iff.mp hv)).imp λ_=>And.imp_right (VR.mono (Keeps.uX keep) (.refl _))
 ·have q:=W.fr.celO x cc (dR e)
  exact⟨q.own,λe':cc=C=>q1c _ (hC▸e'▸(W.fr.oX (dR e)).lt),q.low,q.is.imp λ_ h=>h.keeps keep⟩
end
noncomputable def xr:Option (M Bool)->M Bool
 |none=>Z true
 |some m=>m
noncomputable def oV(z:List Nat)(ix:Nat)(t:Option (M Bool))(me:M V)(na:Nat)(it:It):Nat->Nat->M Unit
 |0,_=>λ_=>none
 |n+1,i=>Y (oS it i) λr=>match r with
  |none=>Z ()
  |some v=>Y (aE ix v) λ_=>Y (xr t) λok=>if ok then Y me λu=>Y (au (nh z .list .append (.ref na) [u])) λ_=>oV z ix t me na it n (i+1) else oV z ix t me na it n (i+1)
noncomputable def gh:It->Bool
 |.items .. =>false
 |_=>true
noncomputable def yM(oM:Nat)(z:List Nat)(scope QA:Scope)(mi:M It)(ix:Nat)(t:List Nat->Option (M Bool))(me:List Nat->M V):M V:=Y mi λit=>λσ=>if gh it then
 match oV (it.hold++z) ix (t (it.hold++z)) (me (it.hold++z)) σ.H.length it oM 0 ⟨σ.H++[.list []],jf scope QA σ.loc⟩ with
 |some (_,σ')=>some (.ref σ.H.length,⟨σ'.H,σ.loc⟩)
 |none=>none
 else none
noncomputable def ut(env:Env)(J:Addr):Env:={env with locals:=J}
section
variable{F G:ck}{W:Wd F}{W':Wd G}{ρ ρ' ρ₀ ρ₁:cY}{s s' s₀ s₁:Shared}{fn:Fm}{env env' a0W:Env}{z z':List Nat}{J:Addr}
theorem eT.Y7(q:eT fn env ρ₀ s₀ ρ₁ s₁)(X:eT ⟨false,fn.frz⟩ (ut env' J) ρ₁ s₁ ρ s)(hJ:s₀.heap.objs.size<=J):eT fn env ρ₀ s₀ ρ s:=q.comp X (λ_ h=>h) λa o e _ h=>h.elim (λh:a=J=>Nat.not_lt.mpr hJ (h▸q0s e)) λh=>nomatch h.1
theorem eT.FQ(X:eT ⟨false,z⟩ (ut env J) ρ₁ s₁ ρ s)(hA:J≠bw)(k:fu J s s'):eT ⟨false,z⟩ (ut env J) ρ₁ s₁ ρ s':=X.comp (fn':=⟨false,z⟩) (env':=ut env J) ⟨.refl _,λa o e _ h2 _=>k.keep a o (λe'=>h2 (.inl e')) e,λ_ _=>.inl,gI (k.keep _ · hA.symm),k.os,k.size⟩ (λ_ h=>h) λ_ _ _ h=>h
theorem QS(W:Wd F)(L:dh F.K W.ρ F.env W.s.heap J)(X:eT ⟨false,F.c.fn.frz⟩ (ut env' J) W.ρ W.s ρ s)(R:HR F.K ρ H' s.heap)(T:fj s.heap):FR F.K F.env ρ ⟨H',W.σ.loc⟩ s.heap:=by have k:∀b,b≠J->¬dJ [] W.ρ b->b≠bw->∀ob,W.s.heap.get? b=some ob->s.heap.get? b=some ob:=λb nJ nb nt ob e=>X.chg b ob e (λz=>nb z.full) (λz=>z.elim nJ λz=>nomatch z.1) nt;have im:jm W.s.heap s.heap:=λb ob e ci=>k b (λe'=>L.tJ.not (e'▸e) ci) (λz=>(W.fr.hr.fX z).not e ci) (λe'=>W.fr.tab.tJ.not (e'▸e) ci) ob e;exact W.fr.upd X.pre im R (k _ (Ne.symm L.loc) W.fr.own (W.fr.loc.elim λ_ m=>(F.nT m.1.above).1)) (λx c e=>k c (λe'=>L.cel x (e'▸e)) (W.fr.celO x c e).own (F.nT (W.fr.celO x c e).low).1) (X.new []) T
inductive gE(F:ck):List Expr->Option (M Bool)->Prop
 |none:gE F [] none
 |one {e m}:jr F e m->gE F [e] (some m)
noncomputable abbrev Eb(es:List Expr)(env:Env):Sem Bool:=forIn es true λc r=>if r=true then do let ok <-isTrue c env (eval c env);pure (ForInStep.yield ok) else pure (ForInStep.yield r)
theorem gE.snd(S:gE F es t)(W:Wd F):dg BR W (Eb es F.env) (xr t):=by
 induction S with
 |none=>exact λ_ hm=>q1e (aB.ret (W':=W) hm rfl .refl)
 |one S=>exact λ_ hm=>wpAny_tests_one (S W _ hm)
structure uS(W:Wd G)(env:Env)(z:List Nat)(ρ₁:cY)(sb:Shared)(J acc:Addr)(ix:Nat)(t:Option (M Bool))(me:M V)(na:Nat)(it:It)(σ':St)(k i:Nat):Prop where
 le:eT ⟨false,z⟩ (ut env J) ρ₁ sb W.ρ W.s
 lone:dh G.K W.ρ G.env W.s.heap J
 itr:qJ G.K W.ρ W.s.heap J i it
 acc:VR W.ρ W.s.heap (.ref na) (.ref acc)
 run:oV G.c.fn.frz ix t me na it k i W.σ=some ((),σ')
theorem uS.next{W W₂:Wd G}{sb:Shared}{acc:Addr}{ix:Nat}{t:Option (M Bool)}{me:M V}{na:Nat}{it:It}{σ':St}{k j:Nat}(hf:G.c.fn.fn=false)(hz:∀n∈z,n∈G.c.fn.frz)(Ee:∀n∈it.hold,n∈G.c.fn.frz)(hC:sb.heap.objs.size<=G.env.locals)(L:dh G.K W.ρ G.env W.s.heap J)(X:eT ⟨false,z⟩ (ut env J) ρ₁ sb W.ρ W.s)(r:qJ G.K W.ρ W.s.heap J j it)(ra:VR W.ρ W.s.heap (.ref na) (.ref acc))(q:W.Le W₂)(h:oV G.c.fn.frz ix t me na it k j W₂.σ=some ((),σ')):uS W₂ env z ρ₁ sb J acc ix t me na it σ' k j:=⟨X.comp q hz λa o e _ h=>h.elim (λh=>Nat.not_lt.mpr hC (h▸q0s e)) λh=>(nomatch hf.symm.trans h.1),L.le q,r.X9 L Ee q,q.vr ra,h⟩
theorem rR{sb:Shared}{elt iter:Expr}{xn:Str}{px pos:Pos}{ifs:List Expr}{scope:Scope}{ix na oM:Nat}{t:Option (M Bool)}{me:M V}{it:It}{acc:Addr}{σ':St}(hf:G.c.fn.fn=false)(hz:∀n∈z,n∈G.c.fn.frz)(Ee:∀n∈it.hold,n∈G.c.fn.frz)(hC:sb.heap.objs.size<=G.env.locals)(hp:gh it=true)(hx:G.c.sc.names[ix]?=some (xn,.local))(T:gE G ifs t)(E:aM G elt me)(I:uS W' env z ρ₁ sb J acc ix t me na it σ' oM 0){R:Result->Shared->Prop}(q:∀W₂:Wd G,W₂.σ=σ'->eT ⟨false,z⟩ (ut env J) ρ₁ sb W₂.ρ W₂.s->VR W₂.ρ W₂.s.heap (.ref na) (.ref acc)->R (.ok .next) W₂.s):codeAny (model G.K.prog G.K.w) G.A (.compLoop (.ListComp elt [⟨.Name xn px,iter,ifs,0⟩] scope pos) 0 (.ref J) (.ref acc) G.env) R W'.s:=by
 have Ww:xq (.Name xn px) it=true:=by
  cases it with
  |items=>exact q1t hp q0f
  |_=>rfl
 refine codeAny_compLoop_tests (λk s=>∃(W:Wd G)(i:Nat),W.s=s/\uS W env z ρ₁ sb J acc ix t me na it σ' k i) (λk s=>?_) oM ⟨W',0,rfl,I⟩
 rintro⟨W,i,rfl,I⟩
 cases k with
 |zero=>exact cE I.run
 |succ k=>
  have main:G.wp (pyNext (.ref J)) (G.nq (.Name xn px) J λo s₁=>match o with
   |none=>R (.ok .next) s₁
   |some x=>G.wp (assign (.Name xn px) G.env x) (λ_ s₂=>G.wp (Eb ifs G.env) (λok s₃=>
    if ok=true then G.wp (eval elt G.env) (λx s₄=>G.wp (call (.builtin "list.append") [.ref acc,x]) (λ_ s₅=>∃m,m<k+1/\∃(W:Wd G)(i:Nat),W.s=s₅/\uS W env z ρ₁ sb J acc ix t me na it σ' m i) s₄) s₃
    else ∃m,m<k+1/\∃(W:Wd G)(i:Nat),W.s=s₃/\uS W env z ρ₁ sb J acc ix t me na it σ' m i) s₂) s₁) W.s:=by
   refine fE I.run λd e hm=>tK I.lone I.itr e Ww ⟨λs' hr as=>?_,λs' x v hr as rv ir=>?_⟩
   ·subst hr
    obtain⟨_,rfl⟩:=q0v (q0a hm);exact q (W.dT I.lone as) rfl (I.le.FQ (dh.tab I.lone) as) (I.acc.mono (W.eY I.lone as).2 (.refl _))
   ·subst hr
    have lo:dh G.K (W.dT I.lone as).ρ G.env (W.dT I.lone as).s.heap J:=⟨I.lone.own,I.lone.loc,I.lone.cel,I.lone.low,ir.tJ⟩
    have nx:=λ{W₂:Wd G}=>uS.next (W:=W.dT I.lone as) (W₂:=W₂) (k:=k) (me:=me) (t:=t) (ix:=ix) (σ':=σ') hf hz Ee hC lo (I.le.FQ (dh.tab I.lone) as) ir (I.acc.mono (W.eY I.lone as).2 (.refl _));have ra:=I.acc.mono (W.eY I.lone as).2 (.refl (W.dT I.lone as).ρ);refine wpAny_assign_Name (Wd.qS (W.dT I.lone as) hx (.inl rfl) rv hm λW₂ q₂ hm=>(T.snd W₂).use hm λok b W₃ e q₃ hm=>?_);cases e
    cases ok with
    |false=>exact⟨k,q2n _,W₃,i+1,rfl,nx (q₂.trans q₃) hm⟩
    |true=>exact(E W₃).use hm λu xu W₄ r₄ q₄ hm=>(ya (k:=.list) (m:=.append) (xs:=[xu]) ((q₂.trans (q₃.trans q₄)).vr ra) (.cons r₄ .nil) rfl).use hm λ_ _ W₅ _ q₅ hm=>
     ⟨k,q2n _,W₅,i+1,rfl,nx (q₂.trans (q₃.trans (q₄.trans q₅))) hm⟩
  refine q1h main (λo s₂ h=>?_) λ_ _ h=>h.elim;cases o with
  |none=>exact h
  |some x=>
   have h':=wb (f:=λ_=>assign (.Name xn px) G.env x) h;rw[oC rfl,pure_bind] at h';refine q1h h' (λ_ s₃ h=>q1h h (λok s₄ h=>?_) λ_ _ h=>h.elim) λ_ _ h=>h.elim;cases ok with
   |false=>exact h
   |true=>exact q1h h (λ_ _ h=>q1h h (λ_ _ h=>h) λ_ _ h=>h.elim) λ_ _ h=>h.elim
end
section
variable{F:ck}{W:Wd F}{J C:Addr}{s:Shared}{it:It}
theorem Aq{K:Kx}{ρ:cY}{M:Model}{A:Around}{E:Value->Shared->Prop}{Q:Value->Shared->Prop}{P:Program}{w:World}(r:qJ K ρ s.heap J 0 it)(hp:gh it=true)(q:Q (.ref J) s):wpAny (model P w) A (pyIter (.ref J)) Q E s:=by
 induction r with
 |lst _ r=>exact wpAny_pyIter_listiter r q
 |iH r=>exact wpAny_pyIter_rangeiter r q
 |keys _ _ _ r=>exact wpAny_pyIter_keyiter r q
 |items=>exact q1t hp q0f
theorem qJ.keeps{K:Kx}{ρ ρ':cY}{h h':Heap}{i:Nat}(r:qJ K ρ h J i it)(hp:pN ρ ρ')(k:Keeps h h'):qJ K ρ' h' J i it:=by
 induction r with
 |lst e r=>exact .lst (hp _ _ e) (r.imp λ_=>q2l (k _ _))
 |iH r l1 l2=>exact .iH (k _ _ r) l1 l2
 |keys e d kv r=>exact .keys (hp _ _ e) (d.keep k) (kv.mono k.uX hp) (r.imp λ_=>q2l (k _ _))
 |items e d kv r=>exact .items (hp _ _ e) (d.keep k) (kv.mono k.uX hp) (k _ _ r)
structure Yk(W:Wd F)(v:V)(acc C:Addr)(W':Wd F):Prop where
 le:W.Le W'
 vr:VR W'.ρ W'.s.heap v (.ref acc)
 ns:∃m,W'.s.heap.Ns C m
 lone:dh F.K W'.ρ F.env W'.s.heap C
 late:W.s.heap.objs.size<=C
theorem qy{elt iter:Expr}{xn:Str}{px pos p0:Pos}{ifs:List Expr}{scope:Scope}{ix oM:Nat}{t:List Nat->Option (M Bool)}{me:List Nat->M V}{mi:M It}{use:Option (Value->Sem Unit)}{Q:Value->Shared->Prop}{r:V×St}(ok:uN F.c scope)(hx:(eK scope F.c.sc).names[ix]?=some (xn,.local))(L:wV F iter mi)(T:∀z (G:ck),G.K=F.K->G.c=AL F.c scope z->gE G ifs (t z))(E:∀z (G:ck),G.K=F.K->G.c=AL F.c scope z->aM G elt (me z))(hf:∀x,foldedSetIterable iter F.env x=pure x)(hm:yM oM F.c.fn.frz scope F.c.sc mi ix t me W.σ=some r)(q:∀(W':Wd F)(C acc:Addr),W'.σ=r.2->Yk W r.1 acc C W'->compPost (model F.K.prog F.K.w) F.A no use Q (.ref acc) C (.ok .next) W'.s):F.wp (comprehension (.ListComp elt [⟨.Name xn px,iter,ifs,0⟩] scope pos) scope F.env p0 (newList []) false (eval iter F.env) use) Q W.s:=by
 refine dH hm λc e1 hm=>?_;obtain⟨it,σ₁⟩:=c;dsimp only at hm;by_cases hp:gh it=true
 case neg=>rw[q1l hp] at hm;exact cE hm
 rw[q1k hp] at hm;split at hm
 case h_2=>exact cE hm
 rename_i _ σ₂ e2;obtain rfl:=q0a hm;clear hm;have Wc:∀p∈scope.names,p.2=.local->scope.names.lookup p.1=some .local:=λp hp hl=>(List.getElem?_of_mem hp).elim λi hi=>hl▸bT ok.nd (i:=i) hi;refine wpAny_comprehension_free (g:=⟨.Name xn px,iter,ifs,0⟩) (gs:=[]) (cl:=mV F.env.cells scope.names []) rfl hf (wF (W.frees ok)) ok.kind Wc ?_;refine wp_mono (L W _ e1) λx s₁ h₁=>wp_mono h₁ λj s₂ h₂=>?_;obtain⟨J,W₂,rfl,D⟩:=h₂;obtain rfl:=D.s;obtain rfl:W₂.σ=σ₁:=D.σ;refine q2a ?_ (by size_fits);refine aB.open (W₂.qo (xs:=[]) (items:=[]) W₂.s.toks (.push _ _) (bu _ _) (q0c _) (ko rfl) .nil) λW₃ r₃ q₃ hσ hs=>?_;have keep₃:Keeps W₂.s.heap W₃.s.heap:=hs.symm▸.push _ _;rw[<-hs];clear hs;refine wpAny_newFunctionEnv ok.noCell (by intro y hy;cases hy) (λh₄ ns₄ sb₄=>?_) ok.kind;have tX:Keeps W₃.s.heap h₄:=λb o e=>(sb₄.2 b (q0t (q0s e))).trans (q0p _ e);have F₄:=Rs (s₁:={W₃.s with heap:=h₄}) W₃ ok rfl ns₄ tX;rw[hσ] at F₄;generalize hZ:it.hold++F.c.fn.frz=Z00 at e2;have Tr:∀n∈F.c.fn.frz,n∈Z00:=λn h=>hZ▸List.mem_append_right _ h;have Ee:∀n∈it.hold,n∈Z00:=λn h=>hZ▸List.mem_append_left _ h;clear hZ;let G:=Xq F scope W₃.s.heap.objs.size Z00 ok;let W₄:Wd G:=⟨W₃.ρ,⟨W₂.σ.H++[O.list []],jf scope F.c.sc W₂.σ.loc⟩,{W₃.s with heap:=h₄,toks:=W₃.s.toks+([]:List (Str×Value)).length},F₄,W₃.bare⟩
 have I₄:uS W₄ F.env F.c.fn.frz W₂.ρ W₂.s J W₂.s.heap.objs.size ix (t Z00) (me Z00) W₂.σ.H.length it σ₂ oM 0:=⟨.keeps q₃.pre (keep₃.trans tX) q₃.new (q0d q₃.size (q1b ns₄.lt)) q₃.os,
  ⟨λzz=>(q₃.new _ _ zz).elim D.lone.own λzz=>Nat.not_lt.mpr zz D.lone.tJ.lt,q0t (q0l D.lone.tJ.lt q₃.size),λx e=>D.lone.cel x (dR e),D.lone.low,D.lone.tJ.imp λ_=>q2l ((keep₃.trans tX) _ _)⟩,
  D.itr.keeps q₃.pre (keep₃.trans tX),r₃.mono tX.uX (.refl _),e2⟩
 have loop:codeAny (model F.K.prog F.K.w) F.A (.compLoop (.ListComp elt [⟨.Name xn px,iter,ifs,0⟩] scope pos) 0 (.ref J) (.ref W₂.s.heap.objs.size) (compEnv F scope W₃.s.heap.objs.size))
  (compPost (model F.K.prog F.K.w) F.A no use Q (.ref W₂.s.heap.objs.size) W₃.s.heap.objs.size) W₄.s:=by
  refine rR (G:=G) rfl Tr Ee q₃.size hp hx (T Z00 G rfl rfl) (E Z00 G rfl rfl) I₄ λW₅ h5 X₅ ra₅=>?_;have F₆:=QS W₂ D.lone X₅ W₅.fr.hr W₅.fr.tab;obtain⟨m₅,F₅⟩:=W₅.fr.WY;exact q ⟨W₅.ρ,⟨W₅.σ.H,W₂.σ.loc⟩,W₅.s,F₆,W₅.bare⟩ W₃.s.heap.objs.size _ (h5▸rfl) ⟨eT.Y7 D.le X₅ D.late,ra₅,⟨m₅,F₅.ns⟩,⟨W₅.fr.own,(q0t W₃.fr.iO.lt).symm,λx e=>q1c _ (W₃.fr.oX e).lt,W₃.fr.hr.low,ql F₅.ns⟩,q0d D.le.size q₃.size⟩
 exact codeAny_compStart_list loop (Aq (K:=F.K) (M:=model F.K.prog F.K.w) I₄.itr hp loop)
theorem fu.gone(sb:Heap.SameBut C s.heap h'):fu C s {s with heap:=h' }:=⟨bS sb,q2q sb.1.symm,rfl,rfl⟩
theorem G7(ok:uN F.c scope)(hx:(eK scope F.c.sc).names[ix]?=some (xn,.local))(L:wV F iter mi)(T:∀z (G:ck),G.K=F.K->G.c=AL F.c scope z->gE G ifs (t z))(E:∀z (G:ck),G.K=F.K->G.c=AL F.c scope z->aM G elt (me z))(hf:∀(env:Env) x,foldedSetIterable iter env x=pure x):aM F (.ListComp elt [⟨.Name xn px,iter,ifs,0⟩] scope pos) (yM oM F.c.fn.frz scope F.c.sc mi ix t me):=λW r hm=>by
 rw[eval_ListComp];refine qy ok hx L T E (hf F.env) hm λW' C acc e X=>X.ns.imp λm ns=>⟨ns,λh' sb=>?_⟩
 have as:=fu.gone sb;exact⟨W'.ρ,e▸(W'.eY X.lone as).1,W'.bare,X.vr.mono (W'.eY X.lone as).2 (.refl _),eT.dT X.le X.late (dh.tab X.lone) as⟩
theorem vx(ok:uN F.c scope)(hy:F.c.sc.names[iy]?=some (y',.local))(hx:(eK scope F.c.sc).names[ix]?=some (xn,.local))(L:wV F iter mi)(T:∀z (G:ck),G.K=F.K->G.c=AL F.c scope z->gE G ifs (t z))(E:∀z (G:ck),G.K=F.K->G.c=AL F.c scope z->aM G elt (me z))(hf:∀(env:Env) x,foldedSetIterable iter env x=pure x)(hs:∀env:Env,env.scope=F.c.sc->swapsWith (.ListComp elt [⟨.Name xn px,iter,ifs,0⟩] scope pos) (some (.Name y' py)) Uj.line env=pure true):fk F (.Assign [.Name y' py] (.ListComp elt [⟨.Name xn px,iter,ifs,0⟩] scope pos) Uj) (Y (yM oM F.c.fn.frz scope F.c.sc mi ix t me) λv=>Y (aE iy v) λ_=>Z .next):=λW r hm=>by
 refine dH hm λc e1 hm=>?_;rw[exec_Assign_Name_used y' py _ Uj (hs F.env F.sc)];refine wb (wpAny_standAt (wb ?_));show wpAny _ F.A (do let _ <-comprehension (.ListComp elt [⟨.Name xn px,iter,ifs,0⟩] scope pos) scope F.env _ (newList []) false (eval iter F.env) (some (assign (.Name y' py) F.env))) _ _ W.s;refine wb (q1h (qy (Q:=λ_ s'=>aB Go W r .next s') ok hx L T E (hf F.env) e1 λW' C acc e X=>?_) (λ_ s' hq=>q1e (q1e hq)) λ_ _ e=>e);show F.wp (assign (.Name y' py) F.env (.ref acc)) _ W'.s;refine wpAny_assign_Name (W'.qS hy (.inl rfl) X.vr (e.symm▸hm) λW'' Zx hm=>?_);obtain⟨m,o,es,ep,ho,rest⟩:=X.ns;refine⟨m,⟨o,es,ep,X.lone.keep (dh.tab X.lone) Zx _ ho,rest⟩,λh' sb=>?_⟩;have as:=fu.gone sb;exact q0a hm▸⟨W''.ρ,(W''.eY (X.lone.le Zx) as).1,W''.bare,.next,eT.dT (X.le.trans Zx) X.late (dh.tab X.lone) as⟩
end
namespace Pct
open Builtin Builtin.Str
noncomputable def WZ:PySem.Str:=⟨#[37,115,58,37,100,40,37,115,41]⟩
noncomputable def W0:PySem.Str:=⟨#[123,37,115,125]⟩
noncomputable def iq(x:PySem.Str)(n:String)(y:PySem.Str):PySem.Str:=((((x++PySem.Str.ofString ":")++PySem.Str.ofString n)++PySem.Str.ofString "(")++y)++PySem.Str.ofString ")"
noncomputable abbrev PB:=List Value×Writer×List Nat
noncomputable abbrev PF:=Nat->PB->Sem (ForInStep PB)
structure Tl(jv:PySem.Str)(f:PF):Prop where
 lit:∀{prog:Program}{w:World}{A:Around}{E:Value->Shared->Prop}{s:Shared}{Q:PB->Shared->Prop}{i c:Nat}{l r:List Nat}{p:List Value}{wr:Writer}{T:PySem.Str}{N:Nat},c≠37->1<jv.length->KPc.Good wr T N->N<=10000000->(∀Bp,KPc.Good Bp (T++⟨#[c]⟩) (N+1)->wpAny (model prog w) A (forIn l (p,Bp,37::r) f) Q E s)->wpAny (model prog w) A (forIn (i::l) (p,wr,c::37::r) f) Q E s
 fin:∀{prog:Program}{w:World}{A:Around}{E:Value->Shared->Prop}{s:Shared}{Q:PB->Shared->Prop}{i c:Nat}{l:List Nat}{p:List Value}{wr:Writer}{T:PySem.Str}{N:Nat},c≠37->1<jv.length->KPc.Good wr T N->N<=10000000->(∀Bp,KPc.Good Bp (T++⟨#[c]⟩) (N+1)->wpAny (model prog w) A (forIn l (p,Bp,[]) f) Q E s)->wpAny (model prog w) A (forIn (i::l) (p,wr,[c]) f) Q E s
 str:∀{prog:Program}{w:World}{A:Around}{E:Value->Shared->Prop}{s:Shared}{Q:PB->Shared->Prop}{i:Nat}{l r:List Nat}{p:List Value}{wr:Writer}{T x:PySem.Str}{N:Nat}{t:Tok},KPc.Good wr T N->N<=10000000->x.length<=1000000->(∀Bp,KPc.Good Bp (T++x) (N+1000000)->wpAny (model prog w) A (forIn l (p,Bp,r) f) Q E s)->wpAny (model prog w) A (forIn (i::l) (.str x t::p,wr,37::115::r) f) Q E s
 int:∀{prog:Program}{w:World}{A:Around}{E:Value->Shared->Prop}{s:Shared}{Q:PB->Shared->Prop}{i:Nat}{l r:List Nat}{p:List Value}{wr:Writer}{T x:PySem.Str}{N:Nat}{t:Tok}{n:Int},KPc.Good wr T N->N<=10000000->x.length<=1000000->n.natAbs.log2<1920->(∀c:Percent,c.alt=false->c.type=100->c.prec=none->(⟨(percentInt c (decide (n<0)) (PySem.Str.ofString (toString ((n.natAbs:Nat):Int))).cps.toList).toArray⟩:PySem.Str)=x)->(∀Bp k,KPc.Good Bp (T++x) (N+1000000)->wpAny (model prog w) A (forIn l (p,Bp,r) f) Q E {s with toks:=k})->wpAny (model prog w) A (forIn (i::l) (.int n t::p,wr,37::100::r) f) Q E s
 stop:∀{prog:Program}{w:World}{A:Around}{E:Value->Shared->Prop}{s:Shared}{Q:PB->Shared->Prop}{i:Nat}{l:List Nat}{p:List Value}{wr:Writer}{T:PySem.Str}{N:Nat},KPc.Good wr T N->N<=10000000->Q (p,wr,[]) s->wpAny (model prog w) A (forIn (i::l) (p,wr,[]) f) Q E s
theorem Ul(h:c≠37):(c::37::r).span (· != 37)=([c],37::r):=by have:(c != 37)=true:=bne_iff_ne.mpr h;simp[List.span,List.span.loop,this]
theorem Uk(h:c≠37):[c].span (· != 37)=([c],[]):=by have:(c != 37)=true:=bne_iff_ne.mpr h;simp[List.span,List.span.loop,this]
section
variable{M:Model}{A:Around}{E:Value->Shared->Prop}{s:Shared}{l:List Nat}{p:List Value}{r:List Nat}{f:PF}{Q:PB->Shared->Prop}{wr:Writer}{T x y:PySem.Str}{N K:Nat}{o:Option Value}
theorem ye{jv:PySem.Str}{fo:Value}{c:Nat}(h:1<jv.length):KPc.Obj (if (([c]:List Nat).length==jv.length)=true then some fo else none) x:=KPc.obj_none (q1l λe=>q1c _ (eq_of_beq e▸h))
theorem GL:KPc.Obj (if b=true then some (Value.str x t) else none) x:=by
 cases b with
 |true=>exact KPc.obj_some rfl
 |false=>exact KPc.obj_none rfl
theorem DA:KPc.Obj (if b=true then none else none) x:=KPc.obj_none (ite_self _)
end
theorem B3{P:PF->Prop}{g:PF}(k:∀f,(∀{prog:Program}{w:World}{A:Around}{E:Value->Shared->Prop}{s:Shared}{Q:PB->Shared->Prop}{i:Nat}{l:List Nat}{b:PB},wpAny (model prog w) A (g i b) (λr s'=>match r with | .done b'=>Q b' s' | .yield b'=>wpAny (model prog w) A (forIn l b' f) Q E s') E s->wpAny (model prog w) A (forIn (i::l) b f) Q E s)->P f):P g:=k g λh=>KPc.turn (q1h h (λr s' q=>by cases r<;>exact q) λ_ _ e=>e)
set_option maxHeartbeats 8000000 in
theorem VH(fo:Value)(jv:PySem.Str)(arg:Value):∃f:PF,Tl jv f/\(∀{prog:Program}{w:World}{A:Around}{E:Value->Shared->Prop}{s:Shared}{Q:Fin->Shared->Prop}{b:Addr}{Nq:Array Value},arg=.ref b->IsTup s.heap b Nq->wpAny (model prog w) A (forIn (List.range' 0 jv.length 1) (Nq.toList,({}:Writer),jv.cps.toList) f) (λr s'=>r.1=[]/\wpAny (model prog w) A (r.2.1.finish "str.__mod__") Q E s') E s->wpAny (model prog w) A (percentFormat fo jv arg) Q E s)/\(∀{prog:Program}{w:World}{A:Around}{E:Value->Shared->Prop}{s:Shared}{Q:Fin->Shared->Prop}{y:PySem.Str}{t:Tok},arg=.str y t->wpAny (model prog w) A (forIn (List.range' 0 jv.length 1) ([arg],({}:Writer),jv.cps.toList) f) (λr s'=>r.1=[]/\wpAny (model prog w) A (r.2.1.finish "str.__mod__") Q E s') E s->wpAny (model prog w) A (percentFormat fo jv arg) Q E s):=by
 apply Exists.intro;refine⟨?d,?a,?b⟩
 case b=>
  intro prog w A E s Q y t ha h;rw[ha];unfold Builtin.Str.percentFormat;refine wb (wpAny_isInstance (typeIs_str _ _ _) F.sub_str_tuple ?_);refine wb (q1g (a:=some _) rfl ?_);refine wb (KPc.wp_fills_str ?_);intro m
  kpc_if
  refine wb (q1e ?_);refine wb ?_;rw[KPc.range_list];have e:(!false&&!(some y).isSome&&m)=false:=rfl;rw[e,<-ha];refine q1h h (λr s' q=>?_) λ_ _ e=>e;obtain⟨p,wr,r⟩:=r;obtain⟨rfl,q⟩:p=[]/\_:=q;exact q1i (KPc.ite_no q0f q)
 case a=>
  intro prog w A E s Q b Nq ha ht h;rw[ha];obtain⟨o,hg,hc,hn,hd⟩:=ht;unfold Builtin.Str.percentFormat;refine wb (wpAny_isInstance (T:="tuple") ⟨o,hg,hc⟩ KPt.sub_tt ?_);refine wb (KPt.asStr_ref hg hd ?_);refine wb (KPt.fills_ref ⟨o,hg,hc⟩ ?_);intro m
  kpc_if
  refine wb (q2o hg hd ?_);refine wb (q1e ?_);refine wb ?_;rw[KPc.range_list];have e:(!true&&!(none:Option PySem.Str).isSome&&m)=false:=rfl;rw[e,<-ha];refine q1h h (λr s' q=>?_) λ_ _ e=>e;obtain⟨p,wr,r⟩:=r;obtain⟨rfl,q⟩:p=[]/\_:=q;exact q1i (KPc.ite_no q0f q)
 case d=>
  refine B3 (P:=Tl jv) λf st=>?_;constructor
  case stop=>
   intro prog w A E s Q i l p wr T N g hN q;refine st (q1i (KPc.ite_no (KPc.short_good g (q0d hN (by decide))) (q1i (KPc.ite_yes rfl ?_))));exact q1e q
  case lit=>
   intro prog w A E s Q i c l r p wr T N hc hf g hN q;refine st (q1i (KPc.ite_no (KPc.short_good g (q0d hN (by decide))) (q1i (KPc.ite_no q0f ?_))));rw[Ul hc];refine q1i (KPc.ite_yes rfl (q1e ?_));exact q _ (KPc.good_add (x:=⟨#[c]⟩) g (ye hf))
  case fin=>
   intro prog w A E s Q i c l p wr T N hc hf g hN q;refine st (q1i (KPc.ite_no (KPc.short_good g (q0d hN (by decide))) (q1i (KPc.ite_no q0f ?_))));rw[Uk hc];refine q1i (KPc.ite_yes rfl (q1e ?_));exact q _ (KPc.good_add (x:=⟨#[c]⟩) g (ye hf))
  case str=>
   intro prog w A E s Q i l r p wr T x N t g hN hx q;refine st (q1i (KPc.ite_no (KPc.short_good g (q0d hN (by decide))) ?_));refine wb (q1u (wb (q1g (KPc.strOf_str _ _) (wb (q1g (a:=some _) rfl (q1e (q1e ?_)))))));have eb:(⟨x.cps.toList.toArray⟩:PySem.Str)=x:=q1s PySem.Str.mk (Array.toArray_toList ..);show wpAny _ _ (forIn l (p,wr.add ⟨x.cps.toList.toArray⟩ _,r) _) _ _ _;rw[eb];exact q _ (KPc.good_mono (KPc.good_add g GL) (q2j hx _))
  case int=>
   intro prog w A E s Q i l r p wr T x N t n g hN hx hd hT q;refine st (q1i (KPc.ite_no (KPc.short_good g (q0d hN (by decide))) ?_));refine wb (q1u (wb (q1g (a:=n) rfl (wb (wpAny_mkInt (wb (call_gives F.slot_int_repr (typeIs_int _ _ _) F.entry_int_repr (F.args_int_repr_1 _) (gives_int_repr _ _ (KPt.hd2 hd)) ⟨int_text_fits (KPt.hd2 hd),?_⟩)))))));refine wb (q1g (a:=some _) rfl (q1e (q1e ?_)));show wpAny _ _ (forIn l (p,wr.add ⟨(percentInt {type:=100} (decide (n<0)) _).toArray⟩ _,r) _) _ _ _;rw[hT _ rfl rfl rfl];exact q _ _ (KPc.good_mono (KPc.good_add g DA) (q2j hx _))
theorem Nj{jv T:PySem.Str}{t:Tok}{arg:Value}{P:Shared->Prop}(he:«str.__mod__» ⟨[.str jv t,arg],[]⟩=percentFormat (.str jv t) jv arg)(k:∀f:PF,Tl jv f->(∀{prog:Program}{w:World}{A:Around}{E:Value->Shared->Prop}{s:Shared}{Q:Fin->Shared->Prop}{b:Addr}{Nq:Array Value},arg=.ref b->IsTup s.heap b Nq->wpAny (model prog w) A (forIn (List.range' 0 jv.length 1) (Nq.toList,({}:Writer),jv.cps.toList) f) (λr s'=>r.1=[]/\wpAny (model prog w) A (r.2.1.finish "str.__mod__") Q E s') E s->wpAny (model prog w) A (percentFormat (.str jv t) jv arg) Q E s)->(∀{prog:Program}{w:World}{A:Around}{E:Value->Shared->Prop}{s:Shared}{Q:Fin->Shared->Prop}{y:PySem.Str}{u:Tok},arg=.str y u->wpAny (model prog w) A (forIn (List.range' 0 jv.length 1) ([arg],({}:Writer),jv.cps.toList) f) (λr s'=>r.1=[]/\wpAny (model prog w) A (r.2.1.finish "str.__mod__") Q E s') E s->wpAny (model prog w) A (percentFormat (.str jv t) jv arg) Q E s)->∀{prog:Program}{w:World}{A:Around}{s:Shared}{Q:Fin->Shared->Prop}{E:Value->Shared->Prop},P s->(∀t' k,Q (.done (.ret (.str T t'))) {s with toks:=k})->wpAny (model prog w) A (percentFormat (.str jv t) jv arg) Q E s):Meets («str.__mod__» ⟨[.str jv t,arg],[]⟩) (λ_ R s=>P s/\∀t' k,R (.ok (.ret (.str T t'))) {s with toks:=k}):=by obtain⟨f,D,a,b⟩:=VH (.str jv t) jv arg;exact Meets.of_wp λprog w A _ s hS=>he▸k f D a b hS.1 λt' k=>⟨_,rfl,hS.2 t' k⟩
theorem one{y:PySem.Str}{t u:Tok}(hy:y.length<=1000000):Meets («str.__mod__» ⟨[.str W0 t,.str y u],[]⟩) (λ_ R s=>True/\∀t' k,R (.ok (.ret (.str ((PySem.Str.ofString "{" ++ y)++PySem.Str.ofString "}") t'))) {s with toks:=k}):=Nj (KPc.entry_is_s _ _ _ _) λf D a b prog w A s Q E _ h=>b rfl (D.lit (i:=0) (c:=123) (l:=[1,2,3]) (by decide) (by decide) KPc.good0 (by decide) λw1 g1=>
 D.str g1 (by decide) hy λw2 g2=>D.fin (by decide) (by decide) g2 (by decide) λw3 g3=>D.stop g3 (by decide) ⟨rfl,KPc.finish_ok g3 (by decide) (q1s (λz=>(z++y)++PySem.Str.ofString "}") (KPc.empty_app _)) h⟩)
theorem tup{x y:PySem.Str}{b:Addr}{n:Int}{str:String}{t tx tn ty:Tok}(hx:x.length<=1000000)(hy:y.length<=1000000)(hs:(PySem.Str.ofString str).length<=1000000)(hd:n.natAbs.log2<1920)(hT:∀c:Percent,c.alt=false->c.type=100->c.prec=none->(⟨(percentInt c (decide (n<0)) (PySem.Str.ofString (toString ((n.natAbs:Nat):Int))).cps.toList).toArray⟩:PySem.Str)=PySem.Str.ofString str):Meets («str.__mod__» ⟨[.str WZ t,.ref b],[]⟩) (λ_ R s=>IsTup s.heap b #[.str x tx,.int n tn,.str y ty]/\∀t' k,R (.ok (.ret (.str (iq x str y) t'))) {s with toks:=k}):=Nj (KPt.entry_is_r _ _ _) λf D a b prog w A s Q E ht h=>a rfl ht (D.str (i:=0) (l:=[1,2,3,4,5,6,7,8]) KPc.good0 (by decide) hx λw1 g1=>D.lit (by decide) (by decide) g1 (by decide) λw2 g2=>
 D.int g2 (by decide) hs hd hT λw3 k3 g3=>D.lit (by decide) (by decide) g3 (by decide) λw4 g4=>D.str g4 (by decide) hy λw5 g5=>D.fin (by decide) (by decide) g5 (by decide) λw6 g6=>D.stop g6 (by decide) ⟨rfl,KPc.finish_ok g6 (by decide) (by rw[KPc.empty_app];rfl) λt' k=>h t' k⟩)
theorem len_num{n:Int}(h0:0<=n)(h1:n<1000):(PySem.Str.ofString (toString n)).length<=10:=toString_length_le (k:=10) h0 (by decide) (Int.lt_trans h1 (by decide))
theorem Jv{n:Int}(h0:0<=n)(h1:n<1000):n.natAbs.log2<1920:=q0r (Nat.log2_le_self _) (by lia)
theorem nA{n:Int}(h0:0<=n)(c:Percent)(h1:c.alt=false)(h2:c.type=100)(h3:c.prec=none):(⟨(percentInt c (decide (n<0)) (PySem.Str.ofString (toString ((n.natAbs:Nat):Int))).cps.toList).toArray⟩:PySem.Str)=PySem.Str.ofString (toString n):=by rw[KPc.int_text c h1 (.inl h2) h3 h0,Int.natAbs_of_nonneg h0]
theorem JE(c:Percent)(h1:c.alt=false)(h2:c.type=100)(h3:c.prec=none):(⟨(percentInt c (decide ((-20:Int)<0)) (PySem.Str.ofString (toString (((-20:Int).natAbs:Nat):Int))).cps.toList).toArray⟩:PySem.Str)=PySem.Str.ofString "-20" :=by
 obtain⟨a,b,d,e,f,g,h,i⟩:=c;cases h1;cases h2;cases h3
 kernel_rfl
end Pct
noncomputable def cF(n:Int):Option String:=if 0<=n/\n<1000 then some (toString n) else if n = -20 then some "-20" else none
noncomputable def BS{α:Type}:List α->Option (α×α×α)
 |[a,b,c]=>some (a,b,c)
 |_=>none
theorem vg{α:Type}{l:List α}{a}(h:BS l=some a):l=[a.1,a.2.1,a.2.2]:=by
 cases l with
 |nil=>exact cE h
 |cons x r=>cases r with
  |nil=>exact cE h
  |cons y r=>cases r with
   |nil=>exact cE h
   |cons z r=>cases r with
    |nil=>exact q1s (λa:α×α×α=>[a.1,a.2.1,a.2.2]) (q0a h)
    |cons=>exact cE h
def Dp(f:Str)(u:V):Option V:=ba (vS u) (λy=>if f=Pct.W0/\y.length<=1000000 then some (.str ((PySem.Str.ofString "{" ++ y)++PySem.Str.ofString "}")) else none) <| (vT u).bind λvs=>(BS vs).bind λp=>(vS p.1).bind λx=>(vI p.2.1).bind λn=>(vS p.2.2).bind λy=>
 if f=Pct.WZ/\x.length<=1000000/\y.length<=1000000 then(cF n).map λs=>.str (Pct.iq x s y) else none
section
variable{F:ck}{W:Wd F}{u:V}{xu:Value}{prog:Program}{w:World}{A:Around}{s:Shared}{ρ:cY}{h:Heap}
theorem yb(ht:IsTup s.heap d Nq)(hm:Meets (Builtin.«str.__mod__» ⟨[.str X t,.ref d],[]⟩) (λ_ R s=>IsTup s.heap d Nq/\∀t' k,R (.ok (.ret (.str T t'))) {s with toks:=k}))(h:∀t' k,Q (.str T t') {s with toks:=k}):wpAny (model prog w) A (binaryOp .Mod (.str X t) (.ref d)) Q no s:=by
 have hT:s.TypeIs (.ref d) "tuple" :=ht.imp λ_ q=>⟨q.1,q.2.1⟩
 exact KPt.bin_left (T:="str") (U:="tuple") (op:=.Mod) (by decide) (typeIs_str s X t) hT PySem.F.fills_str_mod KPt.fills_tuple PySem.F.slot_str_mod (call_meets PySem.F.slot_str_mod (typeIs_str s X t) PySem.F.entry_str_mod (PySem.F.args_str_mod_2 _ _) hm ⟨ht,λt' k=>⟨(λe=>nomatch e),h t' k⟩⟩)
@[elab_as_elim] theorem bE.N0{vs:List V}{xs:List Value}(r:bE ρ h vs xs){P:List Value->Prop}{a:V×V×V}(e:BS vs=some a)(k:∀x y z,VR ρ h a.1 x->VR ρ h a.2.1 y->VR ρ h a.2.2 z->P [x,y,z]):P xs:=by rw[vg e] at r;obtain⟨x,_,rfl,r1,r⟩:=r.u9;obtain⟨y,_,rfl,r2,r⟩:=r.u9;obtain⟨z,_,rfl,r3,r⟩:=r.u9;exact r.nil_inv▸k x y z r1 r2 r3
theorem I7(r:VR W.ρ W.s.heap u xu):Ok (λv=>∀Q:Value->Shared->Prop,(∀y t,VR W.ρ W.s.heap v y->Q y {W.s with toks:=t})->F.wp (binaryOp .Mod (.str f t) xu) Q W.s) (Dp f u):=by
 refine Ok.ba (λy e=>Ok.iff λhc Q q=>r.fC e λt'=>?_) (Ok.bind λvs e1=>Ok.bind λp e2=>Ok.bind λx e3=>Ok.bind λn e4=>Ok.bind λy e5=>Ok.ifs λhc=>Ok.map λstr e6 Q q=>r.tupK e1 λa items h2 h3 _=>?_)
 ·rw[hc.1]
  exact KPc.mod_str (T:=λy=>(PySem.Str.ofString "{" ++ y)++PySem.Str.ofString "}") rfl hc.2 (λz hz prog w A R s h=>Pct.one hz prog w A R s ⟨trivial,h⟩) λt' k=>q _ k (.str _ _)
 ·obtain⟨l⟩:=items
  have h3:bE W.ρ W.s.heap vs l:=h3;revert h2;refine h3.N0 e2 λx1 x2 x3 r1 r2 r3=>r1.fC e3 λt1=>r2.hB e4 λt2=>r3.fC e5 λt3 h2=>?_;rw[hc.1];unfold cF at e6;by_cases g:0<=n/\n<1000
  ·rw[q1k g] at e6
   obtain rfl:=q0a e6;exact yb h2 (Pct.tup hc.2.1 hc.2.2 (q0d (Pct.len_num g.1 g.2) (by decide)) (Pct.Jv g.1 g.2) (Pct.nA g.1)) λt' k=>q _ k (.str _ _)
  ·rw[q1l g] at e6
   by_cases g2:n = -20
   ·subst g2
    rw[q1k rfl] at e6;obtain rfl:=q0a e6;exact yb h2 (Pct.tup hc.2.1 hc.2.2 (by decide) (by decide +kernel) Pct.JE) λt' k=>q _ k (.str _ _)
   ·rw[q1l g2] at e6;exact cE e6
def Dr(f:Str)(u:V):M V:=nZ λ_=>Dp f u
theorem Od(R:aM F r mr):aM F (.BinOp (.Constant (.str f) k p) .Mod r pos) (Y mr (Dr f)):=λW c hm=>
 wpAny_BinOp (Constant_str ((R (W.toks _)).use hm λu xu W₂ r₂ q₂ hm=>m9 hm λv e er=>by
  subst er;exact I7 r₂ v e _ λy t r=>aB.after (Wd.Le.trans (W.gv _) q₂) (aB.toks t r)))
end
theorem pS(C:Addr)(rest:List Value):(Code.builtin "type.__call__" ⟨.ref C::rest,[]⟩).weight=1:=by kernel_rfl
theorem sK(args:Args):(Code.builtin "type.__call__" args).cUnits=1:=by kernel_rfl
noncomputable def bg:List (Option V):=aI.map λ_=>none
noncomputable def v6(C:Addr)(run:List V->HM V)(vs:List V):HM V:=λH=>match run (.ref H.length::vs) (H++[.inst C bg]) with
 |some (.none,H')=>some (.ref H.length,H')
 |_=>none
structure F8(K:Frag)(C fI:Addr):Prop where
 makes:makesIn K C=true
 init:findIn K (.ref C) "__init__" = some (some (.ref fI))
 fn:typeIn K (.ref fI)=some (.type "function")
section
variable{F:ck}{K:Frag}{W:Wd F}{v:V}{ρ:cY}{h:Heap}{C fI:Addr}{r:aQ}{k:Nat}{mb:M Fl}
theorem ri:kR ρ h bg []:=by have hg:∀x:Str,getL x [] = some none:=λx=>rfl;refine⟨q0w ..,λi x v _ e=>?_,λ_ _ _ _=>hg _,λ_ _=>hg _,Nat.zero_le _⟩;unfold bg at e;rw[q0y] at e;obtain⟨_,_,e⟩:=q0z.mp e;exact cE e
noncomputable abbrev yl(h:Heap)(C:Addr):Heap:=(h.push emptyDict).push (instObj C h.objs.size)
theorem mw:Keeps h (yl h C):=Keeps.trans (Keeps.push _ _) (Keeps.push _ _)
theorem oJ:h.objs.size<=(yl h C).objs.size:=q0d (bu _ _) (bu _ _)
theorem D8{K:Kx}:OR K ρ (yl h C) (.inst C bg) (h.objs.size+1) h.objs.size:=by
 have h1:(yl h C).get? (h.objs.size+1)=some (instObj C h.objs.size):=by have:=q0n (h.push emptyDict) (o:=instObj C h.objs.size) rfl;rwa[Heap.size_push] at this
 exact .inst (n:=0) (Nat.succ_ne_self _) h1 (Keeps.push _ _ _ _ (q0n _ rfl)) ri
noncomputable def Wd.D7(W:Wd F)(C:Addr):Wd F:=W.chg W.s.toks (.snoc _ (W.s.heap.objs.size+1,W.s.heap.objs.size)) (W.fr.hr.make (o:=.inst C bg) mw oJ (q2g _) (q0c _) D8) (λb ob _=>mw b ob) (oh (q2g _) (q0c _))
theorem Wd.rz(W:Wd F)(C:Addr):W.Le (W.D7 C):=W.tU _ _ _ _ _ oJ
theorem Ae{run:List V->HM V}{vs:List V}{H:List O}{P:V×List O->Prop}(k:∀H',run (.ref H.length::vs) (H++[.inst C bg])=some (.none,H')->P (.ref H.length,H')):Ok P (v6 C run vs H):=λc e=>by
 unfold v6 at e;cases hr:run (.ref H.length::vs) (H++[.inst C bg]) with
 |none=>rw[hr] at e;exact cE e
 |some p=>
  rw[hr] at e;obtain⟨v,H'⟩:=p;cases v with
  |none=>exact q0a e▸k H' hr
  |_=>exact cE e
theorem DX(X:K.In K'.B)(mk:makesIn K C=true):uP K' (.ref C):=λh st=>by
 obtain⟨⟨oc,od,cd,sl,hC,_⟩,_,_,_,_,call,_⟩:=makes_of (M:=model K'.prog K'.w) (X.keeps st) mk;exact⟨.machine,.inr (.inl rfl),(Looks.ld (part:=none) hC).andThen (call.andThen .now)⟩
theorem Of{x':Str}{p pos:Pos}{es:List Expr}{ms:List (M V)}(X:K.In F.K.B)(mk:F8 K C fI)(hx:F.c.sc.names.lookup x'=some .globalImplicit)(g:Gl F.K.B x' (.ref C))(hC:C<k8)(hd:(x'==("__debug__" : Str))=false)(hz:F.c.fn.frz=[])(hk:F.c.k=k+2)(ok:dc F.K.B fI r)(fH:F.K.B.NoLimit)(S:dz F es ms)(FB:∀F':ck,F'.K=F.K->F'.c=bI r k->eF F' r.body mb)(he:sj x' p es pos):aM F (.Call (.Name x' p) es [] pos) (Y (an ms) λvs=>au (v6 C (fV r mb) vs)):=λW c hm=>
 gR hx g (q1w hC) hd (DX X mk.makes) S he hm λvs xs W₂ r₂ q₂ hm=>iz q₂ (dg.run (Ae λH' e=>by
  have X₂:=X.keeps W₂.fr.hr.stays;have room:ft (k+1) (F.A.under (.builtin "type.__call__" ⟨.ref C::xs,[]⟩)):=(show ft (k+2) F.A from hk▸F.room).by (d:=1) (u:=1) rfl (q1s (F.A.depth + ·) (pS C xs)) (by decide) (q1s (F.A.units + ·) (sK _)) (by decide);refine wpAny_call (make_core (h:=W₂.s.heap) (g:=W₂.s.gens) (d:=W₂.s.drawn) (t:=W₂.s.toks) (os:=W₂.s.os) (makes_of X₂ mk.makes) (looks_findIn X₂ mk.init) (λself=>bind_fn X₂ self mk.fn) (.inl rfl) ?_);refine cD.use (jP (W:=W₂.D7 C) hz ok fH room FB (.cons (.ref (d:=W₂.s.heap.objs.size) W₂.iI) ((W₂.rz C).Y6 r₂)) _ e) λy s' p=>p.open λW' r' q e1 e2=>?_;subst e2;have e1:W'.σ=⟨H',W₂.σ.loc⟩:=e1;exact⟨r'.none_inv,e1▸aB.of W' (q.vr (.ref (d:=W₂.s.heap.objs.size) W₂.iI)) ((W₂.rz C).trans q)⟩) hm)
end
structure fh where
 glb:List (Str×Value)
 fns:List (Addr×aQ)
 ini:List (Addr×Addr)
 mts:List (Str×Addr×Addr)
 prs:List (Str×Addr×Addr)
 lf:Nat
structure cZ(B:Heap)(K:Frag)(T:fh):Prop where
 base:m5 B K
 lim:B.NoLimit
 glb:∀x v,T.glb.lookup x=some v->Gl B x v/\jJ v=true/\(x==("__debug__" : Str))=false
 fns:∀f r,T.fns.lookup f=some r->dc B f r
 ini:∀C f,T.ini.lookup C=some f->F8 K C f/\C<k8
 mts:∀x C f,T.mts.lookup x=some (C,f)->wW K C x f/\x∉aI
 prs:∀x C f,T.prs.lookup x=some (C,f)->F6 K C x f
structure Ev where
 e:Cx->Expr->M V
 t:Cx->Expr->M Bool
 b:Cx->List Stmt->M Fl
 lf:Nat
noncomputable def pick{α:Type}{c:Prop}[Decidable c](f:c->α):Option α:=if h:c then some (f h) else none
theorem pickK{α:Type}{c:Prop}[Decidable c]{f:c->α}{x:α}{Q:Prop}(h:pick f=some x)(k:c->Q):Q:=by
 unfold pick at h;by_cases hc:c
 ·exact k hc
 ·rw[dif_neg hc] at h;exact cE h
noncomputable def cN(e:Expr):Option (Str×Pos):=pick λh:e.ctorIdx=23=>Expr.Name.elim e h λx q=>(x,q)
theorem aV{e:Expr}{x}(h:cN e=some x):e=.Name x.1 x.2:=pickK h λc=>Expr.Name.elim (motive_1:=λe=>cN e=some x->e=.Name x.1 x.2) e c (λ_ _ h=>q0a h▸rfl) h
noncomputable def hX(e:Expr):Option (Expr×Str×Pos):=pick λh:e.ctorIdx=20=>Expr.Attribute.elim e h λo n q=>(o,n,q)
theorem cQ{e:Expr}{x}(h:hX e=some x):e=.Attribute x.1 x.2.1 x.2.2:=pickK h λc=>Expr.Attribute.elim (motive_1:=λe=>hX e=some x->e=.Attribute x.1 x.2.1 x.2.2) e c (λ_ _ _ h=>q0a h▸rfl) h
noncomputable def Gw(e:Expr):Option (Expr×Expr×Pos):=pick λh:e.ctorIdx=21=>Expr.Subscript.elim e h λo i q=>(o,i,q)
theorem pO{e:Expr}{x}(h:Gw e=some x):e=.Subscript x.1 x.2.1 x.2.2:=pickK h λc=>Expr.Subscript.elim (motive_1:=λe=>Gw e=some x->e=.Subscript x.1 x.2.1 x.2.2) e c (λ_ _ _ h=>q0a h▸rfl) h
noncomputable def zr(e:Expr):Option (List Expr×Nat×Pos):=pick λh:e.ctorIdx=25=>Expr.Tuple.elim e h λo i q=>(o,i,q)
theorem kX{e:Expr}{x}(h:zr e=some x):e=.Tuple x.1 x.2.1 x.2.2:=pickK h λc=>Expr.Tuple.elim (motive_1:=λe=>zr e=some x->e=.Tuple x.1 x.2.1 x.2.2) e c (λ_ _ _ h=>q0a h▸rfl) h
noncomputable def u5(e:Expr):Option (Option Expr×Option Expr×Option Expr×Pos):=pick λh:e.ctorIdx=26=>Expr.Slice.elim e h λa b c q=>(a,b,c,q)
theorem sy{e:Expr}{x}(h:u5 e=some x):e=.Slice x.1 x.2.1 x.2.2.1 x.2.2.2:=pickK h λc=>Expr.Slice.elim (motive_1:=λe=>u5 e=some x->e=.Slice x.1 x.2.1 x.2.2.1 x.2.2.2) e c (λ_ _ _ _ h=>q0a h▸rfl) h
noncomputable def BB(e:Expr):Option (Expr×List Comprehension×Scope×Pos):=pick λh:e.ctorIdx=8=>Expr.ListComp.elim e h λa b c q=>(a,b,c,q)
theorem u8{e:Expr}{x}(h:BB e=some x):e=.ListComp x.1 x.2.1 x.2.2.1 x.2.2.2:=pickK h λc=>Expr.ListComp.elim (motive_1:=λe=>BB e=some x->e=.ListComp x.1 x.2.1 x.2.2.1 x.2.2.2) e c (λ_ _ _ _ h=>q0a h▸rfl) h
noncomputable def Gx(e:Expr):Option (Expr×List Comprehension×Scope×Pos):=pick λh:e.ctorIdx=11=>Expr.GeneratorExp.elim e h λa b c q=>(a,b,c,q)
theorem zv{e:Expr}{x}(h:Gx e=some x):e=.GeneratorExp x.1 x.2.1 x.2.2.1 x.2.2.2:=pickK h λc=>Expr.GeneratorExp.elim (motive_1:=λe=>Gx e=some x->e=.GeneratorExp x.1 x.2.1 x.2.2.1 x.2.2.2) e c (λ_ _ _ _ h=>q0a h▸rfl) h
noncomputable def l7(e:Expr):Option (Expr×List Expr×List Keyword×Pos):=pick λh:e.ctorIdx=16=>Expr.Call.elim e h λa b c q=>(a,b,c,q)
theorem fT{e:Expr}{x}(h:l7 e=some x):e=.Call x.1 x.2.1 x.2.2.1 x.2.2.2:=pickK h λc=>Expr.Call.elim (motive_1:=λe=>l7 e=some x->e=.Call x.1 x.2.1 x.2.2.1 x.2.2.2) e c (λ_ _ _ _ h=>q0a h▸rfl) h
noncomputable def Gy(e:Expr):Option (Expr×Operator×Expr×Pos):=pick λh:e.ctorIdx=2=>Expr.BinOp.elim e h λa b c q=>(a,b,c,q)
theorem zw{e:Expr}{x}(h:Gy e=some x):e=.BinOp x.1 x.2.1 x.2.2.1 x.2.2.2:=pickK h λc=>Expr.BinOp.elim (motive_1:=λe=>Gy e=some x->e=.BinOp x.1 x.2.1 x.2.2.1 x.2.2.2) e c (λ_ _ _ _ h=>q0a h▸rfl) h
noncomputable def u7(e:Expr):Option (Const×Nat×Pos):=pick λh:e.ctorIdx=19=>Expr.Constant.elim e h λa b q=>(a,b,q)
theorem sA{e:Expr}{x}(h:u7 e=some x):e=.Constant x.1 x.2.1 x.2.2:=pickK h λc=>Expr.Constant.elim (motive_1:=λe=>u7 e=some x->e=.Constant x.1 x.2.1 x.2.2) e c (λ_ _ _ h=>q0a h▸rfl) h
noncomputable def Bx(e:Const):Option (Str):=pick λh:e.ctorIdx=5=>Const.str.elim e h λx=>x
theorem u4{e:Const}{x}(h:Bx e=some x):e=.str x:=pickK h λc=>Const.str.elim (motive:=λe=>Bx e=some x->e=.str x) e c (λ_ h=>q0a h▸rfl) h
noncomputable def Gz(e:Stmt):Option (List Expr×Expr×Pos):=pick λh:e.ctorIdx=5=>Stmt.Assign.elim e h λa b q=>(a,b,q)
theorem pP{e:Stmt}{x}(h:Gz e=some x):e=.Assign x.1 x.2.1 x.2.2:=pickK h λc=>Stmt.Assign.elim (motive_2:=λe=>Gz e=some x->e=.Assign x.1 x.2.1 x.2.2) e c (λ_ _ _ h=>q0a h▸rfl) h
noncomputable def TS(e:Expr):Option (Str×Nat×Pos):=(u7 e).bind λx=>(Bx x.1).map λf=>(f,x.2)
theorem aH{α β:Type}{o:Option α}{f:α->Option β}{b:β}{Q:Prop}(h:o.bind f=some b)(k:∀a,o=some a->f a=some b->Q):Q:=by
 cases o with
 |none=>exact cE h
 |some a=>exact k a rfl h
theorem mQ{α β:Type}{o:Option α}{f:α->β}{b:β}{P:β->Prop}(h:o.map f=some b)(k:∀a,o=some a->P (f a)):P b:=by
 cases o with
 |none=>exact cE h
 |some a=>exact q0a h▸k a rfl
theorem zu{e:Expr}{x}(h:TS e=some x):e=.Constant (.str x.1) x.2.1 x.2.2:=aH h λa h1 h=>mQ (P:=λx=>e=.Constant (.str x.1) x.2.1 x.2.2) h λf h2=>(sA h1).trans (u4 h2▸rfl)
noncomputable def qO(gs:List Comprehension):Option ((Str×Pos)×Expr×List Expr):=(one gs).bind λg=>if g.is_async=0 then(cN g.target).map λx=>(x,g.iter,g.ifs) else none
theorem jU{gs:List Comprehension}{x}(h:qO gs=some x):gs=[⟨.Name x.1.1 x.1.2,x.2.1,x.2.2,0⟩]:=by
 refine aH h λg h1 h=>?_;rw[cy h1];obtain⟨t,iter,ifs,a⟩:=g;by_cases ha:a=0
 ·subst ha
  exact mQ (P:=λx=>[Comprehension.mk t iter ifs 0] = [⟨.Name x.1.1 x.1.2,x.2.1,x.2.2,0⟩]) h λy h3=>aV h3▸rfl
 ·exact cE ((q1l ha).symm.trans h)
noncomputable def dead{α:Type}:M α:=λ_=>none
noncomputable def bfs:List (Value×Bf):=[(.builtin "len",.len),(.builtin "isinstance",.isinstance),(.type "type",.type),(.type "int",.int),(.type "str",.str),(.type "list",.list),(.builtin "sum",.sum),(.type "range",.range),(.type "collections.deque",.deque)]
noncomputable def QH:List (Str×Mt):=[("append",.append),("pop",.pop),("reverse",.reverse),("get",.get),("startswith",.startswith),("endswith",.endswith)]
noncomputable def lz(es:List Expr):Bool:=es.all λe=>!isStarred e
noncomputable def km(e:Expr):Bool:=!(Nat.beq e.ctorIdx 8||(Nat.beq e.ctorIdx 9||Nat.beq e.ctorIdx 10))
noncomputable def v5(e:Expr):Bool:=!(Nat.beq e.ctorIdx 7)
noncomputable def J6(sc:Scope):Env:={scope:=sc,locals:=0,globals:=0,cells:=[]}
noncomputable def r8{α:Type}(m:Sem α):Option α:=pick λh:m.ctorIdx=0=>Sem.pure.elim m h λa=>a
theorem mD{α:Type}{m:Sem α}{a:α}(h:r8 m=some a):m=pure a:=pickK h λc=>Sem.pure.elim (motive:=λm=>r8 m=some a->m=pure a) m c (λ_ h=>q0a h▸rfl) h
noncomputable def NT(e:Value):Option Addr:=pick λh:e.ctorIdx=10=>Value.ref.elim e h λa=>a
theorem zt{e:Value}{x}(h:NT e=some x):e=.ref x:=pickK h λc=>Value.ref.elim (motive:=λe=>NT e=some x->e=.ref x) e c (λ_ h=>q0a h▸rfl) h
noncomputable def Dn:Nat->Option Nat
 |0=>none
 |k+1=>some k
noncomputable def I4(k:Nat):Option Nat:=(Dn k).bind Dn
noncomputable def V3(T:fh)(x:Str)(i:Nat):NameKind->M V
 |.globalImplicit=>ba (T.glb.lookup x) (λv=>Z (.top v)) dead
 |.globalExplicit=>dead
 |_=>if (x==("__debug__" : Str))=false/\(x==("__classdict__" : Str))=false then af i else dead
def Ng(T:fh)(c:Cx)(x:Str):M V:=ba (placeOf c.sc.names x) (λi=>ba c.sc.names[i]? (λp=>V3 T x i p.2) dead) dead
noncomputable def jZ(c:Cx)(x:Str):Option Nat:=(placeOf c.sc.names x).bind λi=>(c.sc.names[i]?).bind λp=>if p.2=.local\/(p.2=.cell/\c.fn.fn=true) then some i else none
def FV(c:Cx)(t:Expr):Option (V->M Unit):=(cN t).bind λx=>(jZ c x.1).map aE
noncomputable def o8(c:Cx):List Expr->Option (List (V->M Unit))
 |[]=>some []
 |t::ts=>(FV c t).bind λm=>(o8 c ts).map (m :: ·)
noncomputable def q9(c:Cx):List Str->Option (List Nat)
 |[]=>some []
 |x::xs=>(placeOf c.sc.names x).bind λi=>(q9 c xs).bind λis=>if c.sc.names[i]?=some (x,.local) then some (i::is) else none
noncomputable def Ds(p:Ev)(c:Cx):Option Expr->Option (M V):=Option.map (p.e c)
def Xs(T:fh)(p:Ev)(c:Cx)(v:Value)(es:List Expr):M V:=ba (NT v) (λa=>if c.fn.frz=[] then ba (T.fns.lookup a) (λr=>ba (Dn c.k) (λk=>Y (an (es.map (p.e c))) λvs=>au (fV r (p.b (bI r k) r.body) vs)) dead) <| ba (T.ini.lookup a) (λf=>ba (T.fns.lookup f) (λr=>ba (I4 c.k) (λk=>Y (an (es.map (p.e c))) λvs=>au (v6 a (fV r (p.b (bI r k) r.body)) vs)) dead) dead) dead else dead) <| ba (bfs.lookup v) (λf=>Y (an (es.map (p.e c))) λvs=>au (blt f vs)) dead
def NC(T:fh)(p:Ev)(c:Cx)(x:Str)(es:List Expr):M V:=if lz es=true/\c.sc.names.lookup x=some .globalImplicit then ba (T.glb.lookup x) (λv=>Xs T p c v es) dead else dead
def V7(T:fh)(p:Ev)(c:Cx)(o:Expr)(q:Addr×Addr)(es:List Expr):M V:=ba (T.fns.lookup q.2) (λr=>ba (Dn c.k) (λk=>
 if c.fn.frz=[] then Y (p.e c o) λo=>Y (dj q.1 o) λ_=>Y (an (es.map (p.e c))) λvs=>au (fV r (p.b (bI r k) r.body) (o::vs)) else dead) dead) dead
def Ni(T:fh)(p:Ev)(c:Cx)(o:Expr)(name:Str)(ap pos:Pos)(es:List Expr):M V:=if lz es=true/\f8 o=true/\(ap.endLine==pos.line)=true/\es.length<30 then
 ba (QH.lookup name) (λm=>d0 c.fn.frz m (p.e c o) (es.map (p.e c))) <| ba (T.mts.lookup name) (λq=>V7 T p c o q es) dead
 else dead
def Vv(T:fh)(p:Ev)(c:Cx)(o:Expr)(q:Addr×Addr):M V:=ba (T.fns.lookup q.2) (λr=>ba (I4 c.k) (λk=>
 if c.fn.frz=[] then Y (p.e c o) λo=>Y (dj q.1 o) λ_=>Y (au (fV r (p.b (bI r k) r.body) [o])) λv=>if bN v then Z v else dead else dead) dead) dead
def NJ(T:fh)(p:Ev)(c:Cx)(o:Expr)(name:Str):M V:=if f8 o=true then ba (aI.idxOf? name) (λi=>Y (p.e c o) λo=>az i o) <| ba (T.prs.lookup name) (λq=>Vv T p c o q) dead else dead
noncomputable def u6(e:Expr):Option (Expr×Pos×Pos):=(l7 e).bind λx=>(hX x.1).bind λa=>
 if a.2.1="items" /\ x.2.1.isEmpty=true/\x.2.2.1.isEmpty=true/\f8 a.1=true/\(a.2.2.endLine==x.2.2.2.line)=true then some (a.1,a.2.2,x.2.2.2) else none
theorem iC{e:Expr}{x}(h:u6 e=some x):e=.Call (.Attribute x.1 "items" x.2.1) [] [] x.2.2/\f8 x.1=true/\(x.2.1.endLine==x.2.2.line)=true:=aH h λy h1 h=>aH h λa h2 h=>ifk (P:=λx=>e=.Call (.Attribute x.1 "items" x.2.1) [] [] x.2.2/\f8 x.1=true/\(x.2.1.endLine==x.2.2.line)=true) h λhc=>
 ⟨(fT h1).trans (by rw[cQ h2,hc.1,List.isEmpty_iff.mp hc.2.1,List.isEmpty_iff.mp hc.2.2.1]),hc.2.2.2⟩
def tZ(p:Ev)(c:Cx)(e:Expr):M It:=ba (u6 e) (λx=>Y (p.e c x.1) oD) (Y (p.e c e) jq)
noncomputable def Cm(c:Cx)(scope:Scope):Bool:=scope.kind==.function&&c.sc.kind==.function&&decide (scope.names.map (·.1)).Nodup&&scope.names.all (λp=>p.2 != .cell)&&scope.names.all (λp=>p.2 != .free||c.sc.names.lookup p.1==some .cell)
def yN(p:Ev)(c:Cx)(elt iter:Expr)(xn:Str)(ifs:List Expr)(scope:Scope):M V:=if Cm c scope=true/\v5 iter=true then
 ba (placeOf (eK scope c.sc).names xn) (λix=>if (eK scope c.sc).names[ix]?=some (xn,.local)/\ifs.length<=1 then
  yM p.lf c.fn.frz scope c.sc (tZ p c iter) ix (λz=>(ifs.head?).map (p.t (AL c scope z))) (λz=>p.e (AL c scope z) elt)
  else dead) dead
 else dead
def swC(c:Cx)(v:Expr)(t:Expr)(line:Nat):Bool:=ba (r8 (swapsWith v (some t) line (J6 c.sc))) (λb=>b) false
noncomputable def swN(c:Cx)(ts:List Expr)(k:Nat)(q:Pos)(v:Expr):Option (Option (List Str)):=r8 (swappedStores [.Tuple ts k q] v (J6 c.sc))
def y8(p:Ev)(c:Cx)(ts:List Expr)(k:Nat)(q:Pos)(e:Expr):M Fl:=ba (swN c ts k q e) (λo=>ba o (λxs=>ba (q9 c xs) (λis=>Y (p.e c e) λv=>Y (aW is.length v) λvs=>Y (bD (is.reverse.map aE) vs.reverse) λ_=>Z .next) dead) <| ba (o8 c ts) (λms=>Y (p.e c e) λv=>Y (aW ms.length v) λvs=>Y (bD ms vs) λ_=>Z .next) dead) dead
def FW(p:Ev)(c:Cx)(x:Str)(q:Pos)(e elt:Expr)(gs:List Comprehension)(scope:Scope)(sp:Pos):M Fl:=ba (qO gs) (λg=>ba (jZ c x) (λi=>
 if c.sc.names[i]?=some (x,.local)/\swC c e (.Name x q) sp.line=true then Y (yN p c elt g.2.1 g.1.1 g.2.2 scope) λv=>Y (aE i v) λ_=>Z .next else dead) dead) dead
def uH(p:Ev)(c:Cx)(x:Str×Pos)(e:Expr)(sp:Pos):M Fl:=ba (BB e) (λy=>FW p c x.1 x.2 e y.1 y.2.1 y.2.2.1 sp) <| if km e=true then ba (jZ c x.1) (λi=>Y (p.e c e) λv=>Y (aE i v) λ_=>Z .next) dead else dead
def y9(p:Ev)(c:Cx)(t e:Expr)(sp:Pos):M Fl:=ba (cN t) (λx=>uH p c x e sp) <| if km e=true then ba (zr t) (λx=>y8 p c x.1 x.2.1 x.2.2 e) <| ba (Gw t) (λx=>Y (p.e c e) λu=>Y (p.e c x.1) λa=>Y (p.e c x.2.1) λb=>Y (au (a8 c.fn.frz a b u)) λ_=>Z .next) <| ba (hX t) (λx=>ba (aI.idxOf? x.2.1) (λi=>Y (p.e c e) λu=>Y (p.e c x.1) λa=>Y (au (aA c.fn.frz i a u)) λ_=>Z .next) dead) dead else dead
def y6(p:Ev)(c:Cx)(t e:Expr):M Fl:=ba (cN t) (λx=>ba (jZ c x.1) (λi=>if (x.1==("__classdict__" : Str))=false then Y (af i) λa=>Y (p.e c e) λb=>Y (au (dN c.fn.frz a b)) λv=>Y (aE i v) λ_=>Z .next else dead) dead) <| ba (Gw t) (λx=>if iM x.2.1=true then Y (p.e c x.1) λa=>Y (p.e c x.2.1) λk=>Y (av a k) λx=>Y (p.e c e) λy=>Y (au (dN c.fn.frz x y)) λv=>Y (au (a8 c.fn.frz a k v)) λ_=>Z .next else dead) <| ba (hX t) (λx=>ba (aI.idxOf? x.2.1) (λi=>Y (p.e c x.1) λa=>Y (az i a) λx=>Y (p.e c e) λy=>Y (au (dN c.fn.frz x y)) λv=>Y (au (aA c.fn.frz i a v)) λ_=>Z .next) dead) dead
def yy(p:Ev)(c:Cx)(t e:Expr)(b:List Stmt):M Fl:=if v5 e=true then ba (FV c t) (λma=>Ri p.lf t (tZ p c e) ma (λz=>p.b (c.hold z) b) c.fn.frz) <| ba (zr t) (λx=>ba (o8 c x.1) (λms=>Ri p.lf t (tZ p c e) (λv=>Y (aW ms.length v) λvs=>bD ms vs) (λz=>p.b (c.hold z) b) c.fn.frz) dead) dead else dead
def Mp(p:Ev)(c:Cx)(st:Stmt):M Fl:=Stmt.casesOn (motive_2:=λ_=>M Fl) st (λ_ _ _ _ _ _ _ _ _ _=>dead) (λ_ _ _ _ _ _ _ _ _ _=>dead) (λ_ _ _ _ _ _ _ _ _ _ _=>dead) (λv _=>ba v (λe=>Y (p.e c e) λv=>Z (.ret v)) dead) (λ_ _=>dead) (λts e sp=>ba (one ts) (λt=>y9 p c t e sp) dead) (λ_ _ _ _ _ _ _=>dead) (λt op e _=>if op=.Add then y6 p c t e else dead) (λ_ _ _ _ _=>dead) (λt e b o _=>if o=[] then yy p c t e b else dead) (λ_ _ _ _ _=>dead) (λt b o _=>if o=[] then bG p.lf (p.t c t) (p.b c b) else dead) (λt b o _=>Y (p.t c t) λt=>if t then p.b c b else p.b c o) (λ_ _ _=>dead) (λ_ _ _=>dead) (λ_ _ _=>dead) (λ_ _ _=>dead) (λ_ _ _ _ _=>dead) (λ_ _ _ _ _=>dead) (λ_ _ _=>dead) (λ_ _=>dead) (λ_ _ _ _=>dead) (λ_ _=>dead) (λ_ _=>dead) (λe _=>if km e=true then Y (p.e c e) λ_=>Z .next else dead) (λ_=>Z .next) (λ_=>Z .brk) (λ_=>Z .cont)
noncomputable def Xt(p:Ev)(c:Cx):List Stmt->M Fl
 |[]=>Z .next
 |st::r=>ak (Mp p c st) (p.b c r)
def Kh(p:Ev)(c:Cx)(l:Expr)(dZ:List CmpOp)(rs:List Expr):M Bool:=ba (one dZ) (λop=>ba (one rs) (λr=>if behindInMarks op r=false then Y (p.e c l) λa=>Y (p.e c r) λb=>aF op a b else dead) dead) dead
def cV(p:Ev)(c:Cx)(e:Expr):M Bool:=if lx e=true then Y (p.e c e) aD else dead
def L8(p:Ev)(c:Cx)(e:Expr):M Bool:=Expr.casesOn (motive_1:=λ_=>M Bool) e (λop es _=>if op=.And then bv (es.map (p.t c)) else iL (es.map (p.t c))) (λ_ _ _=>cV p c e) (λ_ _ _ _=>cV p c e) (λop e' q=>if op=.Not then Y (p.t c e') λt=>Z (!t) else dead) (λ_ _ _ _=>cV p c e) (λ_ _ _ _=>cV p c e) (λ_ _ _=>cV p c e) (λ_ _ _=>cV p c e) (λ_ _ _ _=>cV p c e) (λ_ _ _ _=>cV p c e) (λ_ _ _ _ _=>cV p c e) (λ_ _ _ _=>cV p c e) (λ_ _=>cV p c e) (λ_ _=>cV p c e) (λ_ _=>cV p c e) (λl dZ rs _=>Kh p c l dZ rs) (λ_ _ _ _=>cV p c e) (λ_ _ _ _=>cV p c e) (λ_ _=>cV p c e) (λ_ _ _=>cV p c e) (λ_ _ _=>cV p c e) (λ_ _ _=>cV p c e) (λ_ _=>cV p c e) (λ_ _=>cV p c e) (λ_ _=>cV p c e) (λ_ _ _=>cV p c e) (λ_ _ _ _=>cV p c e)
noncomputable def EN:Const->M V
 |.int i=>Z (.int i)
 |.str x=>Z (.str x)
 |.none=>Z .none
 |.bool b=>Z (.bool b)
 |_=>dead
def T6(p:Ev)(c:Cx)(o i:Expr):M V:=ba (u5 i) (λx=>ba x.2.2.1 (λ_=>dead) (Y (p.e c o) λa=>Y (cx (Ds p c x.1)) λi=>Y (cx (Ds p c x.2.1)) λj=>au (bY a i j))) <| if iM i=true then Y (p.e c o) λa=>Y (p.e c i) λb=>av a b else dead
def ND(T:fh)(p:Ev)(c:Cx)(f:Expr)(es:List Expr)(pos:Pos):M V:=ba (cN f) (λx=>NC T p c x.1 es) <| ba (hX f) (λx=>Ni T p c x.1 x.2.1 x.2.2 pos es) dead
def Xu(p:Ev)(c:Cx)(l:Expr)(op:Operator)(r:Expr):M V:=ba (if op=.Mod then TS l else none) (λf=>Y (p.e c r) (Dr f.1)) (Y (p.e c l) λa=>Y (p.e c r) λb=>au (bn op a b))
def Nx(T:fh)(p:Ev)(c:Cx)(e:Expr):M V:=Expr.casesOn (motive_1:=λ_=>M V) e (λop es _=>if op=.And then ba (sC es) (λx=>Y (p.e c x.1) λv=>Y (aD v) λt=>if t then p.e c x.2 else Z v) dead else dead) (λ_ _ _=>dead) (λl op r _=>Xu p c l op r) (λop l _=>if op=.USub then Y (p.e c l) g7 else dead) (λ_ _ _ _=>dead) (λt a b _=>Y (p.t c t) λt=>if t then p.e c a else p.e c b) (λks vs _=>if ks.isEmpty=true/\vs.isEmpty=true then au lS else dead) (λ_ _ _=>dead) (λelt gs scope _=>ba (qO gs) (λg=>yN p c elt g.2.1 g.1.1 g.2.2 scope) dead) (λ_ _ _ _=>dead) (λ_ _ _ _ _=>dead) (λ_ _ _ _=>dead) (λ_ _=>dead) (λ_ _=>dead) (λ_ _=>dead) (λl dZ rs _=>Y (Kh p c l dZ rs) λt=>Z (.bool t)) (λf es ks pos=>if ks.isEmpty=true then ND T p c f es pos else dead) (λ_ _ _ _=>dead) (λ_ _=>dead) (λv _ _=>EN v) (λo name _=>NJ T p c o name) (λo i _=>T6 p c o i) (λ_ _=>dead) (λx _=>Ng T c x) (λes _=>if lz es=true then Y (an (es.map (p.e c))) λvs=>au (bt vs) else dead) (λes _ _=>if lz es=true then Y (an (es.map (p.e c))) cR else dead) (λ_ _ _ _=>dead)
noncomputable def ev(T:fh)(X:Ev->Cx->Expr->Option (M V))(Y00:Ev->Cx->List Stmt->Option (M Fl)):Nat->Ev
 |0=>⟨λ_ _=>dead,λ_ _=>dead,λ_ _=>dead,0⟩
 |n+1=>⟨λc e σ=>(X (ev T X Y00 n) c e).getD (Nx T (ev T X Y00 n) c e) σ,λc e σ=>L8 (ev T X Y00 n) c e σ,λc b σ=>(Y00 (ev T X Y00 n) c b).getD (Xt (ev T X Y00 n) c b) σ,T.lf⟩
structure Good(K:Kx)(p:Ev):Prop where
 e:∀F:ck,F.K=K->∀e,aM F e (p.e F.c e)
 t:∀F:ck,F.K=K->∀e,jr F e (p.t F.c e)
 b:∀F:ck,F.K=K->∀b,eF F b (p.b F.c b)
section
variable{α β γ:Type}{R:cY->Heap->α->β->Prop}{F:ck}{W:Wd F}{t:Sem β}{m m':M α}
theorem dg.ba{o:Option γ}{f:γ->M α}(h1:∀a,o=some a->dg R W t (f a))(h2:dg R W t m):dg R W t (ba o f m):=by
 cases o with
 |none=>exact h2
 |some a=>exact h1 a rfl
theorem dg.dead:dg R W t dead:=λ_ hm=>cE hm
theorem dg.get{o:Option γ}{f:γ->M α}(h1:∀a,o=some a->dg R W t (f a)):dg R W t (Internal.ba o f Internal.dead):=.ba h1 .dead
theorem dg.ifs{c:Prop}[Decidable c](h1:c->dg R W t m):dg R W t (if c then m else Internal.dead):=by
 by_cases h:c
 ·rw[q1k h];exact h1 h
 ·rw[q1l h];exact .dead
theorem dg.Rg{δ:Type}{o:Option γ}{f:γ->M δ}{g:δ->M α}(h1:∀a,o=some a->dg R W t (Y (f a) g)):dg R W t (Y (Internal.ba o f Internal.dead) g):=by
 cases o with
 |none=>exact .dead
 |some a=>exact h1 a rfl
theorem dg.QZ{δ:Type}{c:Prop}[Decidable c]{m:M δ}{g:δ->M α}(h1:c->dg R W t (Y m g)):dg R W t (Y (if c then m else Internal.dead) g):=by
 by_cases h:c
 ·rw[q1k h];exact h1 h
 ·rw[q1l h];exact .dead
theorem dg.ite{c:Prop}[Decidable c](h1:c->dg R W t m)(h2:¬c->dg R W t m'):dg R W t (if c then m else m'):=by
 by_cases h:c
 ·rw[q1k h];exact h1 h
 ·rw[q1l h];exact h2 h
end
section
variable{K:Frag}{F:ck}{T:fh}{p:Ev}
theorem iE(G:Good F.K p):∀{es:List Expr},lz es=true->dz F es (es.map (p.e F.c))
 |[],_=>.nil
 |e::es,h=>by
  unfold lz at h;rw[List.all_cons,Bool.and_eq_true] at h;exact .cons ((Bool.not_eq_true' _).mp h.1) (G.e F rfl e) (iE G h.2)
theorem nS(G:Good F.K p):∀{es:List Expr},mG F es (es.map (p.t F.c))
 |[]=>.nil
 |e::es=>.cons (G.t F rfl e) (nS G)
theorem Ey{ts:List Expr}{v:Expr}{env:Env}{sc:Scope}(h:env.scope=sc):swappedStores ts v env=swappedStores ts v (J6 sc):=by subst h;rfl
theorem AE{v:Expr}{t:Option Expr}{l:Nat}{env:Env}{sc:Scope}(h:env.scope=sc):swapsWith v t l env=swapsWith v t l (J6 sc):=by subst h;rfl
theorem dq(h:km e=true)(t:Option Expr)(l:Nat)(env:Env):swapsWith e t l env=pure false:=by
 cases e with
 |ListComp=>exact q1t h q0f
 |SetComp=>exact q1t h q0f
 |DictComp=>exact q1t h q0f
 |_=>rfl
theorem gi{e:Expr}(h:v5 e=true)(env:Env)(x:Value):foldedSetIterable e env x=pure x:=by
 cases e with
 |Set=>exact q1t h q0f
 |_=>rfl
theorem oA{α β:Type}[BEq α][LawfulBEq α]{P:α->β->Prop}{l:List (α×β)}(k:∀q∈l,P q.1 q.2){a:α}{b:β}(h:l.lookup a=some b):P a b:=by
 induction l with
 |nil=>exact cE h
 |cons q r ih=>
  rw[List.lookup_cons] at h;cases hb:a==q.1 with
  |true=>rw[hb] at h;exact eq_of_beq hb▸q0a h▸k q q0g
  |false=>rw[hb] at h;exact ih (λq hq=>k q (q0k _ hq)) h
theorem LW{α:Type}{P:α->Prop}:∀{l:List α},List.foldr (λa r=>P a/\r) True l->∀q∈l,P q
 |_::_,h,q,hq=>(q0m.mp hq).elim (λe=>e▸h.1) (LW h.2 q)
theorem KI{v:Value}{f:Bf}(h:bfs.lookup v=some f):v=f.val:=oA (P:=λv f=>v=Bf.val f) (LW (P:=λq=>q.1=Bf.val q.2) (l:=bfs) ⟨rfl,rfl,rfl,rfl,rfl,rfl,rfl,rfl,rfl,trivial⟩) h
theorem DD{x:Str}{m:Mt}(h:QH.lookup x=some m):x=m.name:=oA (P:=λx m=>x=Mt.name m) (LW (P:=λq=>q.1=Mt.name q.2) (l:=QH) ⟨rfl,rfl,rfl,rfl,rfl,rfl,trivial⟩) h
theorem re{x:Str}{k:NameKind}{names:List (Str×NameKind)}{i:Nat}(nd:(names.map (·.1)).Nodup)(h:names[i]?=some (x,k)):names.lookup x=some k:=bT nd h
theorem gW(h:jZ c x=some i):∃k,c.sc.names[i]?=some (x,k)/\(k=.local\/(k=.cell/\c.fn.fn=true)):=aH h λj h1 h=>aH h λq h2 h=>ifk (P:=λi=>∃k,c.sc.names[i]?=some (x,k)/\(k=.local\/(k=.cell/\c.fn.fn=true))) h λhk=>by
 obtain⟨k,h3⟩:=gZ h1;obtain rfl:=q0a (h3.symm.trans h2);exact⟨k,h3,hk⟩
theorem FT(h:FV F.c t=some m):Bi F t m:=aH h λx h1 h=>mQ (P:=Bi F t) h λi h2=>(gW h2).elim λk q=>aV h1▸LQ q.1 q.2
theorem FS(h:FV c t=some m):isStarred t=false:=aH h λx h1 _=>aV h1▸rfl
theorem r7:∀{ts:List Expr}{ms:List (V->M Unit)},o8 F.c ts=some ms->kQ F ts ms
 |[],_,h=>q0a h▸.nil
 |_::_,_,h=>aH h λ_ h1 h=>mQ h λ_ h2=>.cons (FS h1) (FT h1) (r7 h2)
theorem qi:∀{xs:List Str}{is:List Nat},q9 c xs=some is->kP c xs is
 |[],_,h=>q0a h▸.nil
 |_::_,_,h=>aH h λ_ h1 h=>aH h λ_ h2 h=>ifk h λh3=>.cons h3 (qi h2)
theorem qG(z:List Nat):∀(ts:List Expr),o8 (c.hold z) ts=o8 c ts
 |[]=>rfl
 |t::ts=>by
  show(FV c t).bind (λm=>(o8 (c.hold z) ts).map (m :: ·))=_;rw[qG z ts];rfl
theorem lC(h:aI.idxOf? x=some i):aI[i]?=some x:=by obtain⟨hl,h1,_⟩:=List.findIdx?_eq_some_iff_getElem.mp h;rw[q0h hl,eq_of_beq h1]
theorem y7(h:f8 o=true)(env:Env):eval (.Attribute o name pos) env=(do
 let ov <-eval o env
 standAt pos.atName
 let r <-holding [ov] (getAttr ov name true)
 letTemporaryGo o ov r
 pure r):=by
 rw[arm_eval_Attribute,yX h]
theorem Jj(TK:cZ F.K.B K T){x:Str}{pos:Pos}:aM F (.Name x pos) (Ng T F.c x):=λW=>.get λi hi=>.get λq hq=>by
 obtain⟨k,hk⟩:=gZ hi;obtain rfl:=q0a (hk.symm.trans hq);have nd:(F.c.sc.names.map (·.1)).Nodup:=F.sc▸F.nd;have lo:k=.local\/k=.cell\/k=.free->dg VR W (eval (.Name x pos) F.env) (if (x==("__debug__" : Str))=false/\(x==("__classdict__" : Str))=false then af i else dead):=λh=>.ifs λhd=>Oi hk h hd.1 hd.2 W;cases k with
 | «local» =>exact lo (.inl rfl)
 |cell=>exact lo (.inr (.inl rfl))
 |free=>exact lo (.inr (.inr rfl))
 |globalExplicit=>exact .dead
 |globalImplicit=>exact .get λv hv=>Cg (re nd hk) (TK.glb x v hv).1 (TK.glb x v hv).2.1 (TK.glb x v hv).2.2 W
theorem Good.fb(G:Good F.K p)(F':ck)(h1:F'.K=F.K)(h2:F'.c=bI r k):eF F' r.body (p.b (bI r k) r.body):=h2▸G.b F' h1 r.body
theorem ja(h:Dn n=some k):n=k+1:=by
 cases n with
 |zero=>exact cE h
 |succ n=>exact q0a h▸rfl
theorem lu(h:I4 n=some k):n=k+2:=aH h λj h1 h2=>(ja h1).trans (ja h2▸rfl)
theorem Kr(TK:cZ F.K.B K T)(G:Good F.K p):aM F (.Call (.Name x q) es [] pos) (NC T p F.c x es):=λW=>.ifs λhc=>.get λv hv=>by
 have S:=iE G hc.1;obtain⟨g1,g2,g3⟩:=TK.glb x v hv;refine .ba (λa ha=>.ifs λhz=>?_) (.get λf hf=>?_)
 ·obtain rfl:=zt ha
  refine .ba (λr hr=>.get λk hk=>?_) (.get λf hf=>.get λr hr=>.get λk hk=>?_)
  ·exact Ci hc.2 g1 (of_decide_eq_true g2) g3 hz (ja hk) (TK.fns _ _ hr) TK.lim S G.fb (λ_=>rfl) W
  ·exact Of TK.base.inB (TK.ini _ _ hf).1 hc.2 g1 (TK.ini _ _ hf).2 g3 hz (lu hk) (TK.fns _ _ hr) TK.lim S G.fb (λ_=>rfl) W
 ·obtain rfl:=KI hf
  exact Cj hc.2 g1 g3 S (λ_=>rfl) W
theorem Jq(TK:cZ F.K.B K T)(G:Good F.K p):aM F (.Call (.Attribute o name ap) es [] pos) (Ni T p F.c o name ap pos es):=λW=>.ifs λhc=>by
 have S:=iE G hc.1;refine .ba (λm hm=>?_) (.get λq hq=>.get λr hr=>.get λk hk=>.ifs λhz=>?_)
 ·obtain rfl:=DD hm
  exact G1 (G.e F rfl _) S hc.2.1 hc.2.2.1 hc.2.2.2 W
 ·exact Ce TK.base.inB (TK.mts _ _ _ hq).1 (TK.mts _ _ _ hq).2 hz (ja hk) (TK.fns _ _ hr) TK.lim (G.e F rfl _) S G.fb hc.2.1 hc.2.2.1 hc.2.2.2 W
theorem LM(TK:cZ F.K.B K T)(G:Good F.K p):aM F (.Attribute o name pos) (NJ T p F.c o name):=λW=>.ifs λhb=>
 .ba (λi hi=>Hp TK.base (G.e F rfl _) (lC hi) (y7 hb) W) (.get λq hq=>.get λr hr=>.get λk hk=>.ifs λhz=>
  GV TK.base.inB (TK.prs _ _ _ hq) hz (lu hk) (TK.fns _ _ hr) TK.lim (G.e F rfl _) G.fb (y7 hb) W)
theorem nr(G:Good F.K p){e:Expr}:wV F e (tZ p F.c e):=by
 unfold tZ;cases h:u6 e with
 |some x=>exact(iC h).1▸Cf (G.e F rfl _) (iC h).2.1 (iC h).2.2
 |none=>exact G2 (G.e F rfl _)
theorem xH{c:Cx}{scope:Scope}(h:Cm c scope=true):uN c scope:=by unfold Cm at h;simp only[Bool.and_eq_true,q1v,decide_eq_true_eq,List.all_eq_true,bne_iff_ne,Bool.or_eq_true] at h;exact⟨h.1.1.1.1,h.1.1.1.2,h.1.1.2,h.1.2,λq hq hf=>(h.2 q hq).resolve_left λz=>z hf⟩
theorem QY(G:Good F.K p)(h:ifs.length<=1):gE F ifs ((ifs.head?).map (p.t F.c)):=by
 cases ifs with
 |nil=>exact .none
 |cons t r=>cases r with
  |nil=>exact .one (G.t F rfl _)
  |cons=>exact q1t (Nat.succ_le_succ_iff.mp h) (Nat.not_succ_le_zero _)
theorem Good.to(G:Good F.K p){F':ck}(h:F'.K=F.K):Good F'.K p:=h▸G
theorem Good.ifs(G:Good F.K p){scope:Scope}{ifs:List Expr}(h:ifs.length<=1)(z:List Nat)(F':ck)(h1:F'.K=F.K)(h2:F'.c=AL F.c scope z):gE F' ifs ((ifs.head?).map (p.t (AL F.c scope z))):=h2▸QY (G.to h1) h
theorem Good.elt(G:Good F.K p){scope:Scope}{e:Expr}(z:List Nat)(F':ck)(h1:F'.K=F.K)(h2:F'.c=AL F.c scope z):aM F' e (p.e (AL F.c scope z) e):=h2▸G.e F' h1 e
theorem Kc(G:Good F.K p){elt iter:Expr}{xn:Str}{px pos:Pos}{ifs:List Expr}{scope:Scope}:aM F (.ListComp elt [⟨.Name xn px,iter,ifs,0⟩] scope pos) (yN p F.c elt iter xn ifs scope):=λW=>
 .ifs λhc=>.get λix hx=>.ifs λhi=>G7 (xH hc.1) hi.1 (nr G) (G.ifs hi.2) G.elt (gi hc.2) W
theorem wN(G:Good F.K p){elt iter:Expr}{xn y:Str}{px py pos sp:Pos}{ifs:List Expr}{scope:Scope}{i:Nat}(hy:F.c.sc.names[i]?=some (y,.local))(hs:swC F.c (.ListComp elt [⟨.Name xn px,iter,ifs,0⟩] scope pos) (.Name y py) sp.line=true):fk F (.Assign [.Name y py] (.ListComp elt [⟨.Name xn px,iter,ifs,0⟩] scope pos) sp) (Y (yN p F.c elt iter xn ifs scope) λv=>Y (aE i v) λ_=>Z .next):=λW=>.QZ λhc=>.Rg λix hx=>.QZ λhi=>
 vx (xH hc.1) hy hi.1 (nr G) (G.ifs hi.2) G.elt (gi hc.2) (λenv he=>(oQ hs).elim λb h=>(AE he).trans ((mD h.1).trans (q1s pure h.2))) W
theorem part_of(G:Good F.K p):wU F e (Ds p F.c e):=by
 cases e with
 |none=>exact .absent
 |some e=>exact .part (G.e F rfl _)
theorem EM:aM F (.Constant v k pos) (EN v):=by
 cases v with
 |int=>exact Oj _ _ _
 |str=>exact N9 _ _ _
 |none=>exact G0 _ _
 |bool=>exact G9 _ _ _
 |_=>exact yJ
theorem N4(G:Good F.K p):aM F (.Subscript o i pos) (T6 p F.c o i):=λW=>.ba (λx hx=>by
 obtain⟨a,b,d,q⟩:=x;rw[sy hx];cases d with
 |some=>exact .dead
 |none=>exact Cd (G.e F rfl _) (part_of G) (part_of G) W) (.ifs λh=>G3 (G.e F rfl _) (G.e F rfl _) h W)
theorem Fe(TK:cZ F.K.B K T)(G:Good F.K p):aM F (.Call f es [] pos) (ND T p F.c f es pos):=λW=>
 .ba (λx hx=>aV hx▸Kr TK G W) (.get λx hx=>cQ hx▸Jq TK G W)
theorem KF(G:Good F.K p):aM F (.BinOp l op r pos) (Xu p F.c l op r):=λW=>.ba (λf h=>by
 by_cases ho:op=.Mod
 ·subst ho
  exact zu h▸Od (G.e F rfl _) W
 ·rw[q1l ho] at h;exact cE h) (Oo (G.e F rfl _) (G.e F rfl _) W)
theorem Kg(G:Good F.K p):jr F (.Compare l dZ rs pos) (Kh p F.c l dZ rs):=λW=>.get λop h1=>.get λr h2=>.ifs λh=>
 cy h1▸cy h2▸G8 (G.e F rfl _) (G.e F rfl _) h W
theorem Ke(G:Good F.K p){l:Expr}{dZ:List CmpOp}{rs:List Expr}{pos:Pos}:aM F (.Compare l dZ rs pos) (Y (Kh p F.c l dZ rs) λt=>Z (.bool t)):=λW=>.Rg λop h1=>.Rg λr h2=>.QZ λh=>λc hm=>
 cy h1▸cy h2▸On (G.e F rfl _) (G.e F rfl _) h W c ((q1j (q1s (Y (p.e F.c l)) (funext λa=>funext λs=>dS)) _).symm.trans (dS.symm.trans hm))
theorem J0(TK:cZ F.K.B K T)(G:Good F.K p){e:Expr}:aM F e (Nx T p F.c e):=by
 have E:∀e,aM F e (p.e F.c e):=G.e F rfl;cases e with
 |Constant=>exact EM
 |Name=>exact Jj TK
 |BinOp=>exact KF G
 |UnaryOp op l pos=>exact λW=>.ifs λh=>h▸Og (E _) W
 |Compare=>exact Ke G
 |BoolOp op es pos=>exact λW=>.ifs λh=>.get λx h2=>h▸iD h2▸Hr (E _) (E _) W
 |IfExp=>exact Ol (G.t F rfl _) (E _) (E _)
 |Tuple es k pos=>exact λW=>.ifs λh=>N8 (iE G h) W
 |List es pos=>exact λW=>.ifs λh=>Oh (iE G h) W
 |Dict ks vs pos=>exact λW=>.ifs λh=>List.isEmpty_iff.mp h.1▸List.isEmpty_iff.mp h.2▸G5 W
 |Subscript=>exact N4 G
 |Attribute=>exact LM TK G
 |Call f es ks pos=>exact λW=>.ifs λh=>List.isEmpty_iff.mp h▸Fe TK G W
 |ListComp elt gs scope pos=>exact λW=>.get λg h=>jU h▸Kc G W
 |_=>exact yJ
theorem BJ(G:Good F.K p):jr F e (cV p F.c e):=λW=>.ifs λh=>Cc (G.e F rfl _) h W
theorem GI(G:Good F.K p):jr F e (L8 p F.c e):=by
 cases e with
 |UnaryOp op e pos=>exact λW=>.ifs λh=>h▸GZ (G.t F rfl _) W
 |BoolOp op es pos=>cases op with
  |And=>exact Hq (nS G)
  |Or=>exact Oe (nS G)
 |Compare=>exact Kg G
 |_=>exact BJ G
theorem Bb(G:Good F.K p)(h:km e=true):fk F (.Assign [.Tuple ts k q] e sp) (y8 p F.c ts k q e):=λW=>.get λo ho=>by
 have hw:∀env:Env,env.scope=F.c.sc->swappedStores [.Tuple ts k q] e env=pure o:=λenv he=>(Ey he).trans (mD ho);cases o with
 |none=>exact .get λms hm=>zP (G.e F rfl _) (r7 hm) (dq h _ _) hw W
 |some xs=>exact .get λis hm=>vt (G.e F rfl _) (qi hm) (dq h _ _) hw W
theorem wM(G:Good F.K p):fk F (.Assign [.Name x.1 x.2] e sp) (uH p F.c x e sp):=λW=>
 .ba (λy hy=>.get λg hg=>.get λi hi=>.ifs λhc=>by
  obtain⟨elt,gs,sc,q⟩:=y;obtain rfl:=u8 hy;obtain rfl:=jU hg;exact wN G hc.1 hc.2 W)
 (.ifs λh=>.get λi hi=>(gW hi).elim λk z=>vv (G.e F rfl _) z.1 z.2 (dq h _ _) W)
theorem Bc(TK:cZ F.K.B K T)(G:Good F.K p):fk F (.Assign [t] e sp) (y9 p F.c t e sp):=λW=>
 .ba (λx hx=>aV hx▸wM G W) (.ifs λh=>.ba (λx hx=>kX hx▸Bb G h W) (.ba (λx hx=>pO hx▸vw (G.e F rfl _) (G.e F rfl _) (G.e F rfl _) (dq h _ _) W) (.get λx hx=>.get λi hi=>cQ hx▸vy TK.base (G.e F rfl _) (G.e F rfl _) (lC hi) (dq h _ _) W)))
theorem Ba(TK:cZ F.K.B K T)(G:Good F.K p):fk F (.AugAssign t .Add e sp) (y6 p F.c t e):=λW=>
 .ba (λx hx=>.get λi hi=>.ifs λhd=>(gW hi).elim λk z=>aV hx▸vn (G.e F rfl _) z.1 z.2 hd W)
 (.ba (λx hx=>.ifs λh=>pO hx▸vp (G.e F rfl _) (G.e F rfl _) (G.e F rfl _) h W) (.get λx hx=>.get λi hi=>cQ hx▸vq TK.base (G.e F rfl _) (G.e F rfl _) (lC hi) W))
theorem Ay(G:Good F.K p):fk F (.For t e b [] sp) (yy p F.c t e b):=λW=>.ifs λh=>
 .ba (λma hm=>Ch _ (nr G) (λz=>FT (F:=F.hold z) hm) (λz=>G.b (F.hold z) rfl b) (gi h) W)
 (.get λx hx=>.get λms hm=>kX hx▸Ch _ (nr G) (λz=>FU (r7 (F:=F.hold z) ((qG z _).trans hm))) (λz=>G.b (F.hold z) rfl b) (gi h) W)
theorem GO(TK:cZ F.K.B K T)(G:Good F.K p){st:Stmt}:fk F st (Mp p F.c st):=by
 have E:∀e,aM F e (p.e F.c e):=G.e F rfl;have B:∀b,eF F b (p.b F.c b):=G.b F rfl;cases st with
 |Expr e pos=>exact λW=>.ifs λh=>G4 (E _) (dq h _ _) W
 |Pass=>exact GW
 |Break=>exact Ck
 |Continue=>exact G6
 |Return v pos=>cases v with
  |some=>exact Oc (E _)
  |none=>exact xE
 |If=>exact Un (G.t F rfl _) (B _) (B _)
 |While t b o pos=>exact λW=>.ifs λh=>h▸Cb _ (G.t F rfl _) (B _) W
 |For t e b o pos=>exact λW=>.ifs λh=>h▸Ay G W
 |Assign ts e pos=>exact λW=>.get λt h=>cy h▸Bc TK G W
 |AugAssign t op e pos=>exact λW=>.ifs λh=>h▸Ba TK G W
 |_=>exact xE
theorem RF(TK:cZ F.K.B K T)(G:Good F.K p):eF F b (Xt p F.c b):=by
 cases b with
 |nil=>exact GU
 |cons st r=>exact Ob (GO TK G) (G.b F rfl _)
end
def XOk(K:Kx)(X:Ev->Cx->Expr->Option (M V)):Prop:=∀p,Good K p->∀F:ck,F.K=K->∀e m,X p F.c e=some m->aM F e m
def YOk(K:Kx)(Y00:Ev->Cx->List Stmt->Option (M Fl)):Prop:=∀p,Good K p->∀F:ck,F.K=K->∀b m,Y00 p F.c b=some m->eF F b m
theorem Nv{α:Type}{P:α->Prop}{o:Option α}{d:α}(h1:∀m,o=some m->P m)(h2:P d):P (o.getD d):=by
 cases o with
 |none=>exact h2
 |some m=>exact h1 m rfl
theorem yD{K:Kx}{Kf:Frag}{T:fh}{X:Ev->Cx->Expr->Option (M V)}{Y00:Ev->Cx->List Stmt->Option (M Fl)}(TK:cZ K.B Kf T)(HX:XOk K X)(HY:YOk K Y00):∀n,Good K (ev T X Y00 n)
 |0=>⟨λ_ _ _=>yJ,λ_ _ _=>Xo,λ_ _ _=>Xp⟩
 |n+1=>by
  have G:=yD TK HX HY n;refine⟨λF h e=>?_,λF h e=>?_,λF h b=>?_⟩
  ·exact Nv (P:=λm=>aM F e m) (HX _ G F h e) (J0 (h▸TK) (h▸G))
  ·exact GI (h▸G)
  ·exact Nv (P:=λm=>eF F b m) (HY _ G F h b) (RF (h▸TK) (h▸G))
noncomputable def mj(r:aQ)(mb:M Fl)(bs:List (Str×V)):HM V:=λH=>(mb ⟨H,lF r bs⟩).map λc=>(dX c.1,c.2.H)
structure wT where
 newF:Addr
 rN:aQ
 iniF:Addr
noncomputable def nv:V->Bool
 |.none=>true
 |_=>false
def zN(rN:aQ)(mN:M Fl)(rI:aQ)(mI:M Fl)(u:V):HM V:=λH=>
 (mj rN mN [("cls",.top (.ref aL)),("args",.tup [u]),("kwargs",.ref H.length)] (H++[.dict []])).bind λa=>(vR a.1).bind λn=>(dI a.2 n).bind λc=>
  if c.1=aL then(mj rI mI [("self",.ref n),("initial_value",u),("newline",.str "\n")] a.2).bind λb=>if nv b.1=true then some (.ref n,b.2) else none else none
def ng(i:Nat):M V:=Y (af i) λv=>au λH=>(Gv v).bind λu=>if u=.ref aL then some (.ref H.length,H++[.inst aL bg]) else none
noncomputable def iZ:List V->List V->Option (List V)
 |[],vs=>if vs.isEmpty=true then some [] else none
 |u::us,vs=>(vs.head?).bind λv=>(vI u).bind λa=>(vI v).bind λb=>(iZ us vs.tail).map (.int (a+b) :: ·)
def kY(x y:V):M V:=nZ λ_=>(vT x).bind λus=>(vT y).bind λvs=>(iZ us vs).bind λws=>if ws.length<=100 then some (.tup ws) else none
noncomputable def oL:List (Str×NameKind):=[(".0",.local),("i",.local),("j",.local)]
noncomputable def un(scope:Scope):Bool:=scope.kind==.function&&scope.names==oL&&scope.isGenerator&&!scope.isCoroutine&&scope.more.isEmpty
noncomputable def gB(T:fh)(c:Cx)(x:Str)(v:Value):Bool:=c.sc.names.lookup x==some .globalImplicit&&T.glb.lookup x==some v
theorem ju(h:gB T c x v=true):c.sc.names.lookup x=some .globalImplicit/\T.glb.lookup x=some v:=((Bool.and_eq_true _ _).mp h).imp q1v.mp q1v.mp
def xY(T:fh)(c:Cx)(o:Expr)(nm:Str)(ap:Pos)(es:List Expr)(pos:Pos):Option (M V):=(cN o).bind λon=>(one es).bind λe1=>(cN e1).bind λx=>(placeOf c.sc.names x.1).bind λi=>
 if (on.1="object" /\ nm="__new__" /\ gB T c "object" (.type "object")=true)/\((ap.endLine==pos.line)=true/\(x.1==("__debug__" : Str))=false/\(x.1==("__classdict__" : Str))=false)/\c.sc.names[i]?=some (x.1,.local) then some (ng i) else none
structure F9 where
 g:Expr×List Comprehension×Scope×Pos
 cl:Comprehension
 bo:Expr×Operator×Expr×Pos
 i:Str×Pos
 j:Str×Pos
 tt:List Expr×Nat×Pos
 ij:Expr×Expr
 i':Str×Pos
 j':Str×Pos
 z:Expr×List Expr×List Keyword×Pos
 zn:Str×Pos
 ab:Expr×Expr
structure F9.Ok(e:Expr)(v:F9):Prop where
 g:Gx e=some v.g
 cl:one v.g.2.1=some v.cl
 bo:Gy v.g.1=some v.bo
 i:cN v.bo.1=some v.i
 j:cN v.bo.2.2.1=some v.j
 tt:zr v.cl.target=some v.tt
 ij:sC v.tt.1=some v.ij
 i':cN v.ij.1=some v.i'
 j':cN v.ij.2=some v.j'
 z:l7 v.cl.iter=some v.z
 zn:cN v.z.1=some v.zn
 ab:sC v.z.2.1=some v.ab
noncomputable def WX(e:Expr):Option F9:=(Gx e).bind λg=>(one g.2.1).bind λcl=>(Gy g.1).bind λbo=>(cN bo.1).bind λi=>(cN bo.2.2.1).bind λj=>(zr cl.target).bind λtt=>(sC tt.1).bind λij=>(cN ij.1).bind λi'=>(cN ij.2).bind λj'=>(l7 cl.iter).bind λz=>(cN z.1).bind λzn=>(sC z.2.1).map λab=>⟨g,cl,bo,i,j,tt,ij,i',j',z,zn,ab⟩
theorem JU(h:WX e=some v):F9.Ok e v:=aH h λ_ h1 h=>aH h λ_ h2 h=>aH h λ_ h3 h=>aH h λ_ h4 h=>aH h λ_ h5 h=>aH h λ_ h6 h=>aH h λ_ h7 h=>aH h λ_ h8 h=>aH h λ_ h9 h=>aH h λ_ ha h=>aH h λ_ hb h=>
 mQ (P:=F9.Ok e) h λ_ hc=>⟨h1,h2,h3,h4,h5,h6,h7,h8,h9,ha,hb,hc⟩
def yx(T:fh)(p:Ev)(c:Cx)(x:Str)(e:Expr):Option (M V):=(WX e).bind λv=>
 if (x="tuple" /\ gB T c "tuple" (.type "tuple")=true)/\(v.zn.1="zip" /\ gB T c "zip" (.type "zip")=true)/\(v.i.1="i" /\ v.j.1="j" /\ v.i'.1="i" /\ v.j'.1="j")/\(v.bo.2.1=.Add/\v.cl.ifs.isEmpty=true/\v.cl.is_async=0/\v.z.2.2.1.isEmpty=true)/\(un v.g.2.2.1=true/\isStarred v.ab.1=false/\isStarred v.ab.2=false/\c.cd=.ref jA) then some (Y (p.e c v.ab.1) λx=>Y (p.e c v.ab.2) λy=>kY x y) else none
def xD(T:fh)(S:wT)(p:Ev)(c:Cx)(e:Expr):Option (M V):=(T.fns.lookup S.iniF).bind λrI=>(I4 c.k).map λk=>Y (p.e c e) λu=>au (zN S.rN (p.b (bI S.rN k) S.rN.body) rI (p.b (bI rI k) rI.body) u)
def Ej(T:fh)(S:wT)(p:Ev)(c:Cx)(e:Expr):Option (M V):=(l7 e).bind λx=>if x.2.2.1.isEmpty=true then ba (hX x.1) (λa=>xY T c a.1 a.2.1 a.2.2 x.2.1 x.2.2.2) ((cN x.1).bind λf=>(one x.2.1).bind λe1=>
 if f.1="StringIO" /\ gB T c "StringIO" (.ref aL)=true/\c.fn.frz=[]/\isStarred e1=false then xD T S p c e1 else yx T p c f.1 e1)
 else none
noncomputable def yQ(w:Str):Bool:=w.cps.toList.all λc=>c != 58&&c != 40&&c != 41
noncomputable def gg(x:Str):Bool:=yQ x&&!(x.cps.all (· < 128))&&decide (x.cps.size<=1000)
noncomputable def QD(i:Nat):M Unit:=λσ=>some ((),⟨σ.H,σ.loc.set i none⟩)
def qk(c:Cx)(iS iP iT:Nat):M Fl:=Y (af iS) λo=>Y (af iP) λz=>Y (nZ λH=>(vS z).bind λz=>(cj 5 o H).bind λv=>(vS v).bind λx=>if z=":()" /\ gg x=true then some x else none) λx=>
 Y (au (aA c.fn.frz 5 o (.str x))) λ_=>Y (QD iT) λ_=>Z .next
noncomputable def Y8(e:Expr):Option ((Str×Pos)×(Str×Pos)×(Str×Pos)×Expr×Pos):=(l7 e).bind λx=>(hX x.1).bind λa=>(hX a.1).bind λb=>(cN b.1).bind λn=>(one x.2.1).bind λe1=>
 if x.2.2.1.isEmpty=true then some (n,b.2,a.2,e1,x.2.2.2) else none
theorem sx(h:Y8 e=some x):e=.Call (.Attribute (.Attribute (.Name x.1.1 x.1.2) x.2.1.1 x.2.1.2) x.2.2.1.1 x.2.2.1.2) [x.2.2.2.1] [] x.2.2.2.2:=aH h λy h1 h=>aH h λa h2 h=>aH h λb h3 h=>aH h λn h4 h=>aH h λe1 h5 h=>ifk (P:=λx=>e=.Call (.Attribute (.Attribute (.Name x.1.1 x.1.2) x.2.1.1 x.2.1.2) x.2.2.1.1 x.2.2.1.2) [x.2.2.2.1] [] x.2.2.2.2) h λh6=>by
 rw[fT h1,cQ h2,cQ h3,aV h4,cy h5,List.isEmpty_iff.mp h6]
noncomputable def vDm(e:Expr):Option ((Str×Pos)×(Str×Pos)×(Str×Pos)×Pos):=(l7 e).bind λx=>(hX x.1).bind λa=>(cN a.1).bind λn=>(one x.2.1).bind λe1=>(cN e1).bind λm=>
 if x.2.2.1.isEmpty=true then some (n,a.2,m,x.2.2.2) else none
theorem BA(h:vDm e=some x):e=.Call (.Attribute (.Name x.1.1 x.1.2) x.2.1.1 x.2.1.2) [.Name x.2.2.1.1 x.2.2.1.2] [] x.2.2.2:=aH h λy h1 h=>aH h λa h2 h=>aH h λn h4 h=>aH h λe1 h5 h=>aH h λm h3 h=>ifk (P:=λx=>e=.Call (.Attribute (.Name x.1.1 x.1.2) x.2.1.1 x.2.1.2) [.Name x.2.2.1.1 x.2.2.1.2] [] x.2.2.2) h λh6=>by
 rw[fT h1,cQ h2,aV h4,cy h5,aV h3,List.isEmpty_iff.mp h6]
structure pA where
 t:Str×Pos
 a:(Str×Pos)×(Str×Pos)×(Str×Pos)×Expr×Pos
 d:(Str×Pos)×(Str×Pos)×(Str×Pos)×Pos
 o:Str×Pos
 wc:Str×Pos
 b:(Str×Pos)×(Str×Pos)×(Str×Pos)×Expr×Pos
 t':Str×Pos
 pa:Pos
 pi:Pos
def pA.Ok(b:List Stmt)(v:pA):Prop:=b=[.Assign [.Name v.t.1 v.t.2] (.Call (.Attribute (.Attribute (.Name v.a.1.1 v.a.1.2) v.a.2.1.1 v.a.2.1.2) v.a.2.2.1.1 v.a.2.2.1.2) [.Call (.Attribute (.Name v.d.1.1 v.d.1.2) v.d.2.1.1 v.d.2.1.2) [.Name v.d.2.2.1.1 v.d.2.2.1.2] [] v.d.2.2.2] [] v.a.2.2.2.2) v.pa,.Assign [.Attribute (.Name v.o.1 v.o.2) v.wc.1 v.wc.2] (.Call (.Attribute (.Attribute (.Name v.b.1.1 v.b.1.2) v.b.2.1.1 v.b.2.1.2) v.b.2.2.1.1 v.b.2.2.1.2) [.Name v.t'.1 v.t'.2] [] v.b.2.2.2.2) v.pi]
noncomputable def Qy(s:Stmt):Option ((Str×Pos)×((Str×Pos)×(Str×Pos)×(Str×Pos)×Expr×Pos)×((Str×Pos)×(Str×Pos)×(Str×Pos)×Pos)×Pos):=(Gz s).bind λa1=>(one a1.1).bind λt1=>(cN t1).bind λt=>(Y8 a1.2.1).bind λx1=>(vDm x1.2.2.2.1).map λd=>(t,x1,d,a1.2.2)
noncomputable def Qx(s:Stmt):Option ((Expr×Str×Pos)×(Str×Pos)×((Str×Pos)×(Str×Pos)×(Str×Pos)×Expr×Pos)×(Str×Pos)×Pos):=(Gz s).bind λa2=>(one a2.1).bind λt2=>(hX t2).bind λwc=>(cN wc.1).bind λo=>(Y8 a2.2.1).bind λx2=>(cN x2.2.2.2.1).map λt'=>(wc,o,x2,t',a2.2.2)
noncomputable def MZ(b:List Stmt):Option pA:=(sC b).bind λss=>(Qy ss.1).bind λx=>(Qx ss.2).map λy=>⟨x.1,x.2.1,x.2.2.1,y.2.1,y.1.2,y.2.2.1,y.2.2.2.1,x.2.2.2,y.2.2.2.2⟩
theorem Dt(h:MZ b=some v):pA.Ok b v:=aH h λss h1 h=>aH h λx h2 h=>mQ (P:=pA.Ok b) h λy h3=>by
 have e1:ss.1=.Assign [.Name x.1.1 x.1.2] (.Call (.Attribute (.Attribute (.Name x.2.1.1.1 x.2.1.1.2) x.2.1.2.1.1 x.2.1.2.1.2) x.2.1.2.2.1.1 x.2.1.2.2.1.2) [.Call (.Attribute (.Name x.2.2.1.1.1 x.2.2.1.1.2) x.2.2.1.2.1.1 x.2.2.1.2.1.2) [.Name x.2.2.1.2.2.1.1 x.2.2.1.2.2.1.2] [] x.2.2.1.2.2.2] [] x.2.1.2.2.2.2) x.2.2.2:=
  aH h2 λa1 k1 h=>aH h λt1 k2 h=>aH h λt k3 h=>aH h λx1 k4 h=>mQ (P:=λx=>ss.1=.Assign [.Name x.1.1 x.1.2] (.Call (.Attribute (.Attribute (.Name x.2.1.1.1 x.2.1.1.2) x.2.1.2.1.1 x.2.1.2.1.2) x.2.1.2.2.1.1 x.2.1.2.2.1.2) [.Call (.Attribute (.Name x.2.2.1.1.1 x.2.2.1.1.2) x.2.2.1.2.1.1 x.2.2.1.2.1.2) [.Name x.2.2.1.2.2.1.1 x.2.2.1.2.2.1.2] [] x.2.2.1.2.2.2] [] x.2.1.2.2.2.2) x.2.2.2) h λd k5=>by
   rw[pP k1,cy k2,aV k3,sx k4,BA k5]
 have e2:ss.2=.Assign [.Attribute (.Name y.2.1.1 y.2.1.2) y.1.2.1 y.1.2.2] (.Call (.Attribute (.Attribute (.Name y.2.2.1.1.1 y.2.2.1.1.2) y.2.2.1.2.1.1 y.2.2.1.2.1.2) y.2.2.1.2.2.1.1 y.2.2.1.2.2.1.2) [.Name y.2.2.2.1.1 y.2.2.2.1.2] [] y.2.2.1.2.2.2.2) y.2.2.2.2:=
  aH h3 λa1 k1 h=>aH h λt1 k2 h=>aH h λwc k3 h=>aH h λo k4 h=>aH h λx2 k5 h=>mQ (P:=λy=>ss.2=.Assign [.Attribute (.Name y.2.1.1 y.2.1.2) y.1.2.1 y.1.2.2] (.Call (.Attribute (.Attribute (.Name y.2.2.1.1.1 y.2.2.1.1.2) y.2.2.1.2.1.1 y.2.2.1.2.1.2) y.2.2.1.2.2.1.1 y.2.2.1.2.2.1.2) [.Name y.2.2.2.1.1 y.2.2.2.1.2] [] y.2.2.1.2.2.2.2) y.2.2.2.2) h λt' k6=>by
   rw[pP k1,cy k2,cQ k3,aV k4,sx k5,aV k6]
 exact(iD h1).trans (e1▸e2▸rfl)
abbrev zOk(T:fh)(c:Cx)(v:pA):Prop:=(v.a.1.1="self" /\ v.a.2.1.1="wordchars" /\ v.a.2.2.1.1="maketrans" /\ v.d.1.1="dict" /\ v.d.2.1.1="fromkeys" /\ v.d.2.2.1.1="punctuation_chars" /\ v.t.1="t")/\(v.o.1="self" /\ v.wc.1="wordchars" /\ v.b.1.1="self" /\ v.b.2.1.1="wordchars" /\ v.b.2.2.1.1="translate" /\ v.t'.1="t")/\((v.a.2.2.1.2.endLine==v.a.2.2.2.2.line)=true/\(v.d.2.1.2.endLine==v.d.2.2.2.line)=true/\(v.b.2.2.1.2.endLine==v.b.2.2.2.2.line)=true)/\gB T c "dict" (.type "dict")=true
noncomputable def Jw(c:Cx)(x:Str):Option Nat:=(placeOf c.sc.names x).bind λi=>if c.sc.names[i]?=some (x,.local) then some i else none
theorem lE(h:Jw c x=some i):c.sc.names[i]?=some (x,.local):=aH h λj h1 h=>ifk (P:=λi=>c.sc.names[i]?=some (x,.local)) h λh=>h
noncomputable def Nt(T:fh)(_:Ev)(c:Cx)(b:List Stmt):Option (M Fl):=(MZ b).bind λv=>
 (Jw c "self").bind λiS=>(Jw c "punctuation_chars").bind λiP=>(Jw c "t").bind λiT=>if zOk T c v then some (qk c iS iP iT) else none
set_option genInjectivity true
set_option genSizeOf true
section
variable{prog:Program}{w:World}{A:Around}{E:Value->Shared->Prop}{s:Shared}
theorem oq(hit:s.heap.IsTupleIter it l i)(hl:s.heap.IsTuple l items)(hx:items[i]?=some x)(hQ:∀h',h'.IsTupleIter it l (i+1)->Heap.SameBut it s.heap h'->Q x {s with heap:=h' }):wpAny (model prog w) A (Builtin.SmallTypes.nextOf (.ref it)) Q E s:=by obtain⟨o,ho,hc,hd⟩:=id hit;obtain⟨ol,YF,_,nl,hdl⟩:=hl;unfold Builtin.SmallTypes.nextOf;refine wb (wpAny_callSpecial?_slot (name:=Str.ofString "__next__") hit.typeIs slot_tupleiter_next (q1z slot_tupleiter_next hit.typeIs entry_tupleiter_next ?_ (args_tupleiter_next _)));refine wb (m:=field (.ref it) 0) (q1y ho hd (x:=.ref l) rfl (q1i (KPc.ite_no q0f ?_)));refine wb (q1y ho hd (x:=.int i 0) rfl ?_);refine q1f (q2o YF hdl ?_);simp only[Int.toNat_natCast,hx];refine q1f (wpAny_setField ho hd (by simp) (q1e ⟨x,rfl,q1e (hQ _ ?_ (Heap.SameBut.update ..))⟩));exact⟨_,Heap.get?_update_self _ ho (Obj.isFreed_of_fields (Obj.data_mapFields hd _)),(Obj.cls_mapFields ..).trans hc,by rw[Obj.data_mapFields hd];simp[rawInt]⟩
theorem oo(hh:A.handled=none)(hit:s.heap.IsTupleIter it l i)(hl:s.heap.IsTuple l items)(hx:items[i]?=none)(hE:∀h' e,Heap.ExtBut it s.heap h'->(∃o,h'.get? e=some o/\o.cls=.type "StopIteration")->E (.ref e) {s with heap:=h' }):wpAny (model prog w) A (Builtin.SmallTypes.nextOf (.ref it)) Q E s:=by
 obtain⟨o,ho,hc,hd⟩:=id hit;obtain⟨ol,YF,_,nl,hdl⟩:=hl;unfold Builtin.SmallTypes.nextOf;refine wb (wpAny_callSpecial?_slot (name:=Str.ofString "__next__") hit.typeIs slot_tupleiter_next (q1z slot_tupleiter_next hit.typeIs entry_tupleiter_next ?_ (args_tupleiter_next _)));refine wb (m:=field (.ref it) 0) (q1y ho hd (x:=.ref l) rfl (q1i (KPc.ite_no q0f ?_)));refine wb (q1y ho hd (x:=.int i 0) rfl ?_);refine q1f (q2o YF hdl ?_);simp only[Int.toNat_natCast,hx];refine q1f (wpAny_rule (q1f (wpAny_setField ho hd (by simp) ?_)));show wpAny _ _ (newExc (.type "StopIteration") []>>=_) _ _ _;refine wb ?_;simp only[newExc,newTuple];refine wb (q2a ?_ (by size_fits));refine wb (m:=firstArgMember _ _) (q1g (a:=Value.none) (by first | rfl | (simp only[firstArgMember];rfl)) ?_);refine q2a ?_ (by size_fits);refine wb (m:=handled) (wpAny_handled ?_)
 first | rw[show A.in1.handled=none from hh] | rw[hh]
 refine wb (q1e (wpAny_throw ?_));exact hE _ _ (((Heap.SameBut.update ..).extBut.push _).push _) ⟨_,q0n _ rfl,rfl⟩
theorem BI{M:Model}{α β:Type}{l:List α}{x:α}{b:β}{f:α->β->Sem (ForInStep β)}{Q:β->Shared->Prop}(h:wpAny M A (f x b) (λr s'=>match r with | .done b'=>Q b' s' | .yield b'=>wpAny M A (forIn l b' f) Q E s') E s):wpAny M A (forIn (x::l) b f) Q E s:=by
 rw[List.forIn_cons];refine wb (q1h h (λr s' hr=>?_) λ_ _ e=>e);cases r with
 |done b'=>exact q1e hr
 |yield b'=>exact hr
theorem zq{z TI TO i1 i2 l1 l2:Addr}{k1 k2:Nat}{xs ys:Array Value}{x y a b:Value}{Q:Value->Shared->Prop}(D:ZipApart z TI TO i1 i2 l1 l2)(hz:IsZip s.heap z TI TO .none)(hTI:IsPair s.heap TI (.ref i1) (.ref i2))(Tz:IsPair s.heap TO a b)(h1:s.heap.IsTupleIter i1 l1 k1)(h2:s.heap.IsTupleIter i2 l2 k2)(jL:s.heap.IsTuple l1 xs)(sq:s.heap.IsTuple l2 ys)(hx:xs[k1]?=some x)(hy:ys[k2]?=some y)(hQ:∀h',IsZip h' z TI TO (rawInt s.heap.objs.size)->IsPair h' TO x y->h'.IsTupleIter i1 l1 (k1+1)->h'.IsTupleIter i2 l2 (k2+1)->IsPair h' s.heap.objs.size x y->h'.objs.size=s.heap.objs.size+1->(∀c o,c≠z->c≠TO->c≠i1->c≠i2->s.heap.get? c=some o->h'.get? c=some o)->Q (.ref s.heap.objs.size) {s with heap:=h' }):wpAny (model prog w) A (Builtin.«zip.__next__» ⟨[.ref z],[]⟩) (λfin s'=>∃v,fin=.done (.ret v)/\Q v s') E s:=by
 refine wb (m:=field (.ref z) 2) (q1y hz rfl (x:=.bool false) rfl ?_);refine wb (m:=field (.ref z) 3) (q1y hz rfl (x:=.ref TI) rfl ?_);refine wb (q2o hTI rfl ?_);refine wb (m:=Builtin.SmallTypes.ownedTupleIsFree (.ref z)) (wb (q1y hz rfl (x:=.none) rfl (q1e ?_)));refine q1i (KPc.ite_yes rfl (wb (wpAny_rule ?_)));refine wb (q1y hz rfl (x:=.ref TO) rfl ?_);refine wb (wpAny_setField_rec hz (by simp) λh₁ JI hs₁=>?_);replace JI:IsZip h₁ z TI TO .ellipsis:=JI;refine wb (BI ?_);refine wb (wpAny_onRaise ?_);refine wb (oq (h1.extBut hs₁.extBut D.i1z) (jL.extBut hs₁.extBut D.l1z) hx λh₂ h1₂ hs₂=>q1e ?_);have WM:IsPair h₂ TO a b:=hs₂.extBut _ _ D.TOi1 (hs₁.extBut _ _ D.TOz Tz);refine wb (q2o WM rfl ?_);refine wb (wpAny_updateSeq_pair WM λh₃ Rb hs₃=>?_);replace Rb:IsPair h₃ TO x b:=Rb;refine wb (wpAny_letGo (q1e ?_));refine BI ?_;refine wb (wpAny_onRaise ?_);refine wb (oq (((h2.extBut hs₁.extBut D.i2z).extBut hs₂.extBut D.i12.symm).extBut hs₃.extBut D.TOi2.symm)
  (((sq.extBut hs₁.extBut D.l2z).extBut hs₂.extBut D.l2i1).extBut hs₃.extBut D.l2TO) hy λh₄ h2₄ hs₄=>q1e ?_)
 have WL:IsPair h₄ TO x b:=hs₄.extBut _ _ D.TOi2 Rb;refine wb (q2o WL rfl ?_);refine wb (wpAny_updateSeq_pair WL λh₅ JQ hs₅=>?_);replace JQ:IsPair h₅ TO x y:=JQ;refine wb (wpAny_letGo (q1e (q1e ?_)));refine wb (q2o JQ rfl ?_);refine wb (wpAny_newTuple ?_);have mx:h₅.objs.size=s.heap.objs.size:=by rw[hs₅.1,hs₄.1,hs₃.1,hs₂.1,hs₁.1]
 have hz₅:IsZip h₅ z TI TO .ellipsis:=hs₅.extBut _ _ D.TOz.symm (hs₄.extBut _ _ D.i2z.symm (hs₃.extBut _ _ D.TOz.symm (hs₂.extBut _ _ D.i1z.symm JI)));have hk₅:∀c o,c≠z->c≠TO->c≠i1->c≠i2->s.heap.get? c=some o->h₅.get? c=some o:=λc o c1 c2 c3 c4 e=>
  hs₅.extBut _ _ c2 (hs₄.extBut _ _ c4 (hs₃.extBut _ _ c2 (hs₂.extBut _ _ c3 (hs₁.extBut _ _ c1 e))))
 have h1₅:h₅.IsTupleIter i1 l1 (k1+1):=((h1₂.extBut hs₃.extBut D.TOi1.symm).extBut hs₄.extBut D.i12).extBut hs₅.extBut D.TOi1.symm;have h2₅:h₅.IsTupleIter i2 l2 (k2+1):=h2₄.extBut hs₅.extBut D.TOi2.symm;have Wq:z<h₅.objs.size:=q0s hz₅;refine wb (m:=Builtin.SmallTypes.ownedTupleHandOut (.ref z) (.ref h₅.objs.size)) ?_;have hz₆:IsZip (h₅.push {cls:=.type "tuple",data:=.seq #[x,y]}) z TI TO .ellipsis:=q0p _ hz₅;refine wb (wpAny_setField_rec hz₆ (by simp) λh₇ ZP hs₇=>?_);replace ZP:IsZip h₇ z TI TO (rawInt h₅.objs.size):=ZP;refine wpAny_setField_rec ZP (by simp) λh₈ YC hs₈=>?_;replace YC:IsZip h₈ z TI TO (rawInt h₅.objs.size):=YC;have up:∀c o,c≠z->h₅.get? c=some o->h₈.get? c=some o:=λc o c1 e=>hs₈.extBut _ _ c1 (hs₇.extBut _ _ c1 (q0p _ e));have hT₈:IsPair h₈ h₅.objs.size x y:=hs₈.extBut _ _ (q1d Wq) (hs₇.extBut _ _ (q1d Wq) (q0n _ rfl));have hz8:h₈.objs.size=h₅.objs.size+1:=by rw[hs₈.1,hs₇.1,Heap.size_push]
 rw[mx] at YC hT₈ hz8;refine q1e ⟨_,rfl,?_⟩;show Q (.ref h₅.objs.size) _;rw[mx];exact hQ h₈ YC (up _ _ D.TOz JQ) (h1₅.at λo e=>up _ o D.i1z e) (h2₅.at λo e=>up _ o D.i2z e) hT₈ hz8 λc o c1 c2 c3 c4 e=>up c o c1 (hk₅ c o c1 c2 c3 c4 e)
theorem Bo{z TI TO i1 i2 l1 l2:Addr}{k1:Nat}{xs:Array Value}{Q:Fin->Shared->Prop}(hh:A.handled=none)(D:ZipApart z TI TO i1 i2 l1 l2)(hz:IsZip s.heap z TI TO .none)(hTI:IsPair s.heap TI (.ref i1) (.ref i2))(h1:s.heap.IsTupleIter i1 l1 k1)(jL:s.heap.IsTuple l1 xs)(a0c:xs[k1]?=none)(hE:∀h' e,(∀c o,c≠z->c≠TO->c≠i1->c≠i2->s.heap.get? c=some o->h'.get? c=some o)->(∃o,h'.get? e=some o/\o.cls=.type "StopIteration")->E (.ref e) {s with heap:=h' }):wpAny (model prog w) A (Builtin.«zip.__next__» ⟨[.ref z],[]⟩) Q E s:=by
 refine wb (m:=field (.ref z) 2) (q1y hz rfl (x:=.bool false) rfl ?_);refine wb (m:=field (.ref z) 3) (q1y hz rfl (x:=.ref TI) rfl ?_);refine wb (q2o hTI rfl ?_);refine wb (m:=Builtin.SmallTypes.ownedTupleIsFree (.ref z)) (wb (q1y hz rfl (x:=.none) rfl (q1e ?_)));refine q1i (KPc.ite_yes rfl (wb (wpAny_rule ?_)));refine wb (q1y hz rfl (x:=.ref TO) rfl ?_);refine wb (wpAny_setField_rec hz (by simp) λh₁ JI hs₁=>?_);replace JI:IsZip h₁ z TI TO .ellipsis:=JI;refine wb (BI ?_);refine wb (wpAny_onRaise ?_);refine wb (oo hh (h1.extBut hs₁.extBut D.i1z) (jL.extBut hs₁.extBut D.l1z) a0c λh₂ e hs₂ he=>?_);obtain⟨oe,Tu,YR⟩:=he;have hz₂:IsZip h₂ z TI TO .ellipsis:=hs₂ _ _ D.i1z.symm JI;have hez:e≠z:=λx=>by subst x;rw[hz₂] at Tu;(first | subst Tu | (obtain⟨rfl,rfl⟩:=Wn Tu) | (obtain rfl:=D9 Tu) | cases Tu);simp at YR
 exact wpAny_setField_rec hz₂ (by simp) λh₃ _ hs₃=>hE h₃ e (λc o c1 _ c3 _ x=>hs₃.extBut _ _ c1 (hs₂ _ _ c3 (hs₁.extBut _ _ c1 x))) ⟨oe,hs₃.extBut _ _ hez Tu,YR⟩
structure Ya(z TI TO i1 i2 l1 l2:Addr)(xs ys:Array Value)(m:Value)(k:Nat)(h:Heap):Prop where
 z:IsZip h z TI TO m
 ti:IsPair h TI (.ref i1) (.ref i2)
 to:∃a b,IsPair h TO a b
 i1:h.IsTupleIter i1 l1 k
 i2:h.IsTupleIter i2 l2 k
 l1:h.IsTuple l1 xs
 l2:h.IsTuple l2 ys
theorem rl(h:c∉[a,b,d,e]):c≠a/\c≠b/\c≠d/\c≠e:=⟨λx=>h (x▸.head _),λx=>h (x▸.tail _ (.head _)),λx=>h (x▸.tail _ (.tail _ (.head _))),λx=>h (x▸.tail _ (.tail _ (.tail _ (.head _))))⟩
theorem V2(h1:c≠a)(h2:c≠b)(h3:c≠d)(h4:c≠e):c∉[a,b,d,e]:=λh=>
 (q0m.mp h).elim h1 λh=>(q0m.mp h).elim h2 λh=>(q0m.mp h).elim h3 λh=>(q0m.mp h).elim h4 q2c
theorem WalksT.Y3(hh:A.handled=none)(z TI TO i1 i2 l1 l2:Addr)(D:ZipApart z TI TO i1 i2 l1 l2)(xs ys:Array Value)(ZU:xs.size=ys.size):WalksT prog w A z [z,TI,TO,i1,i2,l1,l2] [z,TO,i1,i2] xs.size (λi u3=>∃x y,xs[i]?=some x/\ys[i]?=some y/\u3=#[x,y]) (Ya z TI TO i1 i2 l1 l2 xs ys .none) (λi T h=>Ya z TI TO i1 i2 l1 l2 xs ys (rawInt T) (i+1) h/\T∉[z,TO,i1,i2]) where
 sub:=q2p.mpr ⟨.head _,q2p.mpr ⟨.tail _ (.tail _ (.head _)),q2p.mpr ⟨.tail _ (.tail _ (.tail _ (.head _))),q2p.mpr ⟨.tail _ (.tail _ (.tail _ (.tail _ (.head _)))),λ_ h=>nomatch h⟩⟩⟩⟩
 frame:=λi h h' S hk=>by
  obtain⟨k1,hk⟩:=q2p.mp hk;obtain⟨k2,hk⟩:=q2p.mp hk;obtain⟨k3,hk⟩:=q2p.mp hk;obtain⟨k4,hk⟩:=q2p.mp hk;obtain⟨k5,hk⟩:=q2p.mp hk;obtain⟨k6,hk⟩:=q2p.mp hk;have k7:=(q2p.mp hk).1;exact⟨k1 _ S.z,k2 _ S.ti,S.to.imp λ_=>Exists.imp λ_=>k3 _,S.i1.at k4,S.i2.at k5,S.l1.at k6,S.l2.at k7⟩
 item:=λi s Q E hi S hQ=>by
  have hiy:i<ys.size:=Nat.lt_of_lt_of_eq hi ZU;have hT:s.TypeIs (.ref z) "zip" :=⟨_,S.z,rfl⟩
  obtain⟨a,b,Tz⟩:=S.to;have lt:∀{c o},s.heap.get? c=some o->s.heap.objs.size≠c:=λe=>q1d (q0s e);unfold pyNext;refine wb (wpAny_attempt (wpAny_callSpecial?_slot (name:=Str.ofString "__next__") hT PySem.F.slot_zip_next
   (q1z PySem.F.slot_zip_next hT PySem.F.entry_zip_next (zq D S.z S.ti Tz S.i1 S.i2 S.l1 S.l2 (q0o hi) (q0o hiy) λh' a1 a2 a3 a4 a5 a6 hk=>q1e ?_) (PySem.F.args_zip_next_1 _))))
  exact hQ s.heap.objs.size #[xs[i],ys[i]] h' s.toks ⟨_,_,q0o hi,q0o hiy,rfl⟩ (q0c _) ⟨_,a5,rfl,_,rfl⟩ ⟨⟨a1,hk _ _ D.TIz D.TITO D.TIi1 D.TIi2 S.ti,⟨_,_,a2⟩,a3,a4,S.l1.at λo e=>hk _ o D.l1z D.l1TO D.l1i1 D.l1i2 e,S.l2.at λo e=>hk _ o D.l2z D.l2TO D.l2i1 D.l2i2 e⟩,V2 (lt S.z) (lt Tz) (S.i1.elim λ_ e=>lt e.1) (S.i2.elim λ_ e=>lt e.1)⟩ λc o hc e=>hk c o (rl hc).1 (rl hc).2.1 (rl hc).2.2.1 (rl hc).2.2.2 e
 go:=λelts k pos i T s Q E S hQ=>by
  obtain⟨S,_⟩:=S;obtain⟨a,b,Tz⟩:=S.to;exact wpAny_letOwnedTupleGo_zip S.z λh' ZT hs'=>hQ h' ⟨ZT,hs'.extBut _ _ D.TIz S.ti,⟨a,b,hs'.extBut _ _ D.TOz Tz⟩,S.i1.extBut hs'.extBut D.i1z,S.i2.extBut hs'.extBut D.i2z,S.l1.extBut hs'.extBut D.l1z,S.l2.extBut hs'.extBut D.l2z⟩ λc o hc e=>hs'.extBut _ _ (rl hc).1 e
 apart:=λi T h S=>S.2
 done:=λs Q E S hQ=>by
  have hT:s.TypeIs (.ref z) "zip" :=⟨_,S.z,rfl⟩
  unfold pyNext;refine wb (wpAny_attempt (wpAny_callSpecial?_slot (name:=Str.ofString "__next__") hT PySem.F.slot_zip_next (q1z PySem.F.slot_zip_next hT PySem.F.entry_zip_next (Bo hh D S.z S.ti S.i1 S.l1 (Array.getElem?_eq_none (q0c _)) λh' e hk he=>?_) (PySem.F.args_zip_next_1 _))))
  obtain⟨o,ho,hc⟩:=he;exact wb (wpAny_isInstance (T:="StopIteration") (b:=true) ⟨o,ho,hc⟩ isSubtype_stop (q1e (hQ _ s.toks λc o hc e=>hk c o (rl hc).1 (rl hc).2.1 (rl hc).2.2.1 (rl hc).2.2.2 e)))
 self:=λi s Q E S hQ=>wpAny_pyIter_zip S.z hQ
end
section
variable{prog:Program}{w:World}{A:Around}{E:Value->Shared->Prop}{s:Shared}
noncomputable abbrev Yq(h:Heap)(l1:Addr):Heap:=h.push {cls:=.type "tuple_iterator",data:=.fields #[.ref l1,.int 0 0]}
noncomputable abbrev Yp(h:Heap)(l1 l2:Addr):Heap:=(Yq h l1).push {cls:=.type "tuple_iterator",data:=.fields #[.ref l2,.int 0 0]}
noncomputable abbrev Yo(h:Heap)(l1 l2:Addr):Heap:=(Yp h l1 l2).push {cls:=.type "tuple",data:=.seq #[.ref h.objs.size,.ref (Yq h l1).objs.size]}
noncomputable abbrev Yn(h:Heap)(l1 l2:Addr):Heap:=(Yo h l1 l2).push {cls:=.type "tuple",data:=.seq #[.none,.none]}
noncomputable abbrev NM(h:Heap)(l1 l2:Addr):Heap:=(Yn h l1 l2).push {cls:=.type "zip",data:=.fields #[.none,.bool false,.bool false,.ref (Yp h l1 l2).objs.size,.ref (Yo h l1 l2).objs.size]}
theorem wa(l1 l2:Addr)(xs ys:Array Value):Meets (Builtin.«zip.__new__» ⟨[.type "zip",.ref l1,.ref l2],[]⟩) (λ_ R s=>s.heap.IsTuple l1 xs/\s.heap.IsTuple l2 ys/\R (.ok (.ret (.ref (Yn s.heap l1 l2).objs.size))) {s with heap:=NM s.heap l1 l2}):=.of_wp λprog w A R s h=>by
 obtain⟨hp,g,d,tk,os⟩:=s;obtain⟨jL,sq,h⟩:=h;have hsub:=sub_zip;have hL1:Heap.IsTuple (Shared.heap ⟨hp,g,d,tk,os⟩) l1 xs:=jL;have hL2:Heap.IsTuple (Shared.heap ⟨hp.push {cls:=.type "tuple_iterator",data:=.fields #[.ref l1,.int 0 0]},g,d,tk,os⟩) l2 ys:=Heap.IsTuple.push sq _
 wp_walk using wpAny_pyIter_tuple hL1,wpAny_pyIter_tuple hL2
 exact⟨_,rfl,h⟩
theorem AS(jL:s.heap.IsTuple l1 xs)(sq:s.heap.IsTuple l2 ys)(h:∀h',IsZip h' (s.heap.objs.size+4) (s.heap.objs.size+2) (s.heap.objs.size+3) .none->IsPair h' (s.heap.objs.size+2) (.ref s.heap.objs.size) (.ref (s.heap.objs.size+1))->IsPair h' (s.heap.objs.size+3) .none .none->h'.IsTupleIter s.heap.objs.size l1 0->h'.IsTupleIter (s.heap.objs.size+1) l2 0->h'.objs.size=s.heap.objs.size+5->(∀c o,s.heap.get? c=some o->h'.get? c=some o)->Q (.ref (s.heap.objs.size+4)) {s with heap:=h' }):wpAny (model prog w) A (call (.type "zip") [.ref l1,.ref l2]) Q E s:=by
 refine callType_new PySem.F.called_zip (by decide) (PySem.F.typeCall_zip_2 _ _) (PySem.F.newCall_zip_2 _ _) (λobj=>PySem.F.args_object_init_3 obj _ _) PySem.F.entry_zip_new (wa l1 l2 xs ys) ⟨jL,sq,?_⟩
 have z1:(Yq s.heap l1).objs.size=s.heap.objs.size+1:=Heap.size_push ..;have z2:(Yp s.heap l1 l2).objs.size=s.heap.objs.size+2:=by rw[Heap.size_push,z1]
 have z3:(Yo s.heap l1 l2).objs.size=s.heap.objs.size+3:=by rw[Heap.size_push,z2]
 have z4:(Yn s.heap l1 l2).objs.size=s.heap.objs.size+4:=by rw[Heap.size_push,z3]
 have z5:(NM s.heap l1 l2).objs.size=s.heap.objs.size+5:=by rw[Heap.size_push,z4]
 have p:∀{h:Heap}{o:Obj}{a:Addr}{ob:Obj},h.get? a=some ob->(h.push o).get? a=some ob:=λe=>q0p _ e;have g5:(NM s.heap l1 l2).get? (Yn s.heap l1 l2).objs.size=some _:=q0n _ rfl;have g4:(NM s.heap l1 l2).get? (Yo s.heap l1 l2).objs.size=some _:=p (q0n _ rfl);have g3:(NM s.heap l1 l2).get? (Yp s.heap l1 l2).objs.size=some _:=p (p (q0n _ rfl));have g2:(NM s.heap l1 l2).get? (Yq s.heap l1).objs.size=some _:=p (p (p (q0n _ rfl)));have g1:(NM s.heap l1 l2).get? s.heap.objs.size=some _:=p (p (p (p (q0n _ rfl))));show _/\_;rw[z2,z3,z4] at g5;rw[z1,z2] at g3;rw[z3] at g4;rw[z1] at g2;rw[z4];exact⟨⟨_,g5,rfl⟩,h _ g5 g3 g4 ⟨_,g1,rfl,rfl⟩ ⟨_,g2,rfl,rfl⟩ z5 λc o x=>p (p (p (p (p x))))⟩
end
structure jn(B:Heap):Prop where
 Ty:B.get? bw=none
 blt:∃mg bm o,B.Ns mainGlobals mg/\mg "__builtins__" = some (.ref bm)/\bm≠builtinsNs/\B.get? bm=some o/\o.cls=.type "module" /\ o.dict=some builtinsNs/\o.data=.plain
 lim:B.NoLimit
section
variable{F:ck}{W:Wd F}{h':Heap}{v:V}{x:Value}{s':Shared}
theorem Wd.L9(W:Wd F)(Ty:F.K.B.get? bw=none)(k:∀b o,b≠bw->W.s.heap.get? b=some o->h'.get? b=some o)(hs:W.s.heap.objs.size<=h'.objs.size)(T:fj h'):FR F.K F.env W.ρ W.σ h'/\jm W.s.heap h':=by
 have im:jm W.s.heap h':=λb o e ci=>k b o (λe'=>W.fr.tab.tJ.not (e'▸e) ci) e;have own:∀{n:Nat}{p:Addr×Addr},W.ρ[n]?=some p->p.1≠bw/\p.2≠bw:=λe=>⟨(W.eM (dJ.at e).1).2.2.1,(W.eM (dJ.at e).2).2.2.1⟩
 have R:=W.fr.hr;exact⟨W.fr.upd (.refl _) im ⟨R.len,λn o p e f=>(R.obj n o p e f).mono im (.refl _) (λx=>k _ x (own f).1) (λx=>k _ x (own f).2),R.sep,R.hi,λb o e=>k b o (λe'=>cE (Ty.symm.trans ((q1s F.K.B.get? e'.symm).trans e))) (R.stays b o e),q0d R.low hs,R.big⟩
  (k _ · (W.fr.loc.elim λ_ m=>(F.nT m.1.above).1)) (λx c e o=>k c o (F.nT (W.fr.celO x c e).low).1) (λ_=>.inl) T,im⟩
theorem eT.tab(k:∀b o,b≠bw->s.heap.get? b=some o->s'.heap.get? b=some o)(hs:s.heap.objs.size<=s'.heap.objs.size)(zA:∀vs,s.heap.get? bw=some {cls:=.none,data:=.fields vs}->∃more,s'.heap.get? bw=some {cls:=.none,data:=.fields (vs++more)})(os:s'.os=s.os):eT F.c.fn F.env ρ s ρ s':=⟨.refl _,λa o e _ _ h3=>k a o h3 e,λ_ _=>.inl,zA,os,hs⟩
theorem uo(GB:jn F.K.B)(W:Wd F)(hc:F.c.cd=.ref jA)(q:∀code (W':Wd F),W'.ρ=W.ρ->W'.σ=W.σ->W.Le W'->(∀b o,b≠bw->W.s.heap.get? b=some o->W'.s.heap.get? b=some o)->W'.s.gens=W.s.gens->Q code W'.s):F.wp (genexprCode F.env pos qn scope) Q W.s:=by
 have Gi:F.env.code=.ref jA:=F.cd.trans hc;obtain⟨ps,t1,t2⟩:=W.fr.tab;cases hf:codeAmong pos ps.toList with
 |some cv=>exact wpAny_genexprCode_hit Gi t1 hf (q cv W rfl rfl .refl (λ_ _ _ e=>e) rfl)
 |none=>
  refine bK (q0c _) (wpAny_genexprCodeX Gi t1 t2 hf λc' h' tk ext _ _ t1' _ t2' _ mx=>?_);refine q _ ⟨W.ρ,W.σ,{W.s with heap:=h',toks:=tk},(W.L9 GB.Ty ext mx ⟨_,t1',t2'⟩).1,W.bare⟩ rfl rfl (.tab (F:=F) ext mx (λvs e=>?_) rfl) ext rfl;obtain rfl:vs=ps:=Data.fields.inj (q1s Obj.data (q0a (e.symm.trans t2.2)));exact⟨_,t2'.2⟩
theorem w0(h:vI v=some i):v=.int i:=by
 cases v with
 |int=>exact q0a h▸rfl
 |_=>exact cE h
theorem eE:∀{vs ws:List V},iZ us vs=some ws->us.length=ws.length/\vs.length=ws.length/\∀(i:Nat) x y,us[i]?=some x->vs[i]?=some y->∃m n:Int,x=.int m/\y=.int n/\ws[i]?=some (.int (m+n)):=by
 induction us with
 |nil=>
  intro vs ws h;exact ifk (P:=λws=>([]:List V).length=ws.length/\vs.length=ws.length/\_) h λh=>⟨rfl,q1s List.length (List.isEmpty_iff.mp h),λi x y e=>cE (e:none=some x)⟩
 |cons u us ih=>
  intro vs ws h;refine aH h λv h1 h=>aH h λa h2 h=>aH h λb h3 h=>?_;cases vs with
  |nil=>exact cE h1
  |cons v' vs=>
   refine mQ (P:=λws=>(u::us).length=ws.length/\(v'::vs).length=ws.length/\∀(i:Nat) x y,(u::us)[i]?=some x->(v'::vs)[i]?=some y->∃m n:Int,x=.int m/\y=.int n/\ws[i]?=some (.int (m+n))) h λr h4=>?_;obtain⟨i1,i2,i3⟩:=ih h4;refine⟨q1s Nat.succ i1,q1s Nat.succ i2,λi x y e f=>?_⟩;cases i with
   |zero=>exact⟨a,b,(q0a e).symm.trans (w0 h2),(q0a f).symm.trans ((q0a h1).trans (w0 h3)),rfl⟩
   |succ i=>exact i3 i x y e f
end
set_option genInjectivity false
set_option genSizeOf false
theorem S6(n l1 l2:Nat)(h1:l1<n)(h2:l2<n):ZipApart (n+4) (n+2) (n+3) n (n+1) l1 l2:=by constructor<;>(show @Ne Nat _ _;lia)
theorem Wa(hk:k<5)(hm:n+5<=m):n+k<m:=q0l (Nat.add_lt_add_left hk n) hm
theorem X8{p:Nat->Prop}:∀b∈([]:List Nat),p b:=λ_ h=>q1t h q2c
theorem kN{p:Nat->Prop}{a:Nat}{l:List Nat}(h:p a)(t:∀b∈l,p b):∀b∈a::l,p b:=q2p.mpr ⟨h,t⟩
theorem in7(n m l1 l2:Nat)(h1:l1<n)(h2:l2<n)(hm:n+5<=m):∀b∈([n+4,n+2,n+3,n,n+1,l1,l2]:List Nat),b<m:=have lo:∀{k},k<n->k<m:=λh=>q0l h (q0d (q0u n 5) hm)
 kN (Wa (by decide) hm) (kN (Wa (by decide) hm) (kN (Wa (by decide) hm) (kN (Wa (k:=0) (by decide) hm) (kN (Wa (by decide) hm) (kN (lo h1) (kN (lo h2) X8))))))
theorem in4(n z:Nat)(h:z<n):z∉([n+4,n+3,n,n+1]:List Nat):=λhb=>kN (p:=λb=>z≠b) (q0t (Nat.lt_add_right 4 h)) (kN (q0t (Nat.lt_add_right 3 h)) (kN (q0t h) (kN (q0t (Nat.lt_add_right 1 h)) X8))) z hb rfl
theorem in5(n m z:Nat)(h:z<n)(hm:n+5<=m):z∉([m,n+4,n+3,n,n+1]:List Nat):=λhb=>kN (p:=λb=>z≠b) (q0t (q0l h (q0d (q0u n 5) hm))) (λb hb e=>in4 n z h (e▸hb)) z hb rfl
theorem inR(ga m t:Nat)(h1:m<ga)(h2:t=ga+1):∀b∈(ga::m::List.range m),b<t:=have lo:∀{k},k<=ga->k<t:=λh=>h2▸Nat.lt_succ_of_le h
 kN (lo (q0c _)) (kN (lo (q1b h1)) λ_ h=>lo (q1b (Nat.lt_trans (q1m.mp h) h1)))
theorem um(h:un scope=true):scope.kind=.function/\scope.names=oL/\scope.isCoroutine=false:=by unfold un at h;simp only[Bool.and_eq_true,q1v,Bool.not_eq_true'] at h;exact⟨h.1.1.1.1,h.1.1.1.2,h.1.2⟩
theorem tG(n:Nat):passing (λ_=>true) n 0=List.range n:=by unfold passing;simp
abbrev TH(xs ys:Array Value)(i:Nat)(u3:Array Value):Prop:=∃x y,xs[i]?=some x/\ys[i]?=some y/\u3=#[x,y]
abbrev Gp(ws:List V)(i:Nat)(y:Value):Prop:=∃(u:Int)(t:Tok),ws[i]?=some (.int u)/\y=.int u t
section
variable{prog:Program}{w:World}{scope:Scope}{cl:List (Str×Addr)}{n:Nat}{code:Value}{bi:Addr}{env:Env}{pi pj pb:Pos}{fp wr:List Addr}{xs ys:Array Value}{us vs ws:List V}{ρ:cY}{h:Heap}
structure Bh(ρ:cY)(h:Heap)(us vs ws:List V)(l1 l2:Addr)(xs ys:Array Value):Prop where
 hw:iZ us vs=some ws
 t1:h.IsTuple l1 xs
 v1:bE ρ h us xs.toList
 t2:h.IsTuple l2 ys
 v2:bE ρ h vs ys.toList
theorem Bh.len(Z00:Bh ρ h us vs ws l1 l2 xs ys):xs.size=ws.length/\ys.size=ws.length:=⟨Z00.v1.length.symm.trans (eE Z00.hw).1,Z00.v2.length.symm.trans (eE Z00.hw).2.1⟩
theorem Bh.sum{l1 l2:Addr}(Z00:Bh ρ h us vs ws l1 l2 xs ys){i:Nat}{x y:Value}(ex:xs[i]?=some x)(ey:ys[i]?=some y):∃(m k:Int)(t t':Tok),x=.int m t/\y=.int k t'/\ws[i]?=some (.int (m+k)):=by have hi:i<xs.size:=(Array.getElem?_eq_some_iff.mp ex).1;have h1:i<us.length:=Nat.lt_of_lt_of_eq hi Z00.v1.length.symm;have h2:i<vs.length:=Nat.lt_of_lt_of_eq hi (Z00.v1.length.symm.trans ((eE Z00.hw).1.trans (eE Z00.hw).2.1.symm));have gx:=q0h h1;have gy:=q0h h2;obtain⟨m,k,e1,e2,e3⟩:=(eE Z00.hw).2.2 i _ _ gx gy;obtain⟨x',fx,rx⟩:=Z00.v1.get gx;obtain⟨y',fy,ry⟩:=Z00.v2.get gy;obtain rfl:=q0a (fx.symm.trans (q2i.trans ex));obtain rfl:=q0a (fy.symm.trans (q2i.trans ey));rw[e1] at rx;rw[e2] at ry;obtain⟨t,rfl⟩:=rx.int_inv;obtain⟨t',rfl⟩:=ry.int_inv;exact⟨m,k,t,t',rfl,rfl,e3⟩
theorem Ax{l1 l2:Addr}{Eg:Heap}(sk:scope.kind=.function)(sn:scope.names=oL)(Z00:Bh ρ h us vs ws l1 l2 xs ys):QuietGenT prog w (genEnv scope cl n code bi env) "i" "j" [] (.BinOp (.Name "i" pi) .Add (.Name "j" pj) pb) fp wr (TH xs ys) (λ_=>true) (Gp ws) Eg:=by refine⟨λA' E' i va vb s₂ m₂ _ _ _ _ _ _=>q1e ⟨rfl,s₂.heap,s₂.toks,rfl,λ_ _ e=>e⟩,λA' E' i va vb s₂ m₂ hA' hP _ hn ha hb _=>?_⟩;obtain⟨x,y,ex,ey,exy⟩:=hP;obtain⟨m,k,t,t',rfl,rfl,e3⟩:=Z00.sum ex ey;obtain rfl:va=.int m t:=q0a (q1s (·[0]?) exy);obtain rfl:vb=.int k t':=q0a (q1s (·[1]?) exy);clear exy ex ey Z00;refine wpAny_BinOp (wpAny_Name (wpAny_loadName_local sk (by show scope.names.lookup _=_;rw[sn];rfl) hn ha ?_) (by decide));refine wpAny_Name (wpAny_loadName_local sk (by show scope.names.lookup _=_;rw[sn];rfl) hn hb ?_) (by decide);exact wpAny_add_int ⟨⟨m+k,_,e3,rfl⟩,s₂.heap,_,rfl,λ_ _ e=>e⟩
theorem zo(hm:m=ws.length)(Em:ItemsOf (λj y=>∃i,(List.range m)[j]?=some i/\Gp ws i y) acc (List.range m).length):bE ρ h ws acc.toList:=by
 obtain⟨h1,h2⟩:=Em;rw[List.length_range] at h1;refine bE.of_get (hm.symm.trans h1.symm) λi v y e f=>?_;obtain⟨i',e1,u,tu,e2,e3⟩:=h2 i y (q2i.symm.trans f);obtain rfl:i'=i:=by have hi:=(q0b.mp e1).1;rw[q0h hi,List.getElem_range] at e1;exact(q0a e1).symm
 obtain rfl:=q0a (e.symm.trans e2);exact e3▸.int _ _
end
section
variable{F:ck}{W:Wd F}{us vs ws:List V}{l1 l2:Addr}{xs ys:Array Value}
theorem uQ{h:Heap}{l:Addr}(t:h.IsTuple l xs):l<h.objs.size:=t.elim λ_ q=>q0s q.1
theorem Wd.xg(W:Wd F)(t:W.s.heap.IsTuple l xs):l≠bw:=t.elim λo q e=>W.fr.tab.tJ.not (e▸q.1) (xi t q.1)
structure a0L(s:Shared)(h':Heap)(l1 l2:Addr):Prop where
 z1:IsZip h' (s.heap.objs.size+4) (s.heap.objs.size+2) (s.heap.objs.size+3) .none
 z2:IsPair h' (s.heap.objs.size+2) (.ref s.heap.objs.size) (.ref (s.heap.objs.size+1))
 z3:IsPair h' (s.heap.objs.size+3) .none .none
 z4:h'.IsTupleIter s.heap.objs.size l1 0
 z5:h'.IsTupleIter (s.heap.objs.size+1) l2 0
 sz:h'.objs.size=s.heap.objs.size+5
 k:Keeps s.heap h'
theorem JT{acc:Array Value}{m:Nat}{s₅ s':Shared}{h₆:Heap}(Ty:F.K.B.get? bw=none)(hm:m=ws.length)(up:∀b o,b≠bw->W.s.heap.get? b=some o->s₅.heap.get? b=some o)(tab:fj s₅.heap)(zA:∀vs,W.s.heap.get? bw=some {cls:=.none,data:=.fields vs}->∃more,s₅.heap.get? bw=some {cls:=.none,data:=.fields (vs++more)})(yf:∀b o,s₅.heap.get? b=some o->h₆.get? b=some o)(sz:W.s.heap.objs.size+5<=s₅.heap.objs.size)(ho:s'.os=W.s.os)(WB:AllBare s'.gens)(hh:∀b o,b∉([s₅.heap.objs.size,W.s.heap.objs.size+4,W.s.heap.objs.size+3,W.s.heap.objs.size,W.s.heap.objs.size+1]:List Nat)->h₆.get? b=some o->s'.heap.get? b=some o)(Em:ItemsOf (λj y=>∃i,(List.range m)[j]?=some i/\Gp ws i y) acc (List.range m).length)(hs:W.s.heap.objs.size<=(s'.heap.push {cls:=.type "tuple",data:=.seq acc}).objs.size)(big:k8<=s'.heap.objs.size):aB VR W (.tup ws,W.σ) (.ref s'.heap.objs.size) {s' with heap:=s'.heap.push {cls:=.type "tuple",data:=.seq acc}}:=by have k0:∀z,z<W.s.heap.objs.size->∀o,s₅.heap.get? z=some o->(s'.heap.push {cls:=.type "tuple",data:=.seq acc}).get? z=some o:=λz hz o e=>q0p _ (hh z o (in5 _ _ _ hz sz) (yf z o e));have kf:∀b o,b≠bw->W.s.heap.get? b=some o->(s'.heap.push {cls:=.type "tuple",data:=.seq acc}).get? b=some o:=λb o nb e=>k0 b (q0s e) o (up b o nb e);have ltA:bw<W.s.heap.objs.size:=q0l F.tA W.fr.hr.low;have ltC:jA<W.s.heap.objs.size:=q0l F.tC W.fr.hr.low;exact⟨W.ρ,(W.L9 Ty kf hs (tab.at' (k0 _ ltA) (k0 _ ltC))).1,WB,.tup big ⟨_,q0n _ rfl,rfl,_,rfl⟩ (zo hm Em),.tab (F:=F) kf hs (λvs e=>(zA vs e).imp λ_ e=>k0 _ ltA _ e) ho⟩
theorem Xc{γ:Type}{ma mb:M V}{g:List V->M γ}{σ:St}:Y (an [ma,mb]) g σ=Y ma (λx=>Y mb λy=>g [x,y]) σ:=by refine dS.trans (q1j (q1s (Y ma) (funext λx=>funext λs=>?_)) σ);refine dS.trans (dS.trans (q1j (q1s (Y mb) (funext λy=>funext λs=>?_)) s));rfl
def GX(F:ck)(scope:Scope)(pi pj pb:Pos)(Q:Value->Shared->Prop)(it code:Value)(bi:Addr)(s₄:Shared)(I:Addr)(fp wr:List Addr)(n₀:Nat)(Pt:Nat->Array Value->Prop)(YZ:Nat->Heap->Prop)(Mid:Nat->Addr->Heap->Prop)(pz:Nat->Bool)(G:Nat->Value->Prop):Prop:=it=.ref I/\(∀A':Around,A'.handled=none->WalksU F.K.prog F.K.w A' I fp wr n₀ Pt YZ Mid)/\(∀i u3,Pt i u3->∃va vb,u3=#[va,vb])/\YZ 0 s₄.heap/\(∀b∈fp,b<s₄.heap.objs.size)/\s₄.heap.NoLimit/\cStatics∉wr/\(∀Eg:Heap,(∀b o,s₄.heap.get? b=some o->Eg.get? b=some o)->QuietGenT F.K.prog F.K.w (genEnv scope [] s₄.heap.objs.size code bi F.env) "i" "j" [] (.BinOp (.Name "i" pi) .Add (.Name "j" pj) pb) (List.range s₄.heap.objs.size) wr Pt pz G Eg)/\(∀a h₅ tk gs,gs.bare=true->s₄.heap.objs.size<a->h₅.objs.size=a+1->(∀b o,s₄.heap.get? b=some o->h₅.get? b=some o)->WalksS F.K.prog F.K.w F.A.in4 a (a::s₄.heap.objs.size::List.range s₄.heap.objs.size) (s₄.heap.objs.size::wr) (GenOnlyQ s₄.gens.size) (passing pz n₀ 0).length (λj y=>∃i,(passing pz n₀ 0)[j]?=some i/\G i y) (GenAt F.K.prog F.K.w F.A.in4 a s₄.gens.size s₄.heap.objs.size (List.range s₄.heap.objs.size) wr pz n₀ G)->GenAt F.K.prog F.K.w F.A.in4 a s₄.gens.size s₄.heap.objs.size (List.range s₄.heap.objs.size) wr pz n₀ G 0 {s₄ with gens:=s₄.gens.push gs,toks:=tk,heap:=h₅}->F.wp (spliced []) (λzs s'=>True/\F.wp (call (.type "tuple") ([]++(Value.ref a::zs))) Q s') {s₄ with gens:=s₄.gens.push gs,toks:=tk,heap:=h₅})
def GXE(F:ck)(scope:Scope)(pi pj pb:Pos)(Q:Value->Shared->Prop)(it code:Value)(bi:Addr)(s₄:Shared):Prop:=∃I fp wr n₀ Pt YZ Mid pz G,GX F scope pi pj pb Q it code bi s₄ I fp wr n₀ Pt YZ Mid pz G
def GXC(F:ck)(scope:Scope)(gp pi pj pb:Pos)(Q:Value->Shared->Prop)(it:Value)(s:Shared):Prop:=F.wp (genexprCode F.env gp (F.env.qual++"<genexpr>") scope) (λcode s₃=>F.wp (builtinsFor F.env.globals F.env.builtins) (GXE F scope pi pj pb Q it code) s₃) s
def GXZ(F:ck)(scope:Scope)(gp pi pj pb:Pos)(Q:Value->Shared->Prop)(xv:Value)(s:Shared):Prop:=F.wp (pyIter xv) (λit s₂=>s₂.heap.NoLimit/\GXC F scope gp pi pj pb Q it s₂) s
theorem JS{scope:Scope}{gp pi pj pb:Pos}{Q:Value->Shared->Prop}(GB:jn F.K.B)(pI:un scope=true)(Gi:F.c.cd=.ref jA)(Z00:Bh W.ρ W.s.heap us vs ws l1 l2 xs ys)(hl:ws.length<=100)(q:∀y s',aB VR W (.tup ws,W.σ) y s'->Q y s'){h₄:Heap}(X:a0L W.s h₄ l1 l2):GXC F scope gp pi pj pb Q (.ref (W.s.heap.objs.size+4)) {W.s with heap:=h₄}:=by
 obtain⟨sk,sn,sco⟩:=um pI;have ZR:W.s.heap.objs.size<=h₄.objs.size:=X.sz▸q0u _ _;have big:∀{z:Addr},W.s.heap.objs.size<=z->z≠bw:=λhz=>q1d (q0l F.tA (q0d W.fr.hr.low hz));refine uo GB (W.grow W.s.toks X.k ZR) Gi λcode W₅ e1 e2 q₅ k₅ g₅=>?_;have st₅:=W₅.fr.hr.stays;have Ys:W.s.heap.objs.size+5<=W₅.s.heap.objs.size:=X.sz▸q₅.size;have k₅:∀b o,b≠bw->h₄.get? b=some o->W₅.s.heap.get? b=some o:=k₅;have up:∀b o,b≠bw->W.s.heap.get? b=some o->W₅.s.heap.get? b=some o:=λb o nb e=>k₅ b o nb (X.k b o e);obtain⟨mg,bm,ob,b1,b2,b3,b4,b5,b6,b7⟩:=GB.blt;refine wpAny_builtinsFor (globals:=F.env.globals) (F.glob.symm▸b1.keeps st₅) b2 b3 (st₅ _ _ b4) b5 b6 b7 ?_;clear b1 b2 b3 b4 b5 b6 b7 mg bm ob;have lt1:=uQ Z00.t1;have lt2:=uQ Z00.t2;refine⟨W.s.heap.objs.size+4,_,_,xs.size,_,_,_,λ_=>true,Gp ws,rfl,λA' hA=>(WalksT.Y3 hA _ _ _ _ _ l1 l2 (S6 _ _ _ lt1 lt2) xs ys (Z00.len.1.trans Z00.len.2.symm)).toU,λi u3 h=>h.elim λx h=>h.elim λy h=>⟨x,y,h.2.2⟩,
  ⟨k₅ _ _ (big (q0u _ _)) X.z1,k₅ _ _ (big (q0u _ _)) X.z2,⟨_,_,k₅ _ _ (big (q0u _ _)) X.z3⟩,X.z4.at λo e=>k₅ _ o (big (q0c _)) e,X.z5.at λo e=>k₅ _ o (big (q0u _ _)) e,Z00.t1.at λo e=>up _ o (W.xg Z00.t1) e,Z00.t2.at λo e=>up _ o (W.xg Z00.t2) e⟩,
  in7 _ _ _ _ lt1 lt2 Ys,GB.lim.keeps st₅,in4 _ _ (q0l (by decide:cStatics<k8) (q0d W.fr.hr.big W.fr.hr.low)),λEg _=>Ax sk sn Z00,?_⟩
 intro ga h₆ tk gs WK hga JJ yf WS a0e;rw[tG] at WS;refine Calls.spliced_nil ⟨trivial,?_⟩;have ZZ:W.s.heap.objs.size<=h₆.objs.size:=JJ▸q0d (q0d (q0u _ 5) Ys) (Nat.le_succ_of_le (q1b hga));refine bK (s:={W₅.s with gens:=W₅.s.gens.push gs,toks:=tk,heap:=h₆}) ZZ (call_tuple_gen WS.in4_3 (λi s st=>st.1.typeIs) a0e (inR _ _ _ hga JJ) q0g (λs' acc hm Em ZY=>q _ _ ?_) ?_)
 ·exact JT GB.Ty Z00.len.1 up W₅.fr.tab (λvs e=>q₅.zA vs (X.k _ _ e)) yf Ys (hm.os.trans q₅.os) (hm.gens.bare (AllBare.push W₅.bare WK)) hm.heap Em ZY
   (W.fr.iO.elim λo e=>q1b (q0r (q0d W.fr.hr.big (W.fr.loc.elim λ_ m=>m.1.above)) (q0s (hm.heap _ _ (in5 _ _ _ (q0s e.1) Ys) (yf _ _ (up _ _ (W.fr.loc.elim λ_ m=>(F.nT m.1.above).1) e.1))))))
 ·rw[List.length_range,Z00.len.1]
  exact q0d hl (by decide)
theorem sF(h:kY x y σ=some c):∃us vs ws,vT x=some us/\vT y=some vs/\iZ us vs=some ws/\ws.length<=100/\c=(.tup ws,σ):=m9 h λv e er=>aH e λus h1 e=>aH e λvs h2 e=>aH e λws h3 e=>by
 by_cases hl:ws.length<=100
 ·exact⟨us,vs,ws,h1,h2,h3,hl,er.trans (q1s (·,σ) (q0a (e.symm.trans (q1k hl))))⟩
 ·exact cE ((q1l hl).symm.trans e)
theorem Om{x' z':Str}{q pi pj pb pi' pj' pt pz zp gp pos:Pos}{kt:Nat}{ea eb:Expr}{ma mb:M V}{scope:Scope}(GB:jn F.K.B)(hx:F.c.sc.names.lookup x'=some .globalImplicit)(g:Gl F.K.B x' (.type "tuple"))(hd:(x'==("__debug__" : Str))=false)(hz:F.c.sc.names.lookup z'=some .globalImplicit)(gz:Gl F.K.B z' (.type "zip"))(hdz:(z'==("__debug__" : Str))=false)(pI:un scope=true)(Gi:F.c.cd=.ref jA)(SA:dz F [ea,eb] [ma,mb]):aM F (.Call (.Name x' q) [.GeneratorExp (.BinOp (.Name "i" pi) .Add (.Name "j" pj) pb) [⟨.Tuple [.Name "i" pi',.Name "j" pj'] kt pt,.Call (.Name z' pz) [ea,eb] [] zp,[],0⟩] scope gp] [] pos) (Y ma λx=>Y mb λy=>kY x y):=λW c hm=>by
 obtain⟨sk,sn,sco⟩:=um pI;refine Call_ (nC hx g rfl hd λW₁ q₁ e₁=>?_) rfl;refine PySem.W.callWith_of (P:=λ_=>True) rfl (λ_ _=>⟨.machine,.inr (.inl rfl),.now⟩) ?_;refine Calls.evalArgs_plain (Calls.spliced_cons ?_);have WI:closureFor scope F.env=pure []:=closureFor_none (by rw[sn];decide);refine wpAny_GeneratorExp_walksQT F.room.1 sco WI (by rw[sn];decide) (by rw[sn];rfl) (by rw[sn];rfl) (by rw[sn];rfl) (by decide) sk F.room.depth ?_ (λ_=>rfl);show F.wp _ (GXZ F scope gp pi pj pb _) _;refine gR (g:=λvs=>ba (sC vs) (λp=>kY p.1 p.2) dead) hz gz rfl hdz (qp _) SA (λ_=>rfl) ((Xc.trans (e₁▸hm):Y (an [ma,mb]) _ W₁.σ=_)) λus xs W₃ r₃ q₃ hm=>?_;cases hp:sC us with
 |none=>rw[hp] at hm;exact cE hm
 |some p=>
  rw[hp] at hm;obtain⟨us,vs,ws,h1,h2,h3,hl,rfl⟩:=sF hm;clear hm;refine r₃.NW (P:=λxs=>F.wp (call (.type "zip") xs) _ W₃.s) hp λx1 x2 r1 r2=>r1.tupK (P:=λx1=>F.wp (call (.type "zip") [x1,x2]) _ W₃.s) h1 λl1 xs t1 v1 _=>r2.tupK (P:=λx2=>F.wp (call (.type "zip") [.ref l1,x2]) _ W₃.s) h2 λl2 ys t2 v2 _=>?_;exact AS t1 t2 λh₄ z1 z2 z3 z4 z5 sz k=>wpAny_pyIter_zip z1 ⟨GB.lim.keeps (W₃.fr.hr.stays.trans k),JS GB pI Gi ⟨h3,t1,v1,t2,v2⟩ hl (λy s' p=>aB.after (q₁.trans q₃) p) ⟨z1,z2,z3,z4,z5,sz,k⟩⟩
end
section
variable{prog:Program}{w:World}{A:Around}{E:Value->Shared->Prop}{s:Shared}
theorem nQ:isSubtype (.type "KeyError") (.type "LookupError")=pure true:=by rw[isSubtype_type];kernel_rfl
theorem Am{d:Addr}{f:Int->Option Value}{cc:Nat}{Q:Builtin.Str.Mapped->Shared->Prop}(hh:A.handled=none)(hd:(d==sysModules)=false)(hm:s.heap.MapOf (intKind prog w) d f)(hv:f cc=none)(q:∀h' t,(∀a o,s.heap.get? a=some o->h'.get? a=some o)->Q .keep {s with heap:=h',toks:=t}):wpAny (model prog w) A (Builtin.Str.tableLookup (.ref d) cc) Q E s:=by
 unfold Builtin.Str.tableLookup;refine q1f (wpAny_attempt (q1f (wpAny_mkInt ?_)));refine wpAny_getItem_missing_of (knd:=intKind prog w) (k:=(cc:Int)) (by unfold intKind Value.isInt;simp) hd hh (f:=f) hm hv λh' e hx=>?_;dsimp only;refine q1f (wpAny_isInstance (T:="KeyError") (b:=true) ?_ nQ ?_)
 ·obtain⟨o,_,ho,hc,_⟩:=hx.there
  exact⟨o,ho,hc⟩
 ·simp only[if_true]
  exact q1f (wpAny_rule (q1e (q h' _ hx.keeps)))
theorem AA(l:List Nat)(a:Array Nat):List.foldl (λacc (p:Str)=>acc++p.cps) a (l.map λc=>(⟨#[c]⟩:Str))=a++l.toArray:=by
 induction l generalizing a with
 |nil=>simp
 |cons c l ih=>rw[q1p,List.foldl_cons,ih];apply Array.ext';simp
def zj(s:Shared)(x:Str)(rest:List Nat)(b:List Str×Nat×Bool×List (Nat×Option Nat)×Bool)(s':Shared):Prop:=∃pre,x.cps.toList=pre++rest/\b=((pre.map λc=>(⟨#[c]⟩:Str)).reverse,pre.length,false,[],false)/\∃h' t',s'={s with heap:=h',toks:=t' }/\Keeps s.heap h'
@[elab_as_elim] theorem zj.elim{x:Str}{rest:List Nat}{b:List Str×Nat×Bool×List (Nat×Option Nat)×Bool}{s':Shared}(I:zj s x rest b s'){P:(List Str×Nat×Bool×List (Nat×Option Nat)×Bool)->Shared->Prop}(k:∀pre h' t',x.cps.toList=pre++rest->Keeps s.heap h'->P ((pre.map λc=>(⟨#[c]⟩:Str)).reverse,pre.length,false,[],false) {s with heap:=h',toks:=t' }):P b s':=by obtain⟨pre,e,rfl,h',t',rfl,hk⟩:=I;exact k pre h' t' e hk
theorem tY{x:Str}{pre rest:List Nat}(e:x.cps.toList=pre++rest)(hz:x.cps.size<=1000):¬Builtin.Str.tooLong pre.length=true:=by
 have h:pre.length<=x.cps.toList.length:=by rw[e,q0x];exact q0u _ _
 unfold Builtin.Str.tooLong;rw[q1x (Nat.not_lt.mpr (q0d h (q0d hz (by decide))))];exact q0f
theorem uO(hm:h.MapOf (intKind prog w) d f)(k:Keeps h h'):h'.MapOf (intKind prog w) d f:=hm.imp λ_=>Exists.imp λ_=>Exists.imp λ_=>q2l (k _ _)
theorem nO{d:Addr}{f:Int->Option Value}{x:Str}{t:Tok}{Q:Value->Shared->Prop}(hh:A.handled=none)(hd:(d==sysModules)=false)(hm:s.heap.MapOf (intKind prog w) d f)(hv:∀c∈x.cps,f (c:Nat)=none)(hf:x.cps.all (· < 128)=false)(hz:x.cps.size<=1000)(q:∀h' t' k,(∀a o,s.heap.get? a=some o->h'.get? a=some o)->Q (.str x t') {s with heap:=h',toks:=k}):wpAny (model prog w) A (call (.builtin "str.translate") [.str x t,.ref d]) Q E s:=by
 have my:¬(x.length==0)=true:=λe=>by
  have:x.cps=#[]:=Array.eq_empty_of_size_eq_zero (eq_of_beq e);rw[this] at hf;simp at hf
 have step:∀c rest pre h1,x.cps.toList=pre++c::rest->Keeps s.heap h1->f (c:Nat)=none:=λc rest pre _ e _=>hv c (by rw[<-Array.mem_toList_iff,e];exact List.mem_append_right _ q0g);refine q1z PySem.F.slot_str_translate (typeIs_str s x t) PySem.F.entry_str_translate ?_ (PySem.F.args_str_translate_2 _ _);unfold Builtin.«str.translate»;refine q1f (m:=Builtin.Str.strOneArg _ _) (q1g (a:=(.str x t,x,.ref d)) rfl (q1i (KPc.ite_no my ?_)));show wpAny _ _ (forIn x.cps _ _>>=_) _ _ _;rw[hf,<-Array.forIn_toList];have init:zj s x x.cps.toList ([],0,false,[],false) s:=⟨[],rfl,rfl,s.heap,s.toks,rfl,λ_ _ h=>h⟩
 refine q1f (wpAny_forIn_list _ (zj s x) _ ?_ ?_ _ _ init)
 ·intro c rest b s1 I
  refine I.elim λpre h1 t1 e hk=>?_;refine q1i (KPc.ite_no (tY e hz) ?_);refine q1f (Am (f:=f) (s:={s with heap:=h1,toks:=t1}) hh hd (uO hm hk) (step c rest pre h1 e hk) λh2 t2 Gh=>q1e ?_);exact⟨pre++[c],by rw[e,q0i];rfl,by rw[q1o,List.reverse_append,q0x];rfl,h2,t2,rfl,hk.trans Gh⟩
 ·intro b s1 I
  refine I.elim λpre h1 t1 e hk=>?_;rw[q0q] at e;refine q1i (KPc.ite_no (tY (rest:=[]) ((q0q _).symm▸e) hz) ?_);have ex:(⟨List.foldl (λacc (p:Str)=>acc++p.cps) #[] (pre.map λc=>(⟨#[c]⟩:Str)).reverse.reverse⟩:Str)=x:=by rw[List.reverse_reverse,AA,Array.empty_append,<-e,Array.toArray_toList]
  rw[ex];exact q1f (wpAny_mkStr (q1e ⟨_,rfl,q h1 _ _ hk⟩) (q0d (show x.cps.size<=1000 from hz) (by decide)))
end
section
variable{prog:Program}{w:World}{A:Around}{E:Value->Shared->Prop}{s:Shared}
noncomputable def mC:Obj:={cls:=.type "builtin_function_or_method",data:=.fields #[.builtin "dict.fromkeys",.type "dict"]}
theorem GA:typeOf (.builtin "dict.fromkeys")=pure (.type "classmethod_descriptor"):=by show builtinType _=_;rw[builtinType_eq_fast];kernel_rfl
theorem EA:entryFor table "dict.fromkeys" = some Builtin.«dict.fromkeys» :=entryFor_of_tree (by kernel_rfl)
theorem qx:entryFor table "dict.fromkeys.loop" = some Builtin.«dict.fromkeys.loop» :=entryFor_of_tree (by kernel_rfl)
theorem Dm:(Code.builtin "dict.fromkeys" as).quiet=true:=Code.quiet_builtin _ (by decide +kernel)
theorem mv:isType (.type "dict")=pure true:=by first | rfl | kernel_rfl | (unfold isType;rw[isSubtype_type];kernel_rfl)
theorem sN:isSubtype (.type "dict") (.type "dict")=pure true:=by rw[isSubtype_type];kernel_rfl
theorem Du:(kfb_private% "ownerAndName") "dict.fromkeys" = ("dict","fromkeys"):=by first | decide +kernel | kernel_rfl
theorem C0{M:Model}{P:Fin->Shared->Prop}(h:P (.done (.ret (.ref s.heap.objs.size))) {s with heap:=s.heap.push mC}):wpAny M A (Builtin.«classmethod_descriptor.__get__» ⟨[.builtin "dict.fromkeys",.none,.type "dict"],[]⟩) P E s:=by unfold Builtin.«classmethod_descriptor.__get__»;refine q1f (q1g (a:=(.builtin "dict.fromkeys",none,some (.type "dict"))) (by first | rfl | kernel_rfl) ?_);simp only[Du];refine q1f (q1g (a:=.type "dict") rfl ?_);refine q1f (q1g (a:=true) mv ?_);refine KFB.if_not rfl ?_;refine q1f (q1g (a:=true) sN ?_);refine KFB.if_not rfl ?_;exact q1f (q2a (q1e h))
theorem JY:findCls [] (.type "dict") (.type "type") (PySem.Str.ofString "fromkeys")=some (.get (.builtin "classmethod_descriptor.__get__") (.builtin "dict.fromkeys") .none (.type "dict")):=by kernel_rfl
theorem Js{pl:Sem Bool}{Q:Value×List Value->Shared->Prop}(h:Q (.ref s.heap.objs.size,[]) {s with heap:=s.heap.push mC,toks:=s.toks+1}):wpAny (model prog w) A (getMethod (.type "dict") (PySem.Str.ofString "fromkeys") pl) Q E s:=by
 have X:Frag.In [] s.heap:=by intro a o h;cases h
 have Ef:opaqueClassAbove (.type "dict")=pure none:=by unfold opaqueClassAbove;dsimp only;rw[show Manifest.isStub "dict" = false by decide +kernel];rfl
 have ht:typeOf (.type "dict")=pure (.type "type"):=by first | rfl | kernel_rfl
 have L0:Looks (model prog w) s.heap (typeOf (.type "dict")) (.type "type"):=Looks.of_pure ht;have hg:findIn [] (.type "type") "__getattribute__" = some (some (.builtin "type.__getattribute__")):=type_tga;unfold getMethod specialOf;refine q1f (q1f (L0.here ((looks_findIn X hg).here ?_)));dsimp only;rw[q1k canon_tga];refine q1f (q1h (Q:=λv=>Q (v,[])) (E:=E) ?_ (λ_ _ z=>q1e z) λ_ _ z=>z);have LO:Looks (model prog w) s.heap (opaqueClassAbove (.type "dict")) none:=Looks.of_pure Ef;refine cls_open X LO L0 hg (looks_hook X (r:=none) (by rfl)) (by show subIn [] _ _=_;rfl) JY ?_;show wpAny _ _ (holding [.builtin "dict.fromkeys"] (call (.builtin "classmethod_descriptor.__get__") [.builtin "dict.fromkeys",.none,.type "dict"])>>=λv=>ret v) _ _ _;exact q1f (q1u (q1z KFB.slot_get GA KFB.entry_get (C0 ⟨_,rfl,q1e (q1e h)⟩) (KFB.args_get _ _ _)))
end
section
variable{prog:Program}{w:World}{A:Around}{E:Value->Shared->Prop}{s:Shared}
noncomputable def mP:Obj:={cls:=.type "dict",data:=.dict #[]}
theorem nM:checkTypeCall "dict" ⟨[],[]⟩=pure ():=by kernel_rfl
theorem pF:checkBuiltinCall "dict.__new__" ⟨[.type "dict"],[]⟩=pure ():=by kernel_rfl
theorem mX(a:Value):argsOk "dict.__init__" ⟨[a],[]⟩:=by unfold argsOk;kernel_rfl
theorem oW(h:Q₁ (.ref s.heap.objs.size) {s with heap:=s.heap.push mP}):codeAny (model prog w) A (.call (.builtin "dict.__new__") ⟨[.type "dict"],[]⟩) (wants Q₁ E) s:=by
 refine codeAny_call_builtin F.kt_plain_dict_new F.kt_entry_dict_new (q1g pF ?_);have hsub:=F.kt_sub_dict;have a0V:=F.kt_mro_dict;obtain⟨hp,g,d,tk,os⟩:=s;unfold Builtin.«dict.__new__»
 wp_walk
 exact h
theorem wG(h:Q (.ref s.heap.objs.size) {s with heap:=s.heap.push mP}):wpAny (model prog w) A (call (.type "dict") []) Q E s:=by
 refine callType_codes (Q₁:=λobj s₁=>obj=.ref s.heap.objs.size/\s₁={s with heap:=s.heap.push mP}) F.kt_called_dict nM F.entry_dict_init (oW ⟨rfl,rfl⟩) ?_
 rintro obj s₁ ⟨rfl,rfl⟩
 have hnew:(s.heap.push mP).DictOf (intKind prog w) s.heap.objs.size []:=Heap.DictOf.new s.heap;refine⟨hnew.typeIs,mX _,?_⟩;unfold Builtin.«dict.__init__»;refine q1f ?_;unfold Builtin.Dict.selfAndRest;refine q1f (wpAny_notOrdered_dict hnew.typeIs ?_);show wpAny _ _ (pure (s.heap.objs.size,[])) _ _ _;refine q1e ?_;show wpAny _ _ (Builtin.Dict.addKeywords s.heap.objs.size []>>=_) _ _ _;exact q1f (q1e (q1e ⟨rfl,h⟩))
end
section
variable{prog:Program}{w:World}{A:Around}{E:Value->Shared->Prop}{s:Shared}
theorem qg:(Code.builtin "dict.fromkeys.loop" as).quiet=true:=Code.quiet_builtin _ (by decide +kernel)
theorem JW{it d:Addr}{x:Str}{St:Nat->Heap->Prop}{i:Nat}{cM:List (Str×Value)}{R:Except Value Flow->Shared->Prop}{c:Nat}(Ra:d≠it)(W:∀A':Around,A'.handled=none->Walks prog w A' it [it] [it] x.cps.size (SignAt x) St)(hh:A.handled=none)(hi:x.cps[i]?=some c)(st:St i s.heap)(hm:s.heap.DictOf (PySem.strKind prog w) d cM)(hl:cM.length<=100)(q:∀h' t,(∀b o,b≠it->b≠d->s.heap.get? b=some o->h'.get? b=some o)->St (i+1) h'->h'.DictOf (PySem.strKind prog w) d (stored cM ⟨#[c]⟩ .none)->codeAny (model prog w) A (.builtin "dict.fromkeys.loop" ⟨[.ref d,.ref it,.none],[]⟩) R {s with heap:=h',toks:=t}):codeAny (model prog w) A (.builtin "dict.fromkeys.loop" ⟨[.ref d,.ref it,.none],[]⟩) R s:=by
 refine codeAny_builtin qx ?_;unfold Builtin.«dict.fromkeys.loop»;have fR:i<x.cps.size:=by
  rcases Nat.lt_or_ge i x.cps.size with h | h
  ·exact h
  ·rw[Array.getElem?_eq_none h] at hi;cases hi
 refine q1f ((W (A.under _) hh).item i s _ _ fR st λv h1 t1 hv To Av=>?_);obtain⟨c',u,WJ,rfl⟩:=hv;obtain rfl:c'=c:=by rw[hi] at WJ;(first | subst WJ | (obtain⟨rfl,rfl⟩:=Wn WJ) | (obtain rfl:=D9 WJ) | cases WJ);rfl
 dsimp only;have Nu:h1.DictOf (PySem.strKind prog w) d cM:=by obtain⟨o,es,ep,ho,r⟩:=hm;exact⟨o,es,ep,Av _ _ (by simpa using Ra) ho,r⟩
 refine q1f (wpAny_typeOf Nu.typeIs ?_);rw[q1k (by decide)];refine q1f (m:=Builtin.Dict.addrOf (.ref d)) (q1g (a:=d) rfl ?_);refine q1f (q1u (wpAny_dictSet_pairs (k:=(⟨#[c']⟩:Str)) ?_ Nu (λh2 Tw Tt=>?_) (q0d hl (by unfold sizeLine;lia))))
 ·unfold PySem.strKind Value.isStrOf;simp
 refine q1e ⟨qg,q h2 _ (λb o hb hd e=>?_) ?_ Tw⟩
 ·exact(Tt.2 b hd).trans (Av b o (by simpa using hb) e)
 ·refine(W A hh).frame _ _ _ To λb hb o e=>?_
  have:b=it:=by simpa using hb
  subst this;exact(Tt.2 b Ra.symm).trans e
end
section
variable{prog:Program}{w:World}{A:Around}{E:Value->Shared->Prop}{s:Shared}
theorem Rk{it d:Addr}{x:Str}{St:Nat->Heap->Prop}{R:Except Value Flow->Shared->Prop}(W:∀A':Around,A'.handled=none->Walks prog w A' it [it] [it] x.cps.size (SignAt x) St)(hh:A.handled=none)(st:St x.cps.size s.heap)(q:∀h' t,(∀b o,b≠it->s.heap.get? b=some o->h'.get? b=some o)->R (.ok (.ret (.ref d))) {s with heap:=h',toks:=t}):codeAny (model prog w) A (.builtin "dict.fromkeys.loop" ⟨[.ref d,.ref it,.none],[]⟩) R s:=by refine codeAny_builtin qx ?_;unfold Builtin.«dict.fromkeys.loop»;refine q1f ((W (A.under _) hh).done s _ _ st λh1 t1 Av=>?_);exact q1e (q h1 t1 λb o hb e=>Av b o (by simpa using hb) e)
theorem Rl{it d:Addr}{x:Str}{St:Nat->Heap->Prop}{R:Except Value Flow->Shared->Prop}(Ra:d≠it)(W:∀A':Around,A'.handled=none->Walks prog w A' it [it] [it] x.cps.size (SignAt x) St)(hh:A.handled=none)(hx:x.cps.toList.length<=50):∀(n i:Nat) (s:Shared) (cM:List (Str×Value)),i+n=x.cps.size->cM.length<=i->St i s.heap->s.heap.DictOf (PySem.strKind prog w) d cM->(∀h' t,(∀b o,b≠it->b≠d->s.heap.get? b=some o->h'.get? b=some o)->h'.DictOf (PySem.strKind prog w) d ((x.cps.toList.drop i).foldl (λacc c=>stored acc ⟨#[c]⟩ .none) cM)->R (.ok (.ret (.ref d))) {s with heap:=h',toks:=t})->codeAny (model prog w) A (.builtin "dict.fromkeys.loop" ⟨[.ref d,.ref it,.none],[]⟩) R s:=by
 intro n
 induction n with
 |zero=>
  intro i s cM hn hk st hm q;have hn:i=x.cps.size:=hn;subst hn;refine Rk W hh st λh' t h=>q h' t (λb o hb _ e=>h b o hb e) ?_;rw[List.drop_eq_nil_of_le (by simp)];obtain⟨o,es,ep,ho,r⟩:=hm;exact⟨o,es,ep,h _ _ Ra ho,r⟩
 |succ n ih=>
  intro i s cM hn hk st hm q;have fR:i<x.cps.size:=by lia
  have hx':x.cps.size<=50:=by simpa using hx
  refine JW (c:=x.cps[i]) Ra W hh (by simp[fR]) st hm (by lia) λh' t hk' B8 hm'=>?_;refine ih (i+1) _ _ (by lia) ?_ B8 hm' λh2 t2 Gh Tw=>q h2 t2 (λb o hb hd e=>Gh b o hb hd (hk' b o hb hd e)) ?_
  ·have:(stored cM (⟨#[x.cps[i]]⟩:Str) Value.none).length<=cM.length+1:=by unfold stored;split<;>simp
   lia
  ·rw[q2m (by simpa using fR),List.foldl_cons]
   simpa using Tw
end
section
variable{prog:Program}{w:World}{A:Around}{E:Value->Shared->Prop}{s:Shared}
noncomputable def wn(x:Str):List (Str×Value):=x.cps.toList.foldl (λacc c=>stored acc (⟨#[c]⟩:Str) Value.none) []
theorem Qt(hh:A.handled=none)(hx:x.cps.toList.length<=50)(q:∀h' k,(∀b o,s.heap.get? b=some o->h'.get? b=some o)->h'.DictOf (PySem.strKind prog w) s.heap.objs.size (wn x)->R (.ok (.ret (.ref s.heap.objs.size))) {s with heap:=h',toks:=k}):codeAny (model prog w) A (.builtin "dict.fromkeys" ⟨[.type "dict",.str x t],[]⟩) R s:=by
 refine codeAny_builtin EA ?_;unfold Builtin.«dict.fromkeys»;refine q1f (q1g (a:=true) mv ?_);refine KFB.if_not rfl ?_;refine q1f (q1g (a:=true) sN ?_);refine KFB.if_not rfl ?_;refine KFB.if_not rfl ?_;dsimp only;refine q1f (q1f (wpAny_rule ?_));refine q1e (q1f (q1e ?_));dsimp only;refine q1f (wG ?_);refine q1u ?_;have hnew:(s.heap.push mP).DictOf (PySem.strKind prog w) s.heap.objs.size []:=Heap.DictOf.new s.heap;refine q1f (wpAny_typeOf (typeIs_str _ x t) ?_);refine q1f (wpAny_typeOf hnew.typeIs ?_);rw[q1l (by decide)];refine q1f (wpAny_typeOf hnew.typeIs ?_);rw[q1l (by decide)];refine q1f (wpAny_pyIter_str λo St W st=>q1e ⟨qg,?_⟩);have mx:(s.heap.push mP).objs.size=s.heap.objs.size+1:=by simp[Heap.push]
 have my:s.heap.objs.size≠(s.heap.push mP).objs.size:=by rw[mx];exact q0t (q2n _)
 refine Rl my W hh hx x.cps.size 0 _ [] (by simp) (by simp) st (hnew.push _) λh' k hk hm=>q h' k (λb o' e=>?_) hm;have fR:=q0s e;exact hk b o' (λe=>by rw[e,mx] at fR;exact q1t fR (Nat.not_lt.mpr (q2g _))) (λe=>by rw[e] at fR;exact q1t fR (q1c _)) (q0p _ (q0p _ e))
end
section
variable{prog:Program}{w:World}{A:Around}{E:Value->Shared->Prop}{s:Shared}
theorem pK(Q6:args.any (·.1)=false)(h:wpAny (model prog w) A (evalArgs (.ref u) true args []) (λx s₁=>s₁.heap.get? u=some mC/\wpAny (model prog w) A (call (.ref u) (first++x.pos) x.kw) Q E s₁) E s):wpAny (model prog w) A (callWith pos (.ref u) first args []) Q E s:=PySem.W.callWith_of (P:=λh=>h.get? u=some mC) (by rw[Q6];rfl) (λh ho=>⟨.machine,.inr (.inl rfl),(Looks.ld (part:=none) ho).andThen .now⟩) h
theorem E0:checkBoundCall "dict.fromkeys" ⟨[.type "dict",.str x t],[]⟩=pure ():=by first | kernel_rfl | rfl
theorem Kt(ho:s.heap.get? u=some mC)(hh:A.handled=none)(hx:x.cps.toList.length<=50)(q:∀h' k,(∀b o,s.heap.get? b=some o->h'.get? b=some o)->h'.DictOf (PySem.strKind prog w) s.heap.objs.size (wn x)->Q (.ref s.heap.objs.size) {s with heap:=h',toks:=k}):wpAny (model prog w) A (call (.ref u) [.str x t]) Q E s:=by refine wpAny_call (codeAny_of_tree ?_);show wpAny _ A.in1 (callAny (.ref u) ⟨[.str x t],[]⟩) _ _ s;refine q1f (wpAny_load ho ?_);refine q1f (q1g (a:=()) E0 ?_);refine q1f (q1e (q1e ?_));exact⟨Dm,Qt hh hx λh' k hk hm=>q h' k hk hm⟩
end
section
variable{prog:Program}{w:World}{A:Around}{E:Value->Shared->Prop}{s:Shared}
theorem yd:typeLookup (.type "str") (PySem.Str.ofString "maketrans")=pure (some (.builtin "str.maketrans")):=by rw[typeLookup_type,q2b];kernel_rfl
theorem w8:typeOf (.builtin "str.maketrans")=pure (.type "builtin_function_or_method"):=by show builtinType _=_;rw[builtinType_eq_fast];kernel_rfl
theorem RG:typeLookup (.type "builtin_function_or_method") "__get__" = pure none:=am_miss_of_fast (by kernel_rfl)
theorem Ez:entryFor table "str.maketrans" = some Builtin.«str.maketrans» :=entryFor_of_tree (by kernel_rfl)
theorem Dv:handedOut (.builtin "str.maketrans")=pure (.builtin "str.maketrans"):=by kernel_rfl
theorem tN(x:PySem.Str)(t u:Tok):Meets (Builtin.«object.__getattribute__» ⟨[.str x t,.str (PySem.Str.ofString "maketrans") u],[]⟩) (λ_ R s=>R (.ok (.ret (.builtin "str.maketrans"))) s):=.of_wp λprog w A R s hs=>by
 obtain⟨hp,g,d,tk,os⟩:=s;have hT:∀s':Shared,s'.TypeIs (.str x t) "str" :=λ_=>rfl;have f1:=yd;have f2:=w8;have f3:=RG;have f4:=Dv;unfold Builtin.«object.__getattribute__»
 repeat (any_goals (first | assumption | wp_step))
 exact⟨_,rfl,hs⟩
theorem LN(h:∀k,Q (.builtin "str.maketrans") {s with toks:=k}):wpAny (model prog w) A (getAttr (.str x t) (PySem.Str.ofString "maketrans") false) Q E s:=by
 obtain⟨hp,g,d,tk,os⟩:=s;have hT:∀s':Shared,s'.TypeIs (.str x t) "str" :=λ_=>rfl;have f3:=F.slot_str_getattribute.lookup;have f4:=F.slot_str_getattribute.bind (.str x t);have f5:=am_str_getattr_none;unfold getAttr getAttrBy
 repeat (any_goals (first | assumption | ((with_reducible show wpAny _ _ (call (Value.builtin "object.__getattribute__") _ _) _ _ _);refine call_meets F.slot_str_getattribute (hT _) F.entry_object_getattribute (F.args_object_getattribute_2 _ _) (tN x t _) ?_) | wp_step))
 refine q1g Dv ?_;exact h _
theorem DH{M:Model}{x:PySem.Str}{t:Tok}{name:PySem.Str}{f:Value}{pl:Sem Bool}{Q:Value×List Value->Shared->Prop}(hl:typeLookup (.type "str") name=pure (some f))(ht:typeOf f=pure (.type "builtin_function_or_method"))(h:wpAny M A (getAttr (.str x t) name false) (λv s'=>Q (v,[]) s') E s):wpAny M A (getMethod (.str x t) name pl) Q E s:=by have hT:s.TypeIs (.str x t) "str" :=rfl;obtain⟨g,hg,a0d⟩:=F.plainAttrs_str.ga;unfold getMethod;refine q1f (wpAny_specialOf hT hg ?_);show wpAny _ _ (if (Manifest.canonical g != "object.__getattribute__")=true then _ else _) Q E s;rw[a0d,q1l q0f];refine q1f (wpAny_specialOf hT F.plainAttrs_str.noGetattr ?_);refine q1f (wpAny_specialOf hT hl ?_);refine q1f (q1g ht ?_);dsimp only;rw[q1k (by decide)];exact q1f (q1h h (λv s' q=>q1e q) λ_ _ z=>z)
theorem Jr(h:∀k,Q (.builtin "str.maketrans",[]) {s with toks:=k}):wpAny (model prog w) A (getMethod (.str x t) (PySem.Str.ofString "maketrans") pl) Q E s:=by
 with_reducible refine DH yd w8 ?_
 with_reducible exact LN h
end
section
variable{prog:Program}{w:World}{A:Around}{E:Value->Shared->Prop}{s:Shared}
theorem DC{M:Model}{Q:Value->Shared->Prop}(h:Q (.ref s.heap.objs.size) {s with heap:=s.heap.push mP}):wpAny M A newDict Q E s:=by
 unfold newDict
 first
  |exact q2a h
  |exact q1f (q2a (q1e h))
noncomputable def oj(cs:List Nat):List (PySem.Str×Value):=cs.map λc=>(⟨#[c]⟩,.none)
noncomputable def numsOf(cs:List Nat):List (Int×Value):=cs.foldl (λacc (c:Nat)=>stored acc (c:Int) .none) []
theorem vj{K:Type}[DecidableEq K](cM:List (K×Value))(k:K)(v:Value):(stored cM k v).length<=cM.length+1:=by unfold stored;split<;>simp
def Y2(prog:Program)(w:World)(s:Shared)(cs:List Nat)(rest:List DictEntry)(_:PUnit)(s':Shared):Prop:=∃pre post,cs=pre++post/\Pairs (PySem.strKind prog w) rest (oj post)/\∃h' t',s'={s with heap:=h',toks:=t' }/\Keeps s.heap h'/\h'.DictOf (intKind prog w) s.heap.objs.size (numsOf pre)/\(numsOf pre).length<=pre.length
@[elab_as_elim] theorem Y2.more{cs:List Nat}{e:DictEntry}{rest:List DictEntry}{b:PUnit}{s':Shared}(I:Y2 prog w s cs (e::rest) b s'){P:DictEntry->Shared->Prop}(k:∀pre c post hs t h' t',cs=pre++c::post->Pairs (PySem.strKind prog w) rest (oj post)->Keeps s.heap h'->h'.DictOf (intKind prog w) s.heap.objs.size (numsOf pre)->(numsOf pre).length<=pre.length->P ⟨hs,.str ⟨#[c]⟩ t,.none⟩ {s with heap:=h',toks:=t' }):P e s':=by
 obtain⟨pre,post,e1,hp,h',t',rfl,hk,hm,hl⟩:=I;cases post with
 |nil=>cases hp
 |cons c post=>cases hp with
  |cons a1 a2 a3=>
   obtain⟨hs,key,val⟩:=e;obtain⟨t,rfl⟩:=m8 a1;obtain rfl:val=.none:=a2;exact k pre c post hs t h' t' e1 a3 hk hm hl
theorem Qq{d:Addr}{cs:List Nat}{P:Fin->Shared->Prop}(hd:(d==sysModules)=false)(hl:cs.length<=50)(hm:s.heap.DictOf (PySem.strKind prog w) d (oj cs))(q:∀h' k,(∀b o,s.heap.get? b=some o->h'.get? b=some o)->h'.DictOf (intKind prog w) s.heap.objs.size (numsOf cs)->P (.done (.ret (.ref s.heap.objs.size))) {s with heap:=h',toks:=k}):wpAny (model prog w) A (Builtin.«str.maketrans» ⟨[.ref d],[]⟩) P E s:=by
 have hm0:=hm.push mP;have hT:({s with heap:=s.heap.push mP}:Shared).TypeIs (.ref d) "dict" :=hm0.typeIs;obtain⟨o,es,ep,ho,hx,hde,hk,hp,hn⟩:=hm0;have hmd:notTheModulesDict "str.maketrans" d=pure ():=by unfold notTheModulesDict;rw[hd];rfl
 have init:Y2 prog w s cs es.toList ⟨⟩ {s with heap:=s.heap.push mP}:=⟨[],cs,rfl,hp,_,_,rfl,λa o e=>q0p _ e,Heap.DictOf.new s.heap,q0c _⟩
 clear hp hk hn hm;unfold Builtin.«str.maketrans»;refine q1f (m:=newDict) (DC ?_);refine q1f (q1u ?_);refine q1f (wpAny_typeOf hT ?_);refine q1f (m:=typeOf (.ref d)) (wpAny_typeOf hT ?_);refine q1i (KPc.ite_no (by decide) (q1f (q1g hmd ?_)));refine q1f (wpAny_dictEntries ho hde ?_);rw[<-Array.forIn_toList];refine q1f (wpAny_forIn_list _ (Y2 prog w s cs) _ ?_ ?_ _ _ init)
 ·intro e rest b s1 I
  refine I.more λpre c post hs t h1 t1 e1 Z5 Av Nu jL=>?_;have hlen:pre.length<=50:=q0d (by rw[e1,q0x];exact q0u _ _) hl;refine q1f (q1g (a:=some (⟨#[c]⟩:PySem.Str)) rfl ?_);refine q1f (wpAny_mkInt (q1f (wpAny_dictSet_pairs (knd:=intKind prog w) (k:=(c:Int)) (beq_self_eq_true (c:Int)) Nu (λh2 Tw Tt=>q1e ?_) (q0d jL (q0d hlen (by decide))))));refine⟨pre++[c],post,by rw[e1,q0i];rfl,Z5,h2,_,rfl,λa o' e'=>?_,?_,?_⟩
  ·exact(Tt.2 a (λe2=>q1c _ (e2▸q0s e'))).trans (Av a o' e')
  ·unfold numsOf at Tw ⊢;rw[List.foldl_append];exact Tw
  ·unfold numsOf at jL ⊢
   rw[List.foldl_append,q0x];exact q0d (vj _ _ _) (Nat.succ_le_succ jL)
 ·rintro b s1 ⟨pre,post,e1,Z5,h1,t1,rfl,Av,Nu,_⟩
  cases post with
  |cons c post=>cases Z5
  |nil=>
   rw[q0q] at e1;subst e1;exact q1e (q1e (q h1 t1 Av Nu))
theorem Ks(hd:(d==sysModules)=false)(hl:cs.length<=50)(hm:s.heap.DictOf (PySem.strKind prog w) d (oj cs))(q:∀h' k,(∀b o,s.heap.get? b=some o->h'.get? b=some o)->h'.DictOf (intKind prog w) s.heap.objs.size (numsOf cs)->Q (.ref s.heap.objs.size) {s with heap:=h',toks:=k}):wpAny (model prog w) A (call (.builtin "str.maketrans") [.ref d]) Q E s:=by
 have hc:checkBuiltinCall "str.maketrans" ⟨[.ref d],[]⟩=pure ():=by first | kernel_rfl | rfl
 have hq:(Code.builtin "str.maketrans" ⟨[.ref d],[]⟩).quiet=true:=Code.quiet_builtin _ (by decide +kernel);refine wpAny_call (codeAny_call_builtin_at hq Ez (q1g hc ?_));exact Qq hd hl hm q
end
section
variable{F:ck}{W:Wd F}{v o:V}{x y:Value}
theorem tI{loc:List (Option V)}{i j:Nat}{u:V}(f:(loc.set i none)[j]?=some (some u)):i≠j/\loc[j]?=some (some u):=by
 by_cases hj:i=j
 ·subst hj
  have hi:i<loc.length:=by have:=(q0b.mp f).1;rwa[q1n] at this
  exact cE (q0a ((List.getElem?_set_self hi).symm.trans f))
 ·exact⟨hj,(q0j hj).symm.trans f⟩
theorem Wd.zD(W:Wd F){i:Nat}{x':Str}(hn:F.c.sc.names[i]?=some (x',.local))(y:Value){Q:Unit->Shared->Prop}(q:∀W':Wd F,W'.ρ=W.ρ->W'.σ=⟨W.σ.H,W.σ.loc.set i none⟩->W.Le W'->(∃m,W'.s.heap.Ns F.env.locals m/\m x'=some y)->(∀b o,b≠F.env.locals->W.s.heap.get? b=some o->W'.s.heap.get? b=some o)->Q () W'.s):F.wp (storeName F.env x' y) Q W.s:=by
 rw[<-F.sc] at hn;have hl:=bT F.nd hn;obtain⟨m,M,lm⟩:=W.fr.loc;refine wpAny_storeName_local hl M.ns (λh' n' sb=>?_) (by rw[F.kind];rfl);have key:=bS sb;obtain⟨R',im⟩:=W.fr.hr.dT W.fr.own M.above W.fr.iO key (q2q sb.1.symm);refine q (W.stored (z:=F.env.locals) (W.s.toks+1) R' q1n ⟨_,M.set n' sb,λj z u e f=>?_⟩ (λj z kd e f=>?_) (λz cc e=>?_) M.above key) rfl rfl (eT.Qv _ (.inl rfl) (F.nT M.above).1 key (q2q sb.1.symm)) ⟨_,n',q1k rfl⟩ key
 ·have g:=tI f
  exact(lm j z u e g.2).imp λ_ p=>⟨(q1l λe'=>g.1 (hM F.nd hn (e'▸e))).trans p.1,p.2.mono im (.refl _)⟩
 ·obtain⟨cc,c1,vo,c2,c3⟩:=W.fr.cel j z kd e f
  exact⟨cc,c1,vo,c2.sameBut sb (W.fr.celO z cc c1).loc,λu hu=>(c3 u (tI hu).2).imp λ_ p=>⟨p.1,p.2.mono im (.refl _)⟩⟩
 ·exact(W.fr.celO z cc e).is.imp λ_ g=>g.sameBut sb (W.fr.celO z cc e).loc
abbrev Cx.at(c:Cx)(i:Nat)(x:Str):Prop:=c.sc.names[i]?=some (x,.local)
abbrev Cx.gl(c:Cx)(x:Str):Prop:=c.sc.names.lookup x=some .globalImplicit
theorem Wj:wn ":()" = oj [58,40,41]:=by decide +kernel
theorem V0:numsOf [58,40,41] = [((58:Int),Value.none),(40,.none),(41,.none)]:=by decide +kernel
theorem eL{h:Heap}{a:Addr}(hb:k8<=a):(a==sysModules)=false:=q2d.mpr λe=>q1t (show k8<=sysModules from e▸hb) (by decide)
theorem Wd.name(W:Wd F){i:Nat}{x':Str}{p:Pos}(hn:F.c.sc.names[i]?=some (x',.local))(hv:W.σ.loc[i]?=some (some v))(hd:(x'==("__debug__" : Str))=false)(hc:(x'==("__classdict__" : Str))=false){Q:Value->Shared->Prop}(q:∀y,VR W.ρ W.s.heap v y->Q y W.s):F.wp (eval (.Name x' p) F.env) Q W.s:=wpAny_Name (W.load hn (.inl rfl) hv hc q) hd
theorem EK(h:isStarred e=false):dz F [e] [dead]:=.cons h yJ .nil
theorem call_one(hp:isStarred e=false)(hk:∀h,True->∃k,(k=Keeper.frame\/k=Keeper.machine\/k=Keeper.boundFrame)/\Looks (model F.K.prog F.K.w) h (keeperOf f) k)(h:F.wp (eval e F.env) (λx s'=>F.wp (call f (first++[x])) Q s') s):F.wp (callWith pos f first (backTo pos (starEach [e] F.env)) []) Q s:=by rw[eU hp];exact PySem.W.callWith_of (P:=λ_=>True) rfl hk (Calls.evalArgs_plain (Calls.spliced_cons (wp_mono h λx s' h=>Calls.spliced_nil ⟨trivial,h⟩)))
theorem QP{K:Kx}{f:Value}(h:keeperOf f=pure .machine):∀h,True->∃k,(k=Keeper.frame\/k=Keeper.machine\/k=Keeper.boundFrame)/\Looks (model K.prog K.w) h (keeperOf f) k:=λ_ _=>⟨.machine,.inr (.inl rfl),h▸.now⟩
theorem nI{K:Frag}{iS:Nat}{xs m:Str}{p1 p2 p3 p7:Pos}{e:Expr}{Q:Value->Shared->Prop}(Z00:m5 F.K.B K)(hS:F.c.at iS "self")(e1:W.σ.loc[iS]?=some (some o))(e3:cj 5 o W.σ.H=some (.str xs))(he:isStarred e=false)(jL:(p3.endLine==p7.line)=true)(q:∀t u,F.wp (getMethod (.str xs t) m (do return (<-importBound (.Attribute (.Name "self" p1) "wordchars" p2) F.env).getD true)) (λp s₂=>F.wp (callWith p7 p.1 p.2 (backTo p7 (starEach [e] F.env)) []) Q s₂) (W.toks u).s):F.wp (eval (.Call (.Attribute (.Attribute (.Name "self" p1) "wordchars" p2) m p3) [e] [] p7) F.env) Q W.s:=by refine call_meth (EK he) rfl jL (by show 1<30;decide) (Attribute_any_ (W.name hS e1 (by decide) (by decide) λxo ro=>mz (i:=5) (name:="wordchars") Z00 rfl ro _ e3 _ λyv t ry=>?_));obtain⟨ty,rfl⟩:=ry.str_inv;exact q ty t
theorem AB{K:Frag}{iS iP:Nat}{xs:Str}{p1 p2 p3 p4 p5 p6 p7 p8:Pos}{Q:Value->Shared->Prop}(Z00:m5 F.K.B K)(hS:F.c.at iS "self")(hP:F.c.at iP "punctuation_chars")(hD:F.c.gl "dict")(gD:Gl F.K.B "dict" (.type "dict"))(e1:W.σ.loc[iS]?=some (some o))(e2:W.σ.loc[iP]?=some (some (.str ":()")))(e3:cj 5 o W.σ.H=some (.str xs))(jL:(p3.endLine==p7.line)=true)(sq:(p5.endLine==p6.line)=true)(q:∀tb (W':Wd F),W'.σ=W.σ->W.Le W'->W'.s.heap.DictOf (intKind F.K.prog F.K.w) tb (numsOf [58,40,41])->F.K.B.objs.size<=tb->tb≠F.env.locals->Q (.ref tb) W'.s):F.wp (eval (.Call (.Attribute (.Attribute (.Name "self" p1) "wordchars" p2) "maketrans" p3) [.Call (.Attribute (.Name "dict" p4) "fromkeys" p5) [.Name "punctuation_chars" p8] [] p6] [] p7) F.env) Q W.s:=by
 refine nI Z00 hS e1 e3 rfl jL λt u=>?_;show wpAny _ _ _ _ _ _
 with_reducible refine Jr λk=>?_
 refine call_one (first:=[]) rfl (QP (f:=.builtin "str.maketrans") rfl) (call_meth (EK rfl) rfl sq (by show 1<30;decide) (nC (W:=W.toks k) hD gD rfl (by decide) λW₃ q₃ s₃=>?_));show wpAny _ _ _ _ _ _
 with_reducible refine Js ?_
 have hu:(W₃.s.heap.push mC).get? W₃.s.heap.objs.size=some mC:=q0n _ rfl;have k4:Keeps W₃.s.heap (W₃.s.heap.push mC):=.push _ _;let W₄:=W₃.grow (W₃.s.toks+1) k4 (bu _ _);refine pK (first:=[]) rfl (Calls.evalArgs_plain (Calls.spliced_cons (W₄.name hP ((show W₄.σ=W.σ from s₃)▸e2) (by decide) (by decide) λyp rp=>?_)));obtain⟨tp,rfl⟩:=rp.str_inv;refine Calls.spliced_nil ⟨hu,bK (q0c _) (Kt hu F.room.1 (by decide +kernel) λh₅ k₅ hk₅ hm₅ Q5=>?_)⟩;rw[Wj] at hm₅;have hk₅:Keeps W₄.s.heap h₅:=hk₅;refine bK (q0c _) (Ks (cs:=[58,40,41]) (eL (h:=h₅) (W₄.new (q0c _))) (by decide) hm₅ λh₆ k₆ YJ hm₆ JJ=>?_);have YJ:Keeps h₅ h₆:=YJ;have hs:W₄.s.heap.objs.size<=h₆.objs.size:=q0d Q5 JJ;exact q _ (W₄.grow k₆ (hk₅.trans YJ) hs) s₃ ((W.gv k).trans (q₃.trans ((W₃.lI _ k4 (bu _ _)).trans (W₄.lI _ (hk₅.trans YJ) hs)))) hm₆ (q0d W₄.fr.hr.low Q5) (q1d (q0l W₄.fr.iO.lt Q5))
theorem AP(hc:yQ xs=true):∀cc∈xs.cps,valueAt (numsOf [58,40,41]) ((cc:Nat):Int)=none:=λcc hcc=>by
 unfold yQ at hc;rw[List.all_eq_true] at hc;have h1:=hc cc (Array.mem_toList_iff.mpr hcc);simp only[Bool.and_eq_true,bne_iff_ne,ne_eq] at h1;have ne:∀k:Nat,cc≠k->¬decide ((k:Int)=(cc:Int))=true:=λk h e=>h (Int.ofNat.inj (of_decide_eq_true e)).symm;have e:[((58:Int),Value.none),(40,.none),(41,.none)].find? (λkv=>decide (kv.1=(cc:Int)))=none:=List.find?_eq_none.mpr (LW ⟨ne 58 h1.1.1,ne 40 h1.1.2,ne 41 h1.2,trivial⟩);rw[V0];exact q1s (Option.map (·.2)) e
end
section
variable{F:ck}{W:Wd F}{v o:V}{x y:Value}{K:Frag}
theorem wZ(h:vS v=some i):v=.str i:=by
 cases v with
 |str=>exact q0a h▸rfl
 |_=>exact cE h
theorem vA(Z00:m5 F.K.B K)(hS:F.c.at iS "self")(hT:F.c.at iT "t")(Z8:∃m,W.s.heap.Ns F.env.locals m/\m "t" = some (.ref tb))(hm₂:W.s.heap.DictOf (intKind F.K.prog F.K.w) tb (numsOf [58,40,41]))(hb:F.K.B.objs.size<=tb)(e1:W.σ.loc[iS]?=some (some o))(e3:cj 5 o W.σ.H=some (.str xs))(w1:yQ xs=true)(w2:xs.cps.all (· < 128)=false)(w3:xs.cps.size<=1000)(hm:Y (au (aA F.c.fn.frz 5 o (.str xs))) (λ_=>Z Fl.next) W.σ=some r)(Z9:(pf.endLine==ph.line)=true):F.wp (exec (.Assign [.Attribute (.Name "self" pb) "wordchars" pc] (.Call (.Attribute (.Attribute (.Name "self" pd) "wordchars" pe) "translate" pf) [.Name "t" pg] [] ph) pi) F.env) (aB Go W r) W.s:=by
 refine plainObj_wpAny_Assign_Attribute (nI Z00 hS e1 e3 rfl Z9 λt u=>?_) rfl;show wpAny _ _ _ _ _ _
 with_reducible refine getMethod_builtin (T:="str") (typeIs_str _ _ _) PySem.F.plainAttrs_str PySem.F.slot_str_translate PySem.F.type_str_translate (λa e=>nomatch e) ?_
 obtain⟨mt,nt1,nt2⟩:=Z8;refine call_one (first:=[.str xs t]) rfl (QP (f:=.builtin "str.translate") rfl) (wpAny_Name (wpAny_loadName_local F.kind (by show F.env.scope.names.lookup _=_;rw[F.sc];exact bT (F.sc▸F.nd) hT) nt1 nt2 ?_) (by decide));refine bK (q0c _) (nO (s:=(W.toks u).s) (f:=valueAt (numsOf [58,40,41])) F.room.1 (eL (h:=W.s.heap) (q0d W.fr.hr.big hb)) hm₂.mapOf (AP w1) w2 w3 λh₄ t₄ k₄ YK Ws=>?_);have YK:Keeps W.s.heap h₄:=YK;let W₄:=W.grow k₄ YK Ws;exact W₄.name hS e1 (by decide) (by decide) λxo ro=>(iF (i:=5) (name:="wordchars") Z00 rfl ro (.str xs t₄)).use hm λ_ _ W₅ _ q₅ hm=>aB.ret hm .next ((W.lI k₄ YK Ws).trans q₅)
theorem vW(h:qk c iS iP iT σ=some r):∃o x,σ.loc[iS]?=some (some o)/\σ.loc[iP]?=some (some (.str ":()"))/\cj 5 o σ.H=some (.str x)/\gg x=true/\Y (au (aA c.fn.frz 5 o (.str x))) (λ_=>Z Fl.next) ⟨σ.H,σ.loc.set iT none⟩=some r:=ku h λo h1 h=>ku h λz h2 h=>fE h λx e h=>aH e λz' e1 e=>aH e λv e2 e=>aH e λx' e3 e=>by
 obtain⟨hc,rfl⟩:(z'=":()" /\ gg x'=true)/\x'=x:=ifk (P:=λx=>(z'=":()" /\ gg x'=true)/\x'=x) e λhc=>⟨hc,rfl⟩
 refine⟨o,x',h1,h2.trans (by rw[wZ e1,hc.1]),e2.trans (by rw[wZ e3]),hc.2,?_⟩;refine dH h λc e h=>?_;unfold au at e;split at e
 ·rename_i a H' e4
  obtain rfl:=q0a e;refine(ai (a:=a) (σ₁:=⟨H',σ.loc.set iT none⟩) ?_).trans h;unfold au;rw[e4]
 ·exact cE e
theorem GY(Z00:m5 F.K.B K)(hS:F.c.at iS "self")(hP:F.c.at iP "punctuation_chars")(hT:F.c.at iT "t")(hD:F.c.gl "dict")(gD:Gl F.K.B "dict" (.type "dict"))(jL:(p3.endLine==p7.line)=true)(sq:(p5.endLine==p6.line)=true)(Z9:(pf.endLine==ph.line)=true):eF F [.Assign [.Name "t" p9] (.Call (.Attribute (.Attribute (.Name "self" p1) "wordchars" p2) "maketrans" p3) [.Call (.Attribute (.Name "dict" p4) "fromkeys" p5) [.Name "punctuation_chars" p8] [] p6] [] p7) pa,.Assign [.Attribute (.Name "self" pb) "wordchars" pc] (.Call (.Attribute (.Attribute (.Name "self" pd) "wordchars" pe) "translate" pf) [.Name "t" pg] [] ph) pi] (qk F.c iS iP iT):=λW r hm=>by
 obtain⟨o,xs,e1,e2,e3,e4,e5⟩:=vW hm;clear hm;unfold gg at e4;simp only[Bool.and_eq_true,Bool.not_eq_true',decide_eq_true_eq] at e4;obtain⟨σ',rfl⟩:∃σ',r=(.next,σ'):=dH e5 λc _ h=>⟨c.2,(q0a h).symm⟩
 have my:iT≠iS:=λe=>q1t (q0v (q0a ((show F.c.at iS "t" from e▸hT).symm.trans hS))).1 (by decide +kernel);refine wpAny_execs_cons (wpAny_Assign_Name (AB Z00 hS hP hD gD e1 e2 e3 jL sq λtb W₁ s₁ q₁ hm₁ hb₁ ntb=>W₁.zD hT (.ref tb) λW₂ _ s₂ q₂ Z8 kp=>?_) rfl);rw[s₁] at s₂;refine wpAny_execs_cons (wp_mono (vA (W:=W₂) (xs:=xs) (o:=o) Z00 hS hT Z8 (hm₁.imp λ_=>Exists.imp λ_=>Exists.imp λ_=>q2l (kp _ _ ntb)) hb₁ (s₂▸(q0j my).trans e1) (s₂▸e3) e4.1.1 e4.1.2 e4.2 (s₂▸e5) Z9) λf s' p=>?_)
 induction p with
 |mk ρ' fr bare MY le=>
  cases MY
  exact wpAny_execs_nil ⟨ρ',fr,bare,.next,eT.trans (q₁.trans q₂) le⟩
theorem Eh{T:fh}{Kx:Kx}(TK:cZ Kx.B K T):YOk Kx (Nt T):=λp G F hK b m h=>
 aH h λv h1 h=>aH h λiS h2 h=>aH h λiP h3 h=>aH h λiT h4 h=>ifk h λk=>by
  have TK':cZ F.K.B K T:=hK▸TK;have e:=Dt h1;unfold pA.Ok at e;obtain⟨⟨a1,a2,a3,a4,a5,a6,a7⟩,⟨b1,b2,b3,b4,b5,b6⟩,⟨c1,c2,c3⟩,g⟩:=k;clear h h1;rw[a1,a2,a3,a4,a5,a6,a7,b1,b2,b3,b4,b5,b6] at e;exact e▸GY TK'.base (lE h2) (lE h3) (lE h4) (ju g).1 (TK'.glb _ _ (ju g).2).1 c1 c2 c3
end
structure qI(M:Model)(h:Heap)(C:Addr):Prop where
 obj:∃oc od cd sl,h.get? C=some ⟨oc,od,.cls cd,sl⟩/\cd.abstract=false/\cd.hasDel=false/\cd.mro.isEmpty=false
 chk:Looks M h (checkBuiltinCall "object.__new__" ⟨[.ref C],[]⟩) ()
 isT:Looks M h (isType (.ref C)) true
 mh:Looks M h (Bind.madeHere "object.__new__" (.ref C)) ()
 base:Looks M h (Bind.staticBase (.ref C)) (.type "object")
 made:Looks M h (Bind.madeBy (.type "object")) (some "object.__new__")
 none:Looks M h (Bind.madeBy (.ref C)) none
 self:Looks M h (isSubtype (.ref C) (.ref C)) true
 top:Looks M h (isSubtype (.ref C) (.type "object")) true
 call:Looks M h (specialOf (.ref C) "__call__") (some (.builtin "type.__call__"))
 typ:Looks M h (isInstance (.ref C) (.type "type")) true
section
variable{prog:Program}{w:World}{A:Around}{C:Addr}{R:Result->Shared->Prop}{h:Heap}{g:Array GenState}{d:PySem.Drawn}{t:Nat}{os:OsState}
theorem QE(Y00:qI (model prog w) h C)(hq:R (.ok (.ret (.ref (h.objs.size+1)))) ⟨(h.push emptyDict).push (instObj C h.objs.size),g,d,t,os⟩):codeAny (model prog w) A (.call (.builtin "object.__new__") ⟨[.ref C],[]⟩) R ⟨h,g,d,t,os⟩:=by obtain⟨oc,od,cd,sl,hC,e1,e2,e4⟩:=Y00.obj;have F:=PySem.F.objNew;refine codeAny_call_builtin_at (Code.quiet_builtin _ F.quiet) F.entry (Y00.chk.here ?_);have cdl:Looks (model prog w) h (classData C) cd:=(Looks.ld (part:=none) hC).andThen .now;unfold Builtin.«object.__new__»;refine wb (Y00.isT.here ?_);refine wb (Y00.mh.here ?_);refine wb (cdl.here ?_);refine q1i (KPc.ite_no (Bool.eq_false_iff.mp e1) ?_);show wpAny _ _ ((alloc emptyDict>>=λx=>pure (some x))>>=_) _ _ _;refine wb (wb (wpAny_alloc (q1e (wb ?_))));show wpAny _ _ (newObjAsIs _ _ _) _ _ _;unfold newObjAsIs classHasDel;refine wb (wpAny_alloc (wb (wb (wpAny_load (q0p _ (q0p _ hC)) (q1e ?_)))));rw[e2];refine q1e (q1e ?_);show R _ _;rw[Heap.size_push];exact hq
end
section
variable{prog:Program}{w:World}{A:Around}{E:Value->Shared->Prop}{s:Shared}
theorem JX:findCls [] (.type "object") (.type "type") (PySem.Str.ofString "__new__")=some (.val (.builtin "object.__new__")):=by kernel_rfl
theorem Qz:handedOut (.builtin "object.__new__")=pure (.builtin "object.__new__"):=by kernel_rfl
theorem Jp(h:Q (.builtin "object.__new__",[]) {s with toks:=s.toks+1}):wpAny (model prog w) A (getMethod (.type "object") (PySem.Str.ofString "__new__") pl) Q E s:=by
 have X:Frag.In [] s.heap:=by intro a o h;cases h
 have Ef:opaqueClassAbove (.type "object")=pure none:=by unfold opaqueClassAbove;dsimp only;rw[show Manifest.isStub "object" = false by decide +kernel];rfl
 have ht:typeOf (.type "object")=pure (.type "type"):=by first | rfl | kernel_rfl
 have L0:Looks (model prog w) s.heap (typeOf (.type "object")) (.type "type"):=Looks.of_pure ht;have hg:findIn [] (.type "type") "__getattribute__" = some (some (.builtin "type.__getattribute__")):=type_tga;unfold getMethod specialOf;refine q1f (q1f (L0.here ((looks_findIn X hg).here ?_)));dsimp only;rw[q1k canon_tga];refine wb (q1h (Q:=λv=>Q (v,[])) (E:=E) ?_ (λ_ _ z=>q1e z) λ_ _ z=>z);have LO:Looks (model prog w) s.heap (opaqueClassAbove (.type "object")) none:=Looks.of_pure Ef;refine cls_open X LO L0 hg (looks_hook X (r:=none) (by rfl)) (by show subIn [] _ _=_;rfl) JX ?_;show wpAny _ _ (ret (.builtin "object.__new__")) _ _ _;exact q1e (q1g Qz h)
end
section
variable{F:ck}{W:Wd F}{K:Frag}{T:fh}{v u o:V}{x y xu xo:Value}{S:wT}{rI:aQ}{k:Nat}{mN mI:M Fl}
theorem zO(hn:F.c.at i x')(hO:F.c.gl "object")(gO:Gl F.K.B "object" (.type "object"))(hd:(x'==("__debug__" : PySem.Str))=false)(hc:(x'==("__classdict__" : PySem.Str))=false)(N:∀h,i4 F.K.B h->qI (model F.K.prog F.K.w) h aL)(hl:(p2.endLine==p4.line)=true):aM F (.Call (.Attribute (.Name "object" p1) "__new__" p2) [.Name x' p3] [] p4) (ng i):=λW c hm=>by
 refine call_meth (EK rfl) rfl hl (by show 1<30;decide) (nC hO gO rfl (by decide) λW₁ q₁ e₁=>?_);show wpAny _ _ _ _ _ _
 with_reducible refine Jp ?_
 let W₂:=W₁.toks (W₁.s.toks+1);refine ku (e₁.symm▸hm:ng i W₂.σ=some c) λv h1 hm=>?_;refine call_one (first:=[]) rfl (QP (f:=.builtin "object.__new__") rfl) (W₂.name hn h1 hd hc λy ry=>?_);obtain⟨a,e2,e3⟩:∃a,(λH=>(Gv v).bind λu=>if u=Value.ref aL then some (V.ref H.length,H++[O.inst aL bg]) else none) W₂.σ.H=some a/\c=(a.1,⟨a.2,W₂.σ.loc⟩):=by
  unfold au at hm;split at hm
  ·rename_i a H' e;exact⟨(a,H'),e,(q0a hm).symm⟩
  ·exact cE hm
 refine aH e2 λu e4 e5=>ry.T4 (P:=λy=>F.wp (call (.builtin "object.__new__") [y]) _ W₂.s) e4 ?_;by_cases hu:u=.ref aL
 ·subst hu
  obtain rfl:=q0a ((q1k rfl).symm.trans e5);subst e3;exact wpAny_call (QE (N _ W₁.fr.hr.stays) (aB.after (q₁.trans ((W₁.gv _).trans (W₂.rz aL))) (aB.of (W₂.D7 aL) (.ref (d:=W₂.s.heap.objs.size) W₂.iI) .refl)))
 ·exact cE ((q1l hu).symm.trans e5)
structure mE(Kx:Kx)(K:Frag)(S:wT)(rI:aQ):Prop where
 new:∀h,i4 Kx.B h->qI (model Kx.prog Kx.w) h aL
 fnN:FnOk0 Kx.B S.newF S.rN
 bindN:∀x y,bindArgs S.rN.fd ⟨[x,y],[]⟩=(newTuple [y]>>=λt=>alloc {cls:=.type "dict",data:=.dict #[]}>>=λd=>pure [(("cls" : PySem.Str),x),("args",t),("kwargs",.ref d)])
 parN:∀z∈(["cls","args","kwargs"]:List PySem.Str),S.rN.fd.scope.names.lookup z=some .local\/S.rN.fd.scope.names.lookup z=some .cell
 bindI:∀s:Shared,i4 Kx.B s.heap->∀x y,∃t,BindsTo s rI.fd ⟨[x,y],[]⟩ [(("self" : PySem.Str),x),("initial_value",y),("newline",.str "\n" t)]
 parI:∀z∈(["self","initial_value","newline"]:List PySem.Str),rI.fd.scope.names.lookup z=some .local\/rI.fd.scope.names.lookup z=some .cell
 typ:typeIn K (.ref aL)=some (.type "type")
 reads:readsIn K aL (.type "type")=true
 find:∃p rest,findCls K (.ref aL) (.type "type") (PySem.Str.ofString "__new__")=some (.get (.builtin "staticmethod.__get__") (.ref p) .none (.ref aL))/\recIn K p "staticmethod" = some (.ref S.newF::rest)
 init:findIn K (.ref aL) "__init__" = some (some (.ref S.iniF))
 fn:typeIn K (.ref S.iniF)=some (.type "function")
noncomputable def Wd.Nz(W:Wd F):Wd F:=W.chg W.s.toks (.snoc _ (W.s.heap.objs.size,W.s.heap.objs.size)) (W.fr.hr.make (o:=.dict []) (Keeps.push _ mP) (bu _ _) (q0c _) (q0c _) (.dict (Heap.DictOf.new _) .nil)) (λb ob _=>Keeps.push _ _ b ob) (oh (q0c _) (q0c _))
theorem Wd.Jx(W:Wd F):W.Le W.Nz:=W.tU _ _ _ _ _ (bu _ _)
theorem cD.after{W₁:Wd F}{c:V×St}{M:Model}{A:Around}{cd:Code}{s:Shared}(q:W.Le W₁)(h:codeAny M A cd (cD (aB VR W₁ c)) s):codeAny M A cd (cD (aB VR W c)) s:=cD.use h λ_ _=>aB.after q
theorem GT{A':Around}{c:V×List O}(Q:mE F.K K S rI)(hz:F.c.fn.frz=[])(fH:F.K.B.NoLimit)(hA:ft (k+1) A')(ru:VR W.ρ W.s.heap u xu)(SN:∀F':ck,F'.K=F.K->F'.c=bI S.rN k->eF F' S.rN.body mN)(hm:mj S.rN mN [("cls",.top (.ref aL)),("args",.tup [u]),("kwargs",.ref W.σ.H.length)] (W.σ.H++[.dict []])=some c):codeAny (model F.K.prog F.K.w) A' (.call (.ref S.newF) ⟨[.ref aL,xu],[]⟩) (cD (aB VR W (c.1,⟨c.2,W.σ.loc⟩))) W.s:=by
 let W₁:=W.push {cls:=.type "tuple",data:=.seq #[xu]};let W₂:=W₁.Nz;have q:W.Le W₂:=(W.rr _).trans W₁.Jx;have ZX:VR W₂.ρ W₂.s.heap (.tup [u]) (.ref W.s.heap.objs.size):=.tup (W.new (q0c _)) ⟨_,Keeps.push _ _ _ _ (q0n _ rfl),rfl,_,rfl⟩ (.cons (q.vr ru) .nil);refine mQ (P:=λc=>codeAny (model F.K.prog F.K.w) A' (.call (.ref S.newF) ⟨[.ref aL,xu],[]⟩) (cD (aB VR W (c.1,⟨c.2,W.σ.loc⟩))) W.s) hm λd e=>cD.after q ?_;refine oZ (W:=W₂) (binds:=[(("cls" : PySem.Str),.ref aL),("args",.ref W.s.heap.objs.size),("kwargs",.ref W₁.s.heap.objs.size)]) W.fr.hr.stays hz Q.fnN fH hA (λQ' E' q'=>?_)
  (.cons (.top rfl) (.cons ZX (.cons (.ref (d:=W₁.s.heap.objs.size) W₁.iI) .nil))) (show(["cls","args","kwargs"]:List PySem.Str).Nodup by decide +kernel) Q.parN SN e
 rw[Q.bindN];exact wb (q2a (wb (wpAny_alloc (q1e q'))) (by show 1<=sizeLine;decide))
theorem B9(Q:mE F.K K S rI)(hz:F.c.fn.frz=[])(fH:F.K.B.NoLimit)(hA:ft (k+1) A')(ok:FnOk0 F.K.B S.iniF rI)(ro:VR W.ρ W.s.heap o xo)(ru:VR W.ρ W.s.heap u xu)(SI:∀F':ck,F'.K=F.K->F'.c=bI rI k->eF F' rI.body mI)(hm:mj rI mI [("self",o),("initial_value",u),("newline",.str "\n")] W.σ.H=some c):codeAny (model F.K.prog F.K.w) A' (.call (.ref S.iniF) ⟨[xo,xu],[]⟩) (cD (aB VR W (c.1,⟨c.2,W.σ.loc⟩))) W.s:=by
 obtain⟨t,hb⟩:=Q.bindI W.s W.fr.hr.stays xo xu;exact mQ (P:=λc=>codeAny (model F.K.prog F.K.w) A' (.call (.ref S.iniF) ⟨[xo,xu],[]⟩) (cD (aB VR W (c.1,⟨c.2,W.σ.loc⟩))) W.s) hm λd e=>
  oZ (binds:=[(("self" : PySem.Str),xo),("initial_value",xu),("newline",.str "\n" t)]) W.fr.hr.stays hz ok fH hA (λQ' E' q'=>hb _ _ E' Q' q') (.cons ro (.cons ru (.cons (.str _ t) .nil))) (show(["self","initial_value","newline"]:List PySem.Str).Nodup by decide +kernel) Q.parI SI e
end
section
variable{F:ck}{W:Wd F}{K:Frag}{T:fh}{v u o:V}{x y xu xo:Value}{S:wT}{rI:aQ}{k:Nat}{mN mI:M Fl}
theorem wu(h:nv v=true):v=.none:=by
 cases v with
 |none=>rfl
 |_=>exact q1t h q0f
theorem Ca(X:K.In F.K.B)(Q:mE F.K K S rI)(hz:F.c.fn.frz=[])(fH:F.K.B.NoLimit)(hk:F.c.k=k+2)(ok:FnOk0 F.K.B S.iniF rI)(ru:VR W.ρ W.s.heap u xu)(SN:∀F':ck,F'.K=F.K->F'.c=bI S.rN k->eF F' S.rN.body mN)(SI:∀F':ck,F'.K=F.K->F'.c=bI rI k->eF F' rI.body mI)(e:zN S.rN mN rI mI u W.σ.H=some c):codeAny (model F.K.prog F.K.w) F.A (.call (.ref aL) ⟨[xu],[]⟩) (cD (aB VR W (c.1,⟨c.2,W.σ.loc⟩))) W.s:=by
 refine aH e λa e1 e=>aH e λn e2 e=>aH e λd e3 e=>?_;by_cases hd:d.1=aL
 case neg=>exact cE ((q1l hd).symm.trans e)
 refine aH ((q1k hd).symm.trans e) λb e4 e=>?_;obtain⟨hn,rfl⟩:nv b.1=true/\c=(.ref n,b.2):=ifk (P:=λc=>nv b.1=true/\c=(.ref n,b.2)) e λh=>⟨h,rfl⟩
 clear e;have N:=Q.new _ W.fr.hr.stays;obtain⟨oc,od,cd,sl,hC,a1,a2,a4⟩:=N.obj;have call:=N.call;have room:ft (k+1) (F.A.under (.builtin "type.__call__" ⟨.ref aL::[xu],[]⟩)):=(show ft (k+2) F.A from hk▸F.room).by (d:=1) (u:=1) rfl (q1s (F.A.depth + ·) (pS aL [xu])) (by decide) (q1s (F.A.units + ·) (sK _)) (by decide);refine codeAny_of_tree ?_;show wpAny _ _ (callAny (.ref aL) _) _ _ _;refine nd_load hC ?_;show wpAny _ _ (callAny.viaDunder (.ref aL) _) _ _ _;unfold callAny.viaDunder;refine q1f (call.at ?_);dsimp only;rw[tc_bind];refine wb (q1e (wb (q1e ?_)));refine q1e (a:=Fin.again (.call (.builtin "type.__call__") ⟨.ref aL::[xu],[]⟩)) (And.intro rfl ?_);refine codeAny_call_builtin_at (Code.quiet_builtin _ (by decide +kernel)) entry_typeCall (check_slot tc_kind tc_split N.typ (tc_args _ _ _) ?_);unfold Builtin.«type.__call__»;have hm:Looks (model F.K.prog F.K.w) W.s.heap (mroOf (.ref aL)) cd.mro:=((Looks.ld (part:=none) hC).andThen .now).andThen .now;refine wb (hm.here ?_);refine q1i (KPc.ite_no (Bool.eq_false_iff.mp a4) ?_);refine wb (N.none.here ?_);obtain⟨mF,Fr0⟩:=W.fr.WY;obtain⟨pp,rest,f1,f2⟩:=Q.find;refine wb ?_
 with_reducible refine cls_sm Fr0 X Q.typ Q.reads f1 f2 rfl ?_
 refine wb (q1u (wpAny_call ?_));clear a1 a2 a4 hC call hm N Fr0 f1 f2 rest pp oc od cd sl mF;refine cD.use (GT (W:=W.toks (W.s.toks+1)) Q hz fH room ru SN e1) λy s₂ p=>p.open λW₂ r₂ q₂ e5 e6=>?_;subst e6;have q:W.Le W₂:=(W.gv _).trans q₂;refine r₂.ew e2 λp hp=>?_;have e5:W₂.σ=⟨a.2,W.σ.loc⟩:=e5;refine W₂.qs (c:=d) (e5▸e3) hp λes m _ hx _ _=>?_;rw[hd] at hx;have N₂:=Q.new _ W₂.fr.hr.stays;have X₂:=X.keeps W₂.fr.hr.stays;have t1:Looks (model F.K.prog F.K.w) W₂.s.heap (typeOf (.ref p.1)) (.ref aL):=(Looks.ld hx).andThen .now;have b1:Looks (model F.K.prog F.K.w) W₂.s.heap (bindSpecial (.ref S.iniF) (.ref p.1)) (.ref S.iniF,[.ref p.1]):=bind_fn X₂ _ Q.fn;refine wb ((t1.andThen N₂.self:Looks _ _ (isInstance (.ref p.1) (.ref aL)) true).here ?_);refine wb (q1u ?_);refine wb ((t1.andThen (looks_findIn X₂ Q.init):Looks _ _ (specialOf (.ref p.1) "__init__") (some (.ref S.iniF))).here ?_);refine q1u (wb (b1.here ?_));refine wb (wpAny_call ?_);clear t1 b1 X₂ N₂ hx;refine cD.use (B9 (W:=W₂) Q hz fH room ok (.ref (d:=p.2) hp) (q.vr ru) SI (by rw[e5];exact e4)) λy s₃ h=>h.open λW₃ r₃ q₃ e7 e8=>?_;subst e8;obtain rfl:y=.none:=(wu hn▸r₃:VR W₃.ρ W₃.s.heap .none y).none_inv;have e7:W₃.σ=⟨b.2,W.σ.loc⟩:=e7.trans (by rw[e5]);exact q1e (q1e (e7▸aB.of W₃ (.ref (d:=p.2) (q₃.pre _ _ hp)) (q.trans q₃)))
end
section
variable{F:ck}{K:Frag}{T:fh}{S:wT}{rI:aQ}{k:Nat}{mN mI:M Fl}{p:Ev}
theorem DW(Q:mE F.K K S rI):uP F.K (.ref aL):=λh st=>by
 have N:=Q.new h st;obtain⟨oc,od,cd,sl,hC,_⟩:=N.obj;exact⟨.machine,.inr (.inl rfl),(Looks.ld (part:=none) hC).andThen (N.call.andThen .now)⟩
theorem Xd{γ:Type}{m:M V}{g:List V->M γ}{σ:St}:Y (an [m]) g σ=Y m (λx=>g [x]) σ:=dS.trans (q1j (q1s (Y m) (funext λx=>funext λs=>dS.trans rfl)) σ)
theorem Oa{x':Str}{q pos:Pos}{e:Expr}{m:M V}(X:K.In F.K.B)(Q:mE F.K K S rI)(hx:F.c.gl x')(g:Gl F.K.B x' (.ref aL))(hd:(x'==("__debug__" : Str))=false)(hz:F.c.fn.frz=[])(hk:F.c.k=k+2)(ok:FnOk0 F.K.B S.iniF rI)(fH:F.K.B.NoLimit)(he:isStarred e=false)(SE:aM F e m)(SN:∀F':ck,F'.K=F.K->F'.c=bI S.rN k->eF F' S.rN.body mN)(SI:∀F':ck,F'.K=F.K->F'.c=bI rI k->eF F' rI.body mI):aM F (.Call (.Name x' q) [e] [] pos) (Y m λu=>au (zN S.rN mN rI mI u)):=λW c hm=>
 gR (g:=λvs=>ba (one vs) (λu=>au (zN S.rN mN rI mI u)) dead) hx g rfl hd (DW Q) (.cons he SE .nil) (λ_=>rfl) (Xd.trans hm) λus xs W₂ r₂ q₂ hm=>by
  cases hp:one us with
  |none=>rw[hp] at hm;exact cE hm
  |some u=>
   rw[hp] at hm;refine r₂.Dx (P:=λxs=>F.wp (call (.ref aL) xs) _ W₂.s) hp λxu ru=>iz q₂ (dg.run (λd e=>?_) hm);exact cD.res (Ca X Q hz fH hk ok ru SN SI e)
theorem vZ(TK:cZ F.K.B K T)(N:∀h,i4 F.K.B h->qI (model F.K.prog F.K.w) h aL)(h:xY T F.c o nm ap es pos=some m):aM F (.Call (.Attribute o nm ap) es [] pos) m:=aH h λon h1 h=>aH h λe1 h2 h=>aH h λx h3 h=>aH h λi h4 h=>ifk h λhc=>by
 obtain⟨⟨c1,c2,c3⟩,⟨c4,c5,c6⟩,c7⟩:=hc;rw[aV h1,cy h2,aV h3,c1,c2];exact zO c7 (ju c3).1 (TK.glb _ _ (ju c3).2).1 c5 c6 N c4
theorem AQ{c:Comprehension}{t i:Expr}{f:List Expr}(h1:c.target=t)(h2:c.iter=i)(h3:c.ifs=f)(h4:c.is_async=0):c=⟨t,i,f,0⟩:=by cases c;cases h1;cases h2;cases h3;cases h4;rfl
theorem wv(TK:cZ F.K.B K T)(GB:jn F.K.B)(G:Good F.K p)(h:yx T p F.c x e=some m):aM F (.Call (.Name x q) [e] [] pos) m:=aH h λv h1 h=>ifk h λhc=>by
 have O:=JU h1;obtain⟨⟨c1,c2⟩,⟨c3,c4⟩,⟨c5,c6,c7,c8⟩,⟨c9,ca,cb,cc⟩,cd,ce,cf,cg⟩:=hc;have ecl:v.cl=⟨.Tuple [.Name "i" v.i'.2,.Name "j" v.j'.2] v.tt.2.1 v.tt.2.2,.Call (.Name "zip" v.zn.2) [v.ab.1,v.ab.2] [] v.z.2.2.2,[],0⟩:=by have h1:=(kX O.tt).trans (by rw[iD O.ij,aV O.i',aV O.j',c7,c8]);have h2:=(fT O.z).trans (by rw[aV O.zn,c3,iD O.ab,List.isEmpty_iff.mp cc]);exact AQ h1 h2 (List.isEmpty_iff.mp ca) cb
 have ebo:v.g.1=.BinOp (.Name "i" v.i.2) .Add (.Name "j" v.j.2) v.bo.2.2.2:=(zw O.bo).trans (by rw[aV O.i,aV O.j,c5,c6,c9]);rw[zv O.g,cy O.cl,ecl,ebo,c1];exact Om GB (ju c2).1 (TK.glb _ _ (ju c2).2).1 (by decide +kernel) (ju c4).1 (TK.glb _ _ (ju c4).2).1 (by decide +kernel) cd cg (.cons ce (G.e F rfl _) (.cons cf (G.e F rfl _) .nil))
theorem vm(TK:cZ F.K.B K T)(Q:∀rI,T.fns.lookup S.iniF=some rI->mE F.K K S rI)(G:Good F.K p)(h1:gB T F.c "StringIO" (.ref aL)=true)(h3:F.c.fn.frz=[])(h4:isStarred e=false)(h:xD T S p F.c e=some m):aM F (.Call (.Name "StringIO" q) [e] [] pos) m:=aH h λrI hr h=>mQ (P:=λm=>aM F (.Call (.Name "StringIO" q) [e] [] pos) m) h λk hk=>
 Oa TK.base.inB (Q rI hr) (ju h1).1 (TK.glb _ _ (ju h1).2).1 (by decide +kernel) h3 (lu hk) (TK.fns _ _ hr).toFnOk0 TK.lim h4 (G.e F rfl _) G.fb G.fb
theorem Ei{Kx:Kx}(TK:cZ Kx.B K T)(GB:jn Kx.B)(Q:∀rI,T.fns.lookup S.iniF=some rI->mE Kx K S rI)(N:∀h,i4 Kx.B h->qI (model Kx.prog Kx.w) h aL):XOk Kx (Ej T S):=λp G F hK e m h=>by
 subst hK;refine aH h λx h1 h=>?_;rw[fT h1];by_cases h2:x.2.2.1.isEmpty=true
 case neg=>exact cE ((q1l h2).symm.trans h)
 replace h:=(q1k h2).symm.trans h;rw[List.isEmpty_iff.mp h2];cases ha:hX x.1 with
 |some a=>
  rw[ha] at h;rw[cQ ha];exact vZ TK N h
 |none=>
  rw[ha] at h;refine aH h λf h3 h=>aH h λe1 h4 h=>?_;rw[aV h3,cy h4];by_cases hc:f.1="StringIO" /\ gB T F.c "StringIO" (.ref aL)=true/\F.c.fn.frz=[]/\isStarred e1=false
  ·rw[hc.1]
   exact vm TK Q G hc.2.1 hc.2.2.1 hc.2.2.2 ((q1k hc).symm.trans h)
  ·exact wv TK GB G ((q1l hc).symm.trans h)
end
noncomputable def dk(a:Arguments×List Stmt×Scope)(name qualname:PySem.Str)(oU n7 code:Value):aQ:=⟨nH a name qualname 3 [] oU .none .none n7 none code .none 0,(a.1.posonlyargs++a.1.args).map (·.arg),a.2.1⟩
noncomputable def Tb:Addr:=46
def Dc:aQ:=dk (cL 3) "func_std_string" "func_std_string" .none (.str "cpy313.pstats" 286) (.ref 45)
noncomputable def Tj:Addr:=53
def Dl:aQ:=dk (cL 4) "add_func_stats" "add_func_stats" .none (.str "cpy313.pstats" 286) (.ref 52)
noncomputable def Ti:Addr:=60
def Dk:aQ:=dk (cL 5) "add_callers" "add_callers" .none (.str "cpy313.pstats" 286) (.ref 59)
noncomputable def Te:Addr:=74
def Dg:aQ:=dk (cL 8) "_index" "_index" .none (.str "io" 325) (.ref 73)
noncomputable def L1:Addr:=101
def gX:aQ:=dk (aU 10 1) "__new__" "IOBase.__new__" .none (.str "io" 325) (.ref 100)
noncomputable def wR:Addr:=378
def mM:aQ:=dk (aU 14 1) "__init__" "StringIO.__init__" (.ref 371) (.str "io" 325) (.ref 377)
noncomputable def LX:Addr:=385
def Da:aQ:=dk (aU 14 2) "__translated" "StringIO.__translated" .none (.str "io" 325) (.ref 384)
noncomputable def L3:Addr:=392
def Dj:aQ:=dk (aU 14 3) "__check" "StringIO.__check" .none (.str "io" 325) (.ref 391)
noncomputable def YY:Addr:=554
def Vu:aQ:=dk (aU 14 25) "read" "StringIO.read" (.ref 547) (.str "io" 325) (.ref 553)
noncomputable def F5:Addr:=667
def vO:aQ:=dk (aU 23 0) "__init__" "shlex.__init__" (.ref 660) (.str "cpy313.shlex" 1040) (.ref 666)
noncomputable def LZ:Addr:=674
def Df:aQ:=dk (aU 23 1) "punctuation_chars" "shlex.punctuation_chars" .none (.str "cpy313.shlex" 1040) (.ref 673)
noncomputable def L2:Addr:=704
def vQ:aQ:=dk (aU 23 5) "get_token" "shlex.get_token" .none (.str "cpy313.shlex" 1040) (.ref 703)
noncomputable def LY:Addr:=711
def Db:aQ:=dk (aU 23 6) "read_token" "shlex.read_token" .none (.str "cpy313.shlex" 1040) (.ref 710)
noncomputable def Td:Addr:=754
def De:aQ:=dk (cL 25) "_law_put" "_law_put" .none (.str "law_nq0206_01" 1181) (.ref 753)
noncomputable def F4:Addr:=761
def tv:aQ:=dk (cL 26) "_law_shut" "_law_shut" .none (.str "law_nq0206_01" 1181) (.ref 760)
noncomputable def Tc:Addr:=768
def Dd:aQ:=dk (cL 27) "_law_run" "_law_run" .none (.str "law_nq0206_01" 1181) (.ref 767)
noncomputable def wQ:Addr:=775
def n5:aQ:=dk (cL 28) "_law_marks" "_law_marks" .none (.str "law_nq0206_01" 1181) (.ref 774)
noncomputable def wS:Addr:=780
def n6:aQ:=dk (cL 29) "_law_ended" "_law_ended" .none (.str "law_nq0206_01" 1181) (.ref 779)
noncomputable def se:Addr:=787
def j9:aQ:=dk (cL 30) "_law_summed" "_law_summed" .none (.str "law_nq0206_01" 1181) (.ref 786)
noncomputable def sf:Addr:=792
def ke:aQ:=dk (cL 31) "_law_joined" "_law_joined" .none (.str "law_nq0206_01" 1181) (.ref 791)
noncomputable def Tf:Addr:=797
def Dh:aQ:=dk (cL 32) "_law_figures" "_law_figures" .none (.str "law_nq0206_01" 1181) (.ref 796)
noncomputable def Th:Addr:=802
def Di:aQ:=dk (cL 33) "_law_due" "_law_due" .none (.str "law_nq0206_01" 1181) (.ref 801)
noncomputable def uM:Addr:=809
def q8:aQ:=dk (cL 34) "law" "law" .none (.str "law_nq0206_01" 1181) (.ref 808)
noncomputable def TT(L:Nat):fh where
 glb:=[("func_std_string",.ref Tb),("add_func_stats",.ref Tj),("add_callers",.ref Ti),("_index",.ref Te),("_law_put",.ref Td),("_law_shut",.ref F4),("_law_run",.ref Tc),("_law_marks",.ref wQ),("_law_ended",.ref wS),("_law_summed",.ref se),("_law_joined",.ref sf),("_law_figures",.ref Tf),("_law_due",.ref Th),("law",.ref uM),("shlex",.ref aZ),("StringIO",.ref aL),("BytesIO",.ref 361),("deque",.type "collections.deque"),("len",.builtin "len"),("isinstance",.builtin "isinstance"),("sum",.builtin "sum"),("type",.type "type"),("int",.type "int"),("bool",.type "bool"),("str",.type "str"),("list",.type "list"),("tuple",.type "tuple"),("range",.type "range"),("zip",.type "zip"),("object",.type "object"),("dict",.type "dict")]
 fns:=[(Tb,Dc),(Tj,Dl),(Ti,Dk),(Te,Dg),(wR,mM),(LX,Da),(L3,Dj),(YY,Vu),(F5,vO),(LZ,Df),(L2,vQ),(LY,Db),(Td,De),(F4,tv),(Tc,Dd),(wQ,n5),(wS,n6),(se,j9),(sf,ke),(Tf,Dh),(Th,Di),(uM,q8)]
 ini:=[(aZ,F5)]
 mts:=[("get_token",aZ,L2),("read_token",aZ,LY),("read",aL,YY),("_StringIO__check",aL,L3),("_StringIO__translated",aL,LX)]
 prs:=[("punctuation_chars",aZ,LZ)]
 lf:=L
noncomputable def SS(r:aQ):wT:=⟨L1,r,wR⟩
def EE(L n:Nat):Ev:=ev (TT L) (Ej (TT L) (SS gX)) (Nt (TT L)) n
def bc(L:Nat)(r:aQ)(n k:Nat)(vs:List V):HM V:=fV r ((EE L n).b (bI r k) r.body) vs
noncomputable def Zj(nm:Bool)(it:It):Bool:=match it with
 |.lst _=>true
 |.items .. => !nm
 |_=>nm
def lP(L:Nat)(nm:Bool)(mi:M It)(ma:V->M Unit)(mb:List Nat->M Fl)(z:List Nat):M Fl:=Y mi λit=>if Zj nm it then rH L ma (mb (it.hold++z)) it 0 else λ_=>none
noncomputable def dF(L:Nat)(mi:M It)(loc:List (Option V)->List (Option V))(ix:Nat)(t:List Nat->Option (M Bool))(me:List Nat->M V)(z:List Nat):M V:=Y mi λit=>λσ=>if gh it then
 match oV (it.hold++z) ix (t (it.hold++z)) (me (it.hold++z)) σ.H.length it L 0 ⟨σ.H++[.list []],loc σ.loc⟩ with
 |some (_,σ')=>some (.ref σ.H.length,⟨σ'.H,σ.loc⟩)
 |none=>none
 else none
theorem cB{r:aQ}{mb:M Fl}{vs:List V}{H H':List O}{lc l':List (Option V)}{fl:Fl}(hl:vs.length=r.params.length)(h0:lF r (r.params.zip vs)=lc)(h:mb ⟨H,lc⟩=some (fl,⟨H',l'⟩)):fV r mb vs H=some (dX fl,H'):=by unfold fV;rw[q1k hl,h0,h]
def MA(L n k:Nat):M Fl:=Y (Y (af 0) λa=>Y (Z (.int 2)) λb=>av a b) λv=>Y (aE 1 v) λ_=>Z .next
def Mz(L n k:Nat):M Fl:=Y (Y (Y (af 1) λa=>Y (cx (some (Z (.int 1)))) λi=>Y (cx (some (Y (Z (.int 1)) g7))) λj=>au (bY a i j)) (Dr "{%s}")) λv=>Z (.ret v)
def XD(L n k:Nat):M Fl:=ak (Mz L n k) (Z .next)
def Uz(L n k:Nat):M Fl:=Y (af 1) λv=>Z (.ret v)
def NH(L n k:Nat):M Fl:=ak (Uz L n k) (Z .next)
def My(L n k:Nat):M Fl:=Y (bv [Y (d0 [] .startswith (af 1) [Z (.str "<")]) aD,Y (d0 [] .endswith (af 1) [Z (.str ">")]) aD]) λt=>if t then XD L n k else NH L n k
def NG(L n k:Nat):M Fl:=ak (MA L n k) (ak (My L n k) (Z .next))
def Mx(L n k:Nat):M Fl:=Y (Y (af 0) (Dr "%s:%d(%s)")) λv=>Z (.ret v)
def NF(L n k:Nat):M Fl:=ak (Mx L n k) (Z .next)
def vB(L n k:Nat):M Fl:=Y (Y (Y (af 0) λa=>Y (cx none) λi=>Y (cx (some (Z (.int 2)))) λj=>au (bY a i j)) λa=>Y (Y (an [Z (.str "~"),Z (.int 0)]) cR) λb=>aF .Eq a b) λt=>if t then NG L n k else NF L n k
def UA(L n k:Nat):M Fl:=ak (vB L n k) (Z .next)
theorem a0i(L n k:Nat):(EE L (n+9)).b (bI Dc (k+0)) Dc.body=UA L n k:=by kernel_rfl
def rV(L n k:Nat)(vs:List V):HM V:=bc L Dc (n+9) (k+0) vs
theorem uz{L n k:Nat}{v0:V}{H H':List O}{l':List (Option V)}{fl:Fl}(h:UA L n k ⟨H,[some v0,none]⟩=some (fl,⟨H',l'⟩)):rV L n k [v0] H=some (dX fl,H'):=by unfold rV bc;rw[a0i];exact cB (by kernel_rfl) (by kernel_rfl) h
def Vl(L n k:Nat):M Fl:=Y (au lS) λv=>Y (aE 2 v) λ_=>Z .next
def MW(L n k:Nat)(z:List Nat):M Fl:=Y (af 4) λu=>Y (af 2) λa=>Y (af 3) λb=>Y (au (a8 z a b u)) λ_=>Z .next
def y5(L n k:Nat)(z:List Nat):M Fl:=ak (MW L n k z) (Z .next)
def Vk(L n k:Nat):M Fl:=lP L false (Y (af 0) oD) (λv=>Y (aW 2 v) λvs=>bD [aE 3,aE 4] vs) (λz=>y5 L n k z) []
def Vj(L n k:Nat)(z:List Nat):M Fl:=Y (Y (af 4) λx=>Y (Y (af 2) λa=>Y (af 3) λb=>av a b) λy=>kY x y) λu=>Y (af 2) λa=>Y (af 3) λb=>Y (au (a8 z a b u)) λ_=>Z .next
def X6(L n k:Nat)(z:List Nat):M Fl:=ak (Vj L n k z) (Z .next)
def Vi(L n k:Nat)(z:List Nat):M Fl:=Y (af 2) λa=>Y (af 3) λk=>Y (av a k) λx=>Y (af 4) λy=>Y (au (dN z x y)) λv=>Y (au (a8 z a k v)) λ_=>Z .next
def X5(L n k:Nat)(z:List Nat):M Fl:=ak (Vi L n k z) (Z .next)
def Vh(L n k:Nat)(z:List Nat):M Fl:=Y (Y (Y (an [af 4,Z (.top (.type "tuple"))]) λvs=>au (blt .isinstance vs)) aD) λt=>if t then X6 L n k z else X5 L n k z
def S5(L n k:Nat)(z:List Nat):M Fl:=ak (Vh L n k z) (Z .next)
def CT(L n k:Nat)(z:List Nat):M Fl:=Y (af 4) λu=>Y (af 2) λa=>Y (af 3) λb=>Y (au (a8 z a b u)) λ_=>Z .next
def S4(L n k:Nat)(z:List Nat):M Fl:=ak (CT L n k z) (Z .next)
def Qo(L n k:Nat)(z:List Nat):M Fl:=Y (Y (af 3) λa=>Y (af 2) λb=>aF .In a b) λt=>if t then S5 L n k z else S4 L n k z
def o7(L n k:Nat)(z:List Nat):M Fl:=ak (Qo L n k z) (Z .next)
def Qn(L n k:Nat):M Fl:=lP L false (Y (af 1) oD) (λv=>Y (aW 2 v) λvs=>bD [aE 3,aE 4] vs) (λz=>o7 L n k z) []
def Qm(L n k:Nat):M Fl:=Y (af 2) λv=>Z (.ret v)
def Vm(L n k:Nat):M Fl:=ak (Vl L n k) (ak (Vk L n k) (ak (Qn L n k) (ak (Qm L n k) (Z .next))))
theorem a0v(L n k:Nat):(EE L (n+11)).b (bI Dk (k+0)) Dk.body=Vm L n k:=by kernel_rfl
def KA(L n k:Nat)(vs:List V):HM V:=bc L Dk (n+11) (k+0) vs
theorem Fc{L n k:Nat}{v0 v1:V}{H H':List O}{l':List (Option V)}{fl:Fl}(h:Vm L n k ⟨H,[some v0,some v1,none,none,none,none,none,none]⟩=some (fl,⟨H',l'⟩)):KA L n k [v0,v1] H=some (dX fl,H'):=by unfold KA bc;rw[a0v];exact cB (by kernel_rfl) (by kernel_rfl) h
def Vo(L n k:Nat):M Fl:=Y (af 1) λv=>Y (aW 5 v) λvs=>Y (bD [aE 2,aE 3,aE 4,aE 5,aE 6] vs) λ_=>Z .next
def Vn(L n k:Nat):M Fl:=Y (af 0) λv=>Y (aW 5 v) λvs=>Y (bD [aE 7,aE 8,aE 9,aE 10,aE 11] vs) λ_=>Z .next
def MX(L n k:Nat):M Fl:=Y (Y (an [Y (af 2) λa=>Y (af 7) λb=>au (bn .Add a b),Y (af 3) λa=>Y (af 8) λb=>au (bn .Add a b),Y (af 4) λa=>Y (af 9) λb=>au (bn .Add a b),Y (af 5) λa=>Y (af 10) λb=>au (bn .Add a b),Y (an [af 11,af 6]) λvs=>au (KA L n k vs)]) cR) λv=>Z (.ret v)
def Vp(L n k:Nat):M Fl:=ak (Vo L n k) (ak (Vn L n k) (ak (MX L n k) (Z .next)))
theorem a0w(L n k:Nat):(EE L (n+16)).b (bI Dl (k+1)) Dl.body=Vp L n k:=by kernel_rfl
def Fq(L n k:Nat)(vs:List V):HM V:=bc L Dl (n+16) (k+1) vs
theorem Fd{L n k:Nat}{v0 v1:V}{H H':List O}{l':List (Option V)}{fl:Fl}(h:Vp L n k ⟨H,[some v0,some v1,none,none,none,none,none,none,none,none,none,none,none]⟩=some (fl,⟨H',l'⟩)):Fq L n k [v0,v1] H=some (dX fl,H'):=by unfold Fq bc;rw[a0w];exact cB (by kernel_rfl) (by kernel_rfl) h
def U3(L n k:Nat):M Fl:=Y ((dead:M V)) λ_=>Z .next
def XY(L n k:Nat):M Fl:=ak (U3 L n k) (Z .next)
def XX(L n k:Nat):M Fl:=Z .next
def U2(L n k:Nat):M Fl:=Y (bv [Y (Y (an [af 0]) λvs=>au (blt .type vs)) λa=>Y (Z (.top (.type "int"))) λb=>aF .IsNot a b,Y (Y (an [af 0]) λvs=>au (blt .type vs)) λa=>Y (Z (.top (.type "bool"))) λb=>aF .IsNot a b]) λt=>if t then XY L n k else XX L n k
def U1(L n k:Nat):M Fl:=Y (Y (an [af 0]) λvs=>au (blt .int vs)) λv=>Y (aE 0 v) λ_=>Z .next
def U0(L n k:Nat):M Fl:=Y ((dead:M V)) λ_=>Z .next
def XW(L n k:Nat):M Fl:=ak (U0 L n k) (Z .next)
def XV(L n k:Nat):M Fl:=Z .next
def UZ(L n k:Nat):M Fl:=Y (iL [Y (af 0) λa=>Y (Z (.int 1099511627776)) λb=>aF .Gt a b,Y (af 0) λa=>Y (Y (Z (.int 1099511627776)) g7) λb=>aF .Lt a b]) λt=>if t then XW L n k else XV L n k
def P5(L n k:Nat):M Fl:=Y (af 0) λv=>Z (.ret v)
def U4(L n k:Nat):M Fl:=ak (U2 L n k) (ak (U1 L n k) (ak (UZ L n k) (ak (P5 L n k) (Z .next))))
theorem a0q(L n k:Nat):(EE L (n+8)).b (bI Dg (k+0)) Dg.body=U4 L n k:=by kernel_rfl
def Kw(L n k:Nat)(vs:List V):HM V:=bc L Dg (n+8) (k+0) vs
theorem E8{L n k:Nat}{v0 v1:V}{H H':List O}{l':List (Option V)}{fl:Fl}(h:U4 L n k ⟨H,[some v0,some v1,none,none,none,none]⟩=some (fl,⟨H',l'⟩)):Kw L n k [v0,v1] H=some (dX fl,H'):=by unfold Kw bc;rw[a0q];exact cB (by kernel_rfl) (by kernel_rfl) h
def US(L n k:Nat):M Fl:=Y ((dead:M V)) λ_=>Z .next
def XO(L n k:Nat):M Fl:=ak (US L n k) (Z .next)
def XN(L n k:Nat):M Fl:=Z .next
def UQ(L n k:Nat):M Fl:=Y (bv [Y (af 0) λa=>Y (Z (.top (.ref 361))) λb=>aF .IsNot a b,Y (af 0) λa=>Y (Z (.top (.ref 608))) λb=>aF .IsNot a b]) λt=>if t then XO L n k else XN L n k
def UP(L n k:Nat):M Fl:=Y (ng 0) λv=>Z (.ret v)
def PW(L n k:Nat):M Fl:=ak (UQ L n k) (ak (UP L n k) (Z .next))
theorem a0n(L n k:Nat):(EE L (n+4)).b (bI gX (k+0)) gX.body=PW L n k:=by kernel_rfl
def Mu(L n k:Nat):M Fl:=Y (Y (af 0) λo=>az 20 o) λv=>Y (aE 2 v) λ_=>Z .next
def Ut(L n k:Nat):M Fl:=Y ((dead:M V)) λv=>Z (.ret v)
def Xy(L n k:Nat):M Fl:=ak (Ut L n k) (Z .next)
def Xx(L n k:Nat):M Fl:=Z .next
def Us(L n k:Nat):M Fl:=Y (Y (af 2) λa=>Y (Z .none) λb=>aF .Is a b) λt=>if t then Xy L n k else Xx L n k
def Ur(L n k:Nat):M Fl:=Y ((dead:M V)) λv=>Z (.ret v)
def Xw(L n k:Nat):M Fl:=ak (Ur L n k) (Z .next)
def Xv(L n k:Nat):M Fl:=Z .next
def Uq(L n k:Nat):M Fl:=Y (iL [Y (af 2) λa=>Y (Z (.str "\x0d")) λb=>aF .Eq a b,Y (af 2) λa=>Y (Z (.str "\x0d\n")) λb=>aF .Eq a b]) λt=>if t then Xw L n k else Xv L n k
def Oq(L n k:Nat):M Fl:=Y (af 1) λv=>Z (.ret v)
def Uu(L n k:Nat):M Fl:=ak (Mu L n k) (ak (Us L n k) (ak (Uq L n k) (ak (Oq L n k) (Z .next))))
theorem a0g(L n k:Nat):(EE L (n+6)).b (bI Da (k+0)) Da.body=Uu L n k:=by kernel_rfl
def Fi(L n k:Nat)(vs:List V):HM V:=bc L Da (n+6) (k+0) vs
theorem E2{L n k:Nat}{v0 v1:V}{H H':List O}{l':List (Option V)}{fl:Fl}(h:Uu L n k ⟨H,[some v0,some v1,none]⟩=some (fl,⟨H',l'⟩)):Fi L n k [v0,v1] H=some (dX fl,H'):=by unfold Fi bc;rw[a0g];exact cB (by kernel_rfl) (by kernel_rfl) h
def UY(L n k:Nat):M Fl:=Y ((dead:M V)) λ_=>Z .next
def XU(L n k:Nat):M Fl:=ak (UY L n k) (Z .next)
def XT(L n k:Nat):M Fl:=Z .next
def UX(L n k:Nat):M Fl:=Y (bv [Y (af 2) λa=>Y (Z .none) λb=>aF .IsNot a b,Y (Y (an [af 2]) λvs=>au (blt .type vs)) λa=>Y (Z (.top (.type "str"))) λb=>aF .IsNot a b]) λt=>if t then XU L n k else XT L n k
def UW(L n k:Nat):M Fl:=(dead:M Fl)
def XS(L n k:Nat):M Fl:=ak (UW L n k) (Z .next)
def XR(L n k:Nat):M Fl:=Z .next
def UV(L n k:Nat):M Fl:=Y (bv [Y (af 2) λa=>Y (Z .none) λb=>aF .IsNot a b,Y (af 2) λa=>Y (Z (.str "")) λb=>aF .NotEq a b,Y (af 2) λa=>Y (Z (.str "\n")) λb=>aF .NotEq a b,Y (af 2) λa=>Y (Z (.str "\x0d")) λb=>aF .NotEq a b,Y (af 2) λa=>Y (Z (.str "\x0d\n")) λb=>aF .NotEq a b]) λt=>if t then XS L n k else XR L n k
def UU(L n k:Nat):M Fl:=Y ((dead:M V)) λ_=>Z .next
def SH(L n k:Nat):M Fl:=ak (UU L n k) (Z .next)
def SG(L n k:Nat):M Fl:=Z .next
def P4(L n k:Nat):M Fl:=Y (bv [Y (af 1) λa=>Y (Z .none) λb=>aF .IsNot a b,Y (Y (an [af 1]) λvs=>au (blt .type vs)) λa=>Y (Z (.top (.type "str"))) λb=>aF .IsNot a b]) λt=>if t then SH L n k else SG L n k
def P3(L n k:Nat):M Fl:=Y (af 2) λu=>Y (af 0) λa=>Y (au (aA [] 20 a u)) λ_=>Z .next
def P0(L n k:Nat):M Fl:=Y (Z (.str "")) λu=>Y (af 0) λa=>Y (au (aA [] 21 a u)) λ_=>Z .next
def PZ(L n k:Nat):M Fl:=Y (Z (.int 0)) λu=>Y (af 0) λa=>Y (au (aA [] 22 a u)) λ_=>Z .next
def PY(L n k:Nat):M Fl:=Y (Y (af 0) λo=>Y (dj 608 o) λ_=>Y (an [af 1]) λvs=>au (Fi L n k (o::vs))) λu=>Y (af 0) λa=>Y (au (aA [] 21 a u)) λ_=>Z .next
def SF(L n k:Nat):M Fl:=ak (PY L n k) (Z .next)
def SD(L n k:Nat):M Fl:=Z .next
def PX(L n k:Nat):M Fl:=Y (Y (af 1) λa=>Y (Z .none) λb=>aF .IsNot a b) λt=>if t then SF L n k else SD L n k
def IQ(L n k:Nat):M Fl:=ak (UX L n k) (ak (UV L n k) (ak (P4 L n k) (ak (P3 L n k) (ak (P0 L n k) (ak (PZ L n k) (ak (PX L n k) (Z .next)))))))
theorem a0p(L n k:Nat):(EE L (n+15)).b (bI mM (k+1)) mM.body=IQ L n k:=by kernel_rfl
def N7(L n k:Nat)(u:V):HM V:=zN gX ((EE L (n+15)).b (bI gX (k+1)) gX.body) mM ((EE L (n+15)).b (bI mM (k+1)) mM.body) u
def Vf(L n k:Nat):M Fl:=(dead:M Fl)
def X4(L n k:Nat):M Fl:=ak (Vf L n k) (Z .next)
def X3(L n k:Nat):M Fl:=Z .next
def Ve(L n k:Nat):M Fl:=Y (Y (Y (af 0) λo=>az 21 o) λa=>Y (Z .none) λb=>aF .Is a b) λt=>if t then X4 L n k else X3 L n k
def Vg(L n k:Nat):M Fl:=ak (Ve L n k) (Z .next)
theorem a0u(L n k:Nat):(EE L (n+4)).b (bI Dj (k+0)) Dj.body=Vg L n k:=by kernel_rfl
def Kz(L n k:Nat)(vs:List V):HM V:=bc L Dj (n+4) (k+0) vs
theorem Fb{L n k:Nat}{v0:V}{H H':List O}{l':List (Option V)}{fl:Fl}(h:Vg L n k ⟨H,[some v0,none]⟩=some (fl,⟨H',l'⟩)):Kz L n k [v0] H=some (dX fl,H'):=by unfold Kz bc;rw[a0u];exact cB (by kernel_rfl) (by kernel_rfl) h
def Zr(L n k:Nat):M Fl:=Y (Y (Z (.int 1)) g7) λv=>Y (aE 1 v) λ_=>Z .next
def a0H(L n k:Nat):M Fl:=ak (Zr L n k) (Z .next)
def a0G(L n k:Nat):M Fl:=Z .next
def UG(L n k:Nat):M Fl:=Y (Y (af 1) λa=>Y (Z .none) λb=>aF .Is a b) λt=>if t then a0H L n k else a0G L n k
def PV(L n k:Nat):M Fl:=Y (Y (an [af 1,Z (.str "StringIO.read of a size that is no exact int")]) λvs=>au (Kw L (n+1) k vs)) λv=>Y (aE 1 v) λ_=>Z .next
def PU(L n k:Nat):M Fl:=Y (Y (af 0) λo=>Y (dj 608 o) λ_=>Y (an []) λvs=>au (Kz L (n+4) k (o::vs))) λ_=>Z .next
def PT(L n k:Nat):M Fl:=Y (Y (af 0) λo=>az 22 o) λv=>Y (aE 2 v) λ_=>Z .next
def PS(L n k:Nat):M Fl:=Y (Y (an [Y (af 0) λo=>az 21 o]) λvs=>au (blt .len vs)) λv=>Y (aE 3 v) λ_=>Z .next
def Zq(L n k:Nat):M Fl:=Y (Z (.str "")) λv=>Z (.ret v)
def XK(L n k:Nat):M Fl:=ak (Zq L n k) (Z .next)
def XJ(L n k:Nat):M Fl:=Z .next
def UK(L n k:Nat):M Fl:=Y (Y (af 2) λa=>Y (af 3) λb=>aF .GtE a b) λt=>if t then XK L n k else XJ L n k
def UJ(L n k:Nat):M Fl:=Y (Y (af 2) λa=>Y (af 1) λb=>au (bn .Add a b)) λv=>Y (aE 3 v) λ_=>Z .next
def XI(L n k:Nat):M Fl:=ak (UJ L n k) (Z .next)
def XH(L n k:Nat):M Fl:=Z .next
def UI(L n k:Nat):M Fl:=Y (bv [Y (af 1) λa=>Y (Z (.int 0)) λb=>aF .GtE a b,Y (Y (af 2) λa=>Y (af 1) λb=>au (bn .Add a b)) λa=>Y (af 3) λb=>aF .Lt a b]) λt=>if t then XI L n k else XH L n k
def UH(L n k:Nat):M Fl:=Y (af 3) λu=>Y (af 0) λa=>Y (au (aA [] 22 a u)) λ_=>Z .next
def MJ(L n k:Nat):M Fl:=Y (Y (Y (af 0) λo=>az 21 o) λa=>Y (cx (some (af 2))) λi=>Y (cx (some (af 3))) λj=>au (bY a i j)) λv=>Z (.ret v)
def sRd(L n k:Nat):M Fl:=ak (UG L n k) (ak (PV L n k) (ak (PU L n k) (ak (PT L n k) (ak (PS L n k) (ak (UK L n k) (ak (UI L n k) (ak (UH L n k) (ak (MJ L n k) (Z .next)))))))))
theorem eRd(L n k:Nat):(EE L (n+12)).b (bI Vu (k+1)) Vu.body=sRd L n k:=by kernel_rfl
def YW(L n k:Nat)(vs:List V):HM V:=bc L Vu (n+12) (k+1) vs
theorem yR{L n k:Nat}{v0 v1:V}{H H':List O}{l':List (Option V)}{fl:Fl}(h:sRd L n k ⟨H,[some v0,some v1,none,none,none,none]⟩=some (fl,⟨H',l'⟩)):YW L n k [v0,v1] H=some (dX fl,H'):=by unfold YW bc;rw[eRd];exact cB (by kernel_rfl) (by kernel_rfl) h
def UN(L n k:Nat):M Fl:=Y (Y (af 0) λo=>az 18 o) λv=>Z (.ret v)
def UO(L n k:Nat):M Fl:=ak (UN L n k) (Z .next)
theorem a0m(L n k:Nat):(EE L (n+3)).b (bI Df (k+0)) Df.body=UO L n k:=by kernel_rfl
def o0(L n k:Nat)(vs:List V):HM V:=bc L Df (n+3) (k+0) vs
theorem E6{L n k:Nat}{v0:V}{H H':List O}{l':List (Option V)}{fl:Fl}(h:UO L n k ⟨H,[some v0]⟩=some (fl,⟨H',l'⟩)):o0 L n k [v0] H=some (dX fl,H'):=by unfold o0 bc;rw[a0m];exact cB (by kernel_rfl) (by kernel_rfl) h
def Ux(L n k:Nat):M Fl:=Y (Z (.bool false)) λv=>Y (aE 1 v) λ_=>Z .next
def Uw(L n k:Nat):M Fl:=Y (Z (.str " ")) λv=>Y (aE 2 v) λ_=>Z .next
def Mw(L n k:Nat):M Fl:=Y (d0 [] .pop (Y (af 0) λo=>az 19 o) []) λv=>Y (aE 3 v) λ_=>Z .next
def XB(L n k:Nat):M Fl:=ak (Mw L n k) (Z .next)
def Co(L n k:Nat):M Fl:=Y (Y (Y (af 0) λo=>az 0 o) λo=>Y (dj 608 o) λ_=>Y (an [Z (.int 1)]) λvs=>au (YW L (n+9) k (o::vs))) λv=>Y (aE 3 v) λ_=>Z .next
def XA(L n k:Nat):M Fl:=ak (Co L n k) (Z .next)
def Mv(L n k:Nat):M Fl:=Y (bv [Y (Y (af 0) λo=>Y (dj 743 o) λ_=>Y (au (o0 L (n+17) k [o])) λv=>if bN v then Z v else(dead:M V)) aD,Y (Y (af 0) λo=>az 19 o) aD]) λt=>if t then XB L n k else XA L n k
def Uv(L n k:Nat):M Fl:=Y (af 0) λa=>Y (az 13 a) λx=>Y (Z (.int 1)) λy=>Y (au (dN [] x y)) λv=>Y (au (aA [] 13 a v)) λ_=>Z .next
def Xz(L n k:Nat):M Fl:=ak (Uv L n k) (Z .next)
def Sn(L n k:Nat):M Fl:=Z .next
def Cp(L n k:Nat):M Fl:=Y (Y (af 3) λa=>Y (Z (.str "\n")) λb=>aF .Eq a b) λt=>if t then Xz L n k else Sn L n k
def Ph(L n k:Nat):M Fl:=Y ((dead:M V)) λ_=>Z .next
def Sm(L n k:Nat):M Fl:=ak (Ph L n k) (Z .next)
def Sl(L n k:Nat):M Fl:=Z .next
def Pg(L n k:Nat):M Fl:=Y (Y (Y (af 0) λo=>az 14 o) λa=>Y (Z (.int 3)) λb=>aF .GtE a b) λt=>if t then Sm L n k else Sl L n k
def Pf(L n k:Nat):M Fl:=Y (Z (.str "")) λu=>Y (af 0) λa=>Y (au (aA [] 15 a u)) λ_=>Z .next
def Pe(L n k:Nat):M Fl:=Z .brk
def Sk(L n k:Nat):M Fl:=ak (Pf L n k) (ak (Pe L n k) (Z .next))
def Pd(L n k:Nat):M Fl:=Y (Z .none) λu=>Y (af 0) λa=>Y (au (aA [] 11 a u)) λ_=>Z .next
def Pc(L n k:Nat):M Fl:=Z .brk
def Sj(L n k:Nat):M Fl:=ak (Pd L n k) (ak (Pc L n k) (Z .next))
def Pb(L n k:Nat):M Fl:=Y ((dead:M V)) λ_=>Z .next
def Si(L n k:Nat):M Fl:=ak (Pb L n k) (Z .next)
def Sh(L n k:Nat):M Fl:=Z .next
def Pa(L n k:Nat):M Fl:=Y (Y (Y (af 0) λo=>az 14 o) λa=>Y (Z (.int 2)) λb=>aF .GtE a b) λt=>if t then Si L n k else Sh L n k
def O9(L n k:Nat):M Fl:=Z .brk
def Sg(L n k:Nat):M Fl:=ak (O9 L n k) (Z .next)
def O8(L n k:Nat):M Fl:=Z .cont
def Sf(L n k:Nat):M Fl:=ak (O8 L n k) (Z .next)
def O7(L n k:Nat):M Fl:=Y (iL [Y (Y (af 0) λo=>az 15 o) aD,bv [Y (Y (af 0) λo=>az 2 o) aD,Y (af 1) aD]]) λt=>if t then Sg L n k else Sf L n k
def Se(L n k:Nat):M Fl:=ak (Pa L n k) (ak (O7 L n k) (Z .next))
def O6(L n k:Nat):M Fl:=Y ((dead:M V)) λ_=>Z .next
def O5(L n k:Nat):M Fl:=Y (af 0) λa=>Y (az 13 a) λx=>Y (Z (.int 1)) λy=>Y (au (dN [] x y)) λv=>Y (au (aA [] 13 a v)) λ_=>Z .next
def Sd(L n k:Nat):M Fl:=ak (O6 L n k) (ak (O5 L n k) (Z .next))
def O4(L n k:Nat):M Fl:=Y (Z (.str "a")) λv=>Y (aE 2 v) λ_=>Z .next
def O3(L n k:Nat):M Fl:=Y (af 3) λu=>Y (af 0) λa=>Y (au (aA [] 11 a u)) λ_=>Z .next
def Sc(L n k:Nat):M Fl:=ak (O4 L n k) (ak (O3 L n k) (Z .next))
def O2(L n k:Nat):M Fl:=Y (af 3) λu=>Y (af 0) λa=>Y (au (aA [] 15 a u)) λ_=>Z .next
def O1(L n k:Nat):M Fl:=Y (Z (.str "a")) λu=>Y (af 0) λa=>Y (au (aA [] 11 a u)) λ_=>Z .next
def Sb(L n k:Nat):M Fl:=ak (O2 L n k) (ak (O1 L n k) (Z .next))
def O0(L n k:Nat):M Fl:=Y (af 3) λu=>Y (af 0) λa=>Y (au (aA [] 15 a u)) λ_=>Z .next
def OZ(L n k:Nat):M Fl:=Y (Z (.str "c")) λu=>Y (af 0) λa=>Y (au (aA [] 11 a u)) λ_=>Z .next
def Sa(L n k:Nat):M Fl:=ak (O0 L n k) (ak (OZ L n k) (Z .next))
def OY(L n k:Nat):M Fl:=Y (af 3) λu=>Y (af 0) λa=>Y (au (aA [] 15 a u)) λ_=>Z .next
def R9(L n k:Nat):M Fl:=ak (OY L n k) (Z .next)
def R8(L n k:Nat):M Fl:=Z .next
def OX(L n k:Nat):M Fl:=Y (Y (Y (Y (af 0) λo=>az 2 o) aD) λt=>Z (!t)) λt=>if t then R9 L n k else R8 L n k
def OW(L n k:Nat):M Fl:=Y (af 3) λu=>Y (af 0) λa=>Y (au (aA [] 11 a u)) λ_=>Z .next
def R7(L n k:Nat):M Fl:=ak (OX L n k) (ak (OW L n k) (Z .next))
def OV(L n k:Nat):M Fl:=Y (af 3) λu=>Y (af 0) λa=>Y (au (aA [] 15 a u)) λ_=>Z .next
def OU(L n k:Nat):M Fl:=Y (Z (.str "a")) λu=>Y (af 0) λa=>Y (au (aA [] 11 a u)) λ_=>Z .next
def R6(L n k:Nat):M Fl:=ak (OV L n k) (ak (OU L n k) (Z .next))
def OT(L n k:Nat):M Fl:=Y (af 3) λu=>Y (af 0) λa=>Y (au (aA [] 15 a u)) λ_=>Z .next
def OS(L n k:Nat):M Fl:=Z .brk
def R5(L n k:Nat):M Fl:=ak (OS L n k) (Z .next)
def OQ(L n k:Nat):M Fl:=Z .cont
def RZ(L n k:Nat):M Fl:=ak (OQ L n k) (Z .next)
def OP(L n k:Nat):M Fl:=Y (iL [Y (Y (af 0) λo=>az 15 o) aD,bv [Y (Y (af 0) λo=>az 2 o) aD,Y (af 1) aD]]) λt=>if t then R5 L n k else RZ L n k
def RY(L n k:Nat):M Fl:=ak (OT L n k) (ak (OP L n k) (Z .next))
def OO(L n k:Nat):M Fl:=Y (Y (Y (af 0) λo=>az 7 o) aD) λt=>if t then R6 L n k else RY L n k
def RX(L n k:Nat):M Fl:=ak (OO L n k) (Z .next)
def ON(L n k:Nat):M Fl:=Y (Y (af 3) λa=>Y (Y (af 0) λo=>az 8 o) λb=>aF .In a b) λt=>if t then R7 L n k else RX L n k
def RW(L n k:Nat):M Fl:=ak (ON L n k) (Z .next)
def OM(L n k:Nat):M Fl:=Y (Y (af 3) λa=>Y (Y (af 0) λo=>Y (dj 743 o) λ_=>Y (au (o0 L (n+8) k [o])) λv=>if bN v then Z v else(dead:M V)) λb=>aF .In a b) λt=>if t then Sa L n k else RW L n k
def RV(L n k:Nat):M Fl:=ak (OM L n k) (Z .next)
def OL(L n k:Nat):M Fl:=Y (Y (af 3) λa=>Y (Y (af 0) λo=>az 5 o) λb=>aF .In a b) λt=>if t then Sb L n k else RV L n k
def FC(L n k:Nat):M Fl:=ak (OL L n k) (Z .next)
def OJ(L n k:Nat):M Fl:=Y (bv [Y (Y (af 0) λo=>az 2 o) aD,Y (af 3) λa=>Y (Y (af 0) λo=>az 9 o) λb=>aF .In a b]) λt=>if t then Sc L n k else FC L n k
def RU(L n k:Nat):M Fl:=ak (OJ L n k) (Z .next)
def OI(L n k:Nat):M Fl:=Y (Y (af 3) λa=>Y (Y (af 0) λo=>az 4 o) λb=>aF .In a b) λt=>if t then Sd L n k else RU L n k
def RT(L n k:Nat):M Fl:=ak (OI L n k) (Z .next)
def OH(L n k:Nat):M Fl:=Y (Y (af 3) λa=>Y (Y (af 0) λo=>az 6 o) λb=>aF .In a b) λt=>if t then Se L n k else RT L n k
def FA(L n k:Nat):M Fl:=ak (OH L n k) (Z .next)
def OG(L n k:Nat):M Fl:=Y (Y (Y (af 3) aD) λt=>Z (!t)) λt=>if t then Sj L n k else FA L n k
def Fz(L n k:Nat):M Fl:=ak (OG L n k) (Z .next)
def OF(L n k:Nat):M Fl:=Y (Z (.bool true)) λv=>Y (aE 1 v) λ_=>Z .next
def OE(L n k:Nat):M Fl:=Y ((dead:M V)) λ_=>Z .next
def RS(L n k:Nat):M Fl:=ak (OE L n k) (Z .next)
def RR(L n k:Nat):M Fl:=Z .next
def OD(L n k:Nat):M Fl:=Y (Y (Y (af 0) λo=>az 14 o) λa=>Y (Z (.int 2)) λb=>aF .GtE a b) λt=>if t then RS L n k else RR L n k
def OC(L n k:Nat):M Fl:=(dead:M Fl)
def RQ(L n k:Nat):M Fl:=ak (OD L n k) (ak (OC L n k) (Z .next))
def RP(L n k:Nat):M Fl:=Z .next
def OB(L n k:Nat):M Fl:=Y (Y (Y (af 3) aD) λt=>Z (!t)) λt=>if t then RQ L n k else RP L n k
def OA(L n k:Nat):M Fl:=Y (af 0) λa=>Y (az 15 a) λx=>Y (af 3) λy=>Y (au (dN [] x y)) λv=>Y (au (aA [] 15 a v)) λ_=>Z .next
def Oz(L n k:Nat):M Fl:=Y (Z (.str " ")) λu=>Y (af 0) λa=>Y (au (aA [] 11 a u)) λ_=>Z .next
def Oy(L n k:Nat):M Fl:=Z .brk
def RO(L n k:Nat):M Fl:=ak (OA L n k) (ak (Oz L n k) (ak (Oy L n k) (Z .next)))
def Ox(L n k:Nat):M Fl:=Y (Z (.str "a")) λu=>Y (af 0) λa=>Y (au (aA [] 11 a u)) λ_=>Z .next
def RN(L n k:Nat):M Fl:=ak (Ox L n k) (Z .next)
def Ow(L n k:Nat):M Fl:=Y (Y (Y (Y (af 0) λo=>az 2 o) aD) λt=>Z (!t)) λt=>if t then RO L n k else RN L n k
def RM(L n k:Nat):M Fl:=ak (Ow L n k) (Z .next)
def Ov(L n k:Nat):M Fl:=Y (Y (af 0) λo=>az 11 o) λv=>Y (aE 2 v) λ_=>Z .next
def Ou(L n k:Nat):M Fl:=Y (af 3) λu=>Y (af 0) λa=>Y (au (aA [] 11 a u)) λ_=>Z .next
def RK(L n k:Nat):M Fl:=ak (Ov L n k) (ak (Ou L n k) (Z .next))
def Ot(L n k:Nat):M Fl:=Y (af 0) λa=>Y (az 15 a) λx=>Y (af 3) λy=>Y (au (dN [] x y)) λv=>Y (au (aA [] 15 a v)) λ_=>Z .next
def RI(L n k:Nat):M Fl:=ak (Ot L n k) (Z .next)
def Os(L n k:Nat):M Fl:=Y (bv [Y (Y (af 0) λo=>az 2 o) aD,Y (af 3) λa=>Y (Y (af 0) λo=>az 9 o) λb=>aF .In a b,Y (Y (af 0) λo=>az 11 o) λa=>Y (Y (af 0) λo=>az 10 o) λb=>aF .In a b]) λt=>if t then RK L n k else RI L n k
def RH(L n k:Nat):M Fl:=ak (Os L n k) (Z .next)
def IN(L n k:Nat):M Fl:=Y (Y (af 3) λa=>Y (Y (af 0) λo=>az 11 o) λb=>aF .Eq a b) λt=>if t then RM L n k else RH L n k
def LF(L n k:Nat):M Fl:=ak (OF L n k) (ak (OB L n k) (ak (IN L n k) (Z .next)))
def IM(L n k:Nat):M Fl:=Y ((dead:M V)) λ_=>Z .next
def LD(L n k:Nat):M Fl:=ak (IM L n k) (Z .next)
def LB(L n k:Nat):M Fl:=Z .next
def IL(L n k:Nat):M Fl:=Y (Y (Y (af 0) λo=>az 14 o) λa=>Y (Z (.int 2)) λb=>aF .GtE a b) λt=>if t then LD L n k else LB L n k
def IK(L n k:Nat):M Fl:=(dead:M Fl)
def LA(L n k:Nat):M Fl:=ak (IL L n k) (ak (IK L n k) (Z .next))
def Lz(L n k:Nat):M Fl:=Z .next
def IJ(L n k:Nat):M Fl:=Y (Y (Y (af 3) aD) λt=>Z (!t)) λt=>if t then LA L n k else Lz L n k
def II(L n k:Nat):M Fl:=Y (af 0) λa=>Y (az 15 a) λx=>Y (Y (af 0) λo=>az 11 o) λy=>Y (au (dN [] x y)) λv=>Y (au (aA [] 15 a v)) λ_=>Z .next
def Ly(L n k:Nat):M Fl:=ak (II L n k) (Z .next)
def Lw(L n k:Nat):M Fl:=Z .next
def IH(L n k:Nat):M Fl:=Y (bv [Y (af 2) λa=>Y (Y (af 0) λo=>az 8 o) λb=>aF .In a b,Y (af 3) λa=>Y (Y (af 0) λo=>az 11 o) λb=>aF .NotEq a b,Y (af 3) λa=>Y (af 2) λb=>aF .NotEq a b]) λt=>if t then Ly L n k else Lw L n k
def IG(L n k:Nat):M Fl:=Y (af 0) λa=>Y (az 15 a) λx=>Y (af 3) λy=>Y (au (dN [] x y)) λv=>Y (au (aA [] 15 a v)) λ_=>Z .next
def IF(L n k:Nat):M Fl:=Y (af 2) λu=>Y (af 0) λa=>Y (au (aA [] 11 a u)) λ_=>Z .next
def Lv(L n k:Nat):M Fl:=ak (IJ L n k) (ak (IH L n k) (ak (IG L n k) (ak (IF L n k) (Z .next))))
def IE(L n k:Nat):M Fl:=Y (Z .none) λu=>Y (af 0) λa=>Y (au (aA [] 11 a u)) λ_=>Z .next
def ID(L n k:Nat):M Fl:=Z .brk
def Lu(L n k:Nat):M Fl:=ak (IE L n k) (ak (ID L n k) (Z .next))
def IC(L n k:Nat):M Fl:=Y ((dead:M V)) λ_=>Z .next
def Ls(L n k:Nat):M Fl:=ak (IC L n k) (Z .next)
def Lr(L n k:Nat):M Fl:=Z .next
def IB(L n k:Nat):M Fl:=Y (Y (Y (af 0) λo=>az 14 o) λa=>Y (Z (.int 2)) λb=>aF .GtE a b) λt=>if t then Ls L n k else Lr L n k
def IA(L n k:Nat):M Fl:=Y (Z (.str " ")) λu=>Y (af 0) λa=>Y (au (aA [] 11 a u)) λ_=>Z .next
def Iz(L n k:Nat):M Fl:=Z .brk
def Lq(L n k:Nat):M Fl:=ak (Iz L n k) (Z .next)
def Iy(L n k:Nat):M Fl:=Z .cont
def Lp(L n k:Nat):M Fl:=ak (Iy L n k) (Z .next)
def Ix(L n k:Nat):M Fl:=Y (iL [Y (Y (af 0) λo=>az 15 o) aD,bv [Y (Y (af 0) λo=>az 2 o) aD,Y (af 1) aD]]) λt=>if t then Lq L n k else Lp L n k
def Lo(L n k:Nat):M Fl:=ak (IB L n k) (ak (IA L n k) (ak (Ix L n k) (Z .next)))
def Iw(L n k:Nat):M Fl:=Y ((dead:M V)) λ_=>Z .next
def Iv(L n k:Nat):M Fl:=Y (af 0) λa=>Y (az 13 a) λx=>Y (Z (.int 1)) λy=>Y (au (dN [] x y)) λv=>Y (au (aA [] 13 a v)) λ_=>Z .next
def Iu(L n k:Nat):M Fl:=Y (Z (.str " ")) λu=>Y (af 0) λa=>Y (au (aA [] 11 a u)) λ_=>Z .next
def Ir(L n k:Nat):M Fl:=Z .brk
def Ln(L n k:Nat):M Fl:=ak (Ir L n k) (Z .next)
def Iq(L n k:Nat):M Fl:=Z .cont
def Lm(L n k:Nat):M Fl:=ak (Iq L n k) (Z .next)
def Ip(L n k:Nat):M Fl:=Y (iL [Y (Y (af 0) λo=>az 15 o) aD,bv [Y (Y (af 0) λo=>az 2 o) aD,Y (af 1) aD]]) λt=>if t then Ln L n k else Lm L n k
def Ll(L n k:Nat):M Fl:=ak (Iu L n k) (ak (Ip L n k) (Z .next))
def Lk(L n k:Nat):M Fl:=Z .next
def Io(L n k:Nat):M Fl:=Y (Y (Y (af 0) λo=>az 2 o) aD) λt=>if t then Ll L n k else Lk L n k
def Lj(L n k:Nat):M Fl:=ak (Iw L n k) (ak (Iv L n k) (ak (Io L n k) (Z .next)))
def Im(L n k:Nat):M Fl:=Y (af 0) λa=>Y (az 15 a) λx=>Y (af 3) λy=>Y (au (dN [] x y)) λv=>Y (au (aA [] 15 a v)) λ_=>Z .next
def Li(L n k:Nat):M Fl:=ak (Im L n k) (Z .next)
def Il(L n k:Nat):M Fl:=Y (d0 [] .append (Y (af 0) λo=>az 19 o) [af 3]) λ_=>Z .next
def Lh(L n k:Nat):M Fl:=ak (Il L n k) (Z .next)
def Lg(L n k:Nat):M Fl:=Z .next
def Ij(L n k:Nat):M Fl:=Y (Y (af 3) λa=>Y (Y (af 0) λo=>az 6 o) λb=>aF .NotIn a b) λt=>if t then Lh L n k else Lg L n k
def Ii(L n k:Nat):M Fl:=Y (Z (.str " ")) λu=>Y (af 0) λa=>Y (au (aA [] 11 a u)) λ_=>Z .next
def Ih(L n k:Nat):M Fl:=Z .brk
def Lf(L n k:Nat):M Fl:=ak (Ij L n k) (ak (Ii L n k) (ak (Ih L n k) (Z .next)))
def Ig(L n k:Nat):M Fl:=Y (Y (af 3) λa=>Y (Y (af 0) λo=>Y (dj 743 o) λ_=>Y (au (o0 L (n+6) k [o])) λv=>if bN v then Z v else(dead:M V)) λb=>aF .In a b) λt=>if t then Li L n k else Lf L n k
def y1(L n k:Nat):M Fl:=ak (Ig L n k) (Z .next)
def Ie(L n k:Nat):M Fl:=Y (af 3) λu=>Y (af 0) λa=>Y (au (aA [] 11 a u)) λ_=>Z .next
def Ld(L n k:Nat):M Fl:=ak (Ie L n k) (Z .next)
def Id(L n k:Nat):M Fl:=Y (Z (.str "a")) λv=>Y (aE 2 v) λ_=>Z .next
def Ic(L n k:Nat):M Fl:=Y (af 3) λu=>Y (af 0) λa=>Y (au (aA [] 11 a u)) λ_=>Z .next
def Lb(L n k:Nat):M Fl:=ak (Id L n k) (ak (Ic L n k) (Z .next))
def Ib(L n k:Nat):M Fl:=Y (af 0) λa=>Y (az 15 a) λx=>Y (af 3) λy=>Y (au (dN [] x y)) λv=>Y (au (aA [] 15 a v)) λ_=>Z .next
def La(L n k:Nat):M Fl:=ak (Ib L n k) (Z .next)
def Ia(L n k:Nat):M Fl:=Y (d0 [] .append (Y (af 0) λo=>az 19 o) [af 3]) λ_=>Z .next
def K9(L n k:Nat):M Fl:=ak (Ia L n k) (Z .next)
def HZ(L n k:Nat):M Fl:=Y ((dead:M V)) λ_=>Z .next
def K8(L n k:Nat):M Fl:=ak (HZ L n k) (Z .next)
def HW(L n k:Nat):M Fl:=Y (Y (Y (af 0) λo=>Y (dj 743 o) λ_=>Y (au (o0 L (n+3) k [o])) λv=>if bN v then Z v else(dead:M V)) aD) λt=>if t then K9 L n k else K8 L n k
def HV(L n k:Nat):M Fl:=Y ((dead:M V)) λ_=>Z .next
def K7(L n k:Nat):M Fl:=ak (HV L n k) (Z .next)
def K6(L n k:Nat):M Fl:=Z .next
def HU(L n k:Nat):M Fl:=Y (Y (Y (af 0) λo=>az 14 o) λa=>Y (Z (.int 2)) λb=>aF .GtE a b) λt=>if t then K7 L n k else K6 L n k
def HT(L n k:Nat):M Fl:=Y (Z (.str " ")) λu=>Y (af 0) λa=>Y (au (aA [] 11 a u)) λ_=>Z .next
def HS(L n k:Nat):M Fl:=Z .brk
def K5(L n k:Nat):M Fl:=ak (HS L n k) (Z .next)
def HQ(L n k:Nat):M Fl:=Z .cont
def K0(L n k:Nat):M Fl:=ak (HQ L n k) (Z .next)
def HP(L n k:Nat):M Fl:=Y (iL [Y (Y (af 0) λo=>az 15 o) aD,bv [Y (Y (af 0) λo=>az 2 o) aD,Y (af 1) aD]]) λt=>if t then K5 L n k else K0 L n k
def KZ(L n k:Nat):M Fl:=ak (HW L n k) (ak (HU L n k) (ak (HT L n k) (ak (HP L n k) (Z .next))))
def HO(L n k:Nat):M Fl:=Y (iL [Y (af 3) λa=>Y (Y (af 0) λo=>az 5 o) λb=>aF .In a b,Y (af 3) λa=>Y (Y (af 0) λo=>az 8 o) λb=>aF .In a b,bv [Y (Y (af 0) λo=>az 7 o) aD,Y (af 3) λa=>Y (Y (af 0) λo=>Y (dj 743 o) λ_=>Y (au (o0 L (n+2) k [o])) λv=>if bN v then Z v else(dead:M V)) λb=>aF .NotIn a b]]) λt=>if t then La L n k else KZ L n k
def y0(L n k:Nat):M Fl:=ak (HO L n k) (Z .next)
def HN(L n k:Nat):M Fl:=Y (bv [Y (Y (af 0) λo=>az 2 o) aD,Y (af 3) λa=>Y (Y (af 0) λo=>az 9 o) λb=>aF .In a b]) λt=>if t then Lb L n k else y0 L n k
def KY(L n k:Nat):M Fl:=ak (HN L n k) (Z .next)
def HL(L n k:Nat):M Fl:=Y (bv [Y (Y (af 0) λo=>az 2 o) aD,Y (af 3) λa=>Y (Y (af 0) λo=>az 8 o) λb=>aF .In a b]) λt=>if t then Ld L n k else KY L n k
def KW(L n k:Nat):M Fl:=ak (HL L n k) (Z .next)
def HK(L n k:Nat):M Fl:=Y (Y (Y (af 0) λo=>az 11 o) λa=>Y (Z (.str "c")) λb=>aF .Eq a b) λt=>if t then y1 L n k else KW L n k
def yZ(L n k:Nat):M Fl:=ak (HK L n k) (Z .next)
def HJ(L n k:Nat):M Fl:=Y (Y (af 3) λa=>Y (Y (af 0) λo=>az 4 o) λb=>aF .In a b) λt=>if t then Lj L n k else yZ L n k
def KV(L n k:Nat):M Fl:=ak (HJ L n k) (Z .next)
def HI(L n k:Nat):M Fl:=Y (Y (af 3) λa=>Y (Y (af 0) λo=>az 6 o) λb=>aF .In a b) λt=>if t then Lo L n k else KV L n k
def KU(L n k:Nat):M Fl:=ak (HI L n k) (Z .next)
def HH(L n k:Nat):M Fl:=Y (Y (Y (af 3) aD) λt=>Z (!t)) λt=>if t then Lu L n k else KU L n k
def yY(L n k:Nat):M Fl:=ak (HH L n k) (Z .next)
def KT(L n k:Nat):M Fl:=Z .next
def HG(L n k:Nat):M Fl:=Y (Y (Y (af 0) λo=>az 11 o) λa=>Y (Y (an [Z (.str "a"),Z (.str "c")]) cR) λb=>aF .In a b) λt=>if t then yY L n k else KT L n k
def KS(L n k:Nat):M Fl:=ak (HG L n k) (Z .next)
def HF(L n k:Nat):M Fl:=Y (Y (Y (af 0) λo=>az 11 o) λa=>Y (Y (af 0) λo=>az 9 o) λb=>aF .In a b) λt=>if t then Lv L n k else KS L n k
def KR(L n k:Nat):M Fl:=ak (HF L n k) (Z .next)
def HE(L n k:Nat):M Fl:=Y (Y (Y (af 0) λo=>az 11 o) λa=>Y (Y (af 0) λo=>az 8 o) λb=>aF .In a b) λt=>if t then LF L n k else KR L n k
def KQ(L n k:Nat):M Fl:=ak (HE L n k) (Z .next)
def HD(L n k:Nat):M Fl:=Y (Y (Y (af 0) λo=>az 11 o) λa=>Y (Z (.str " ")) λb=>aF .Eq a b) λt=>if t then Fz L n k else KQ L n k
def kK(L n k:Nat):M Fl:=ak (HD L n k) (Z .next)
def fD(L n k:Nat):M Fl:=Y (Y (Y (af 0) λo=>az 11 o) λa=>Y (Z .none) λb=>aF .Is a b) λt=>if t then Sk L n k else kK L n k
def cG(L n k:Nat):M Fl:=ak (Mv L n k) (ak (Cp L n k) (ak (Pg L n k) (ak (fD L n k) (Z .next))))
def HB(L n k:Nat):M Fl:=bG L (Y (Z (.bool true)) aD) (cG L n k)
def xK(L n k:Nat):M Fl:=Y (Y (af 0) λo=>az 15 o) λv=>Y (aE 4 v) λ_=>Z .next
def xJ(L n k:Nat):M Fl:=Y (Z (.str "")) λu=>Y (af 0) λa=>Y (au (aA [] 15 a u)) λ_=>Z .next
def HA(L n k:Nat):M Fl:=Y (Z .none) λv=>Y (aE 4 v) λ_=>Z .next
def KP(L n k:Nat):M Fl:=ak (HA L n k) (Z .next)
def KO(L n k:Nat):M Fl:=Z .next
def Hz(L n k:Nat):M Fl:=Y (bv [Y (Y (af 0) λo=>az 2 o) aD,Y (Y (af 1) aD) λt=>Z (!t),Y (af 4) λa=>Y (Z (.str "")) λb=>aF .Eq a b]) λt=>if t then KP L n k else KO L n k
def Hy(L n k:Nat):M Fl:=Y ((dead:M V)) λ_=>Z .next
def KN(L n k:Nat):M Fl:=ak (Hy L n k) (Z .next)
def Hx(L n k:Nat):M Fl:=Y ((dead:M V)) λ_=>Z .next
def KM(L n k:Nat):M Fl:=ak (Hx L n k) (Z .next)
def Hw(L n k:Nat):M Fl:=Y (Y (af 4) aD) λt=>if t then KN L n k else KM L n k
def KL(L n k:Nat):M Fl:=ak (Hw L n k) (Z .next)
def KK(L n k:Nat):M Fl:=Z .next
def xI(L n k:Nat):M Fl:=Y (Y (Y (af 0) λo=>az 14 o) λa=>Y (Z (.int 1)) λb=>aF .Gt a b) λt=>if t then KL L n k else KK L n k
def Hv(L n k:Nat):M Fl:=Y (af 4) λv=>Z (.ret v)
def Uy(L n k:Nat):M Fl:=ak (Ux L n k) (ak (Uw L n k) (ak (HB L n k) (ak (xK L n k) (ak (xJ L n k) (ak (Hz L n k) (ak (xI L n k) (ak (Hv L n k) (Z .next))))))))
theorem a0h(L n k:Nat):(EE L (n+27)).b (bI Db (k+2)) Db.body=Uy L n k:=by kernel_rfl
def Fj(L n k:Nat)(vs:List V):HM V:=bc L Db (n+27) (k+2) vs
theorem ux{L n k:Nat}{v0:V}{H H':List O}{l':List (Option V)}{fl:Fl}(h:Uy L n k ⟨H,[some v0,none,none,none,none,none,none,none]⟩=some (fl,⟨H',l'⟩)):Fj L n k [v0] H=some (dX fl,H'):=by unfold Fj bc;rw[a0h];exact cB (by kernel_rfl) (by kernel_rfl) h
def U8(L n k:Nat):M Fl:=Y ((dead:M V)) λv=>Y (aE 1 v) λ_=>Z .next
def U7(L n k:Nat):M Fl:=Y ((dead:M V)) λ_=>Z .next
def X2(L n k:Nat):M Fl:=ak (U7 L n k) (Z .next)
def X1(L n k:Nat):M Fl:=Z .next
def U6(L n k:Nat):M Fl:=Y (Y (Y (af 0) λo=>az 14 o) λa=>Y (Z (.int 1)) λb=>aF .GtE a b) λt=>if t then X2 L n k else X1 L n k
def U5(L n k:Nat):M Fl:=Y (af 1) λv=>Z (.ret v)
def X0(L n k:Nat):M Fl:=ak (U8 L n k) (ak (U6 L n k) (ak (U5 L n k) (Z .next)))
def XZ(L n k:Nat):M Fl:=Z .next
def MR(L n k:Nat):M Fl:=Y (Y (Y (af 0) λo=>az 12 o) aD) λt=>if t then X0 L n k else XZ L n k
def vE(L n k:Nat):M Fl:=Y (Y (af 0) λo=>Y (dj 743 o) λ_=>Y (an []) λvs=>au (Fj L (n+4) k (o::vs))) λv=>Y (aE 2 v) λ_=>Z .next
def Ql(L n k:Nat):M Fl:=Y ((dead:M V)) λv=>Y (aE 3 v) λ_=>Z .next
def Qk(L n k:Nat):M Fl:=Y (af 3) λv=>Y (aW 2 v) λvs=>Y (bD [aE 4,aE 5] vs) λ_=>Z .next
def Qj(L n k:Nat):M Fl:=Y ((dead:M V)) λ_=>Z .next
def SX(L n k:Nat):M Fl:=ak (Qk L n k) (ak (Qj L n k) (Z .next))
def SW(L n k:Nat):M Fl:=Z .next
def Qi(L n k:Nat):M Fl:=Y (Y (af 3) aD) λt=>if t then SX L n k else SW L n k
def Qh(L n k:Nat):M Fl:=Y (Y (af 0) λo=>Y (dj 743 o) λ_=>Y (an []) λvs=>au (bc L vQ (n+26) (k+2) (o::vs))) λv=>Y (aE 2 v) λ_=>Z .next
def SV(L n k:Nat):M Fl:=ak (Ql L n k) (ak (Qi L n k) (ak (Qh L n k) (Z .next)))
def Qg(L n k:Nat):M Fl:=bG L (Y (af 2) λa=>Y (Y (af 0) λo=>az 17 o) λb=>aF .Eq a b) (SV L n k)
def SU(L n k:Nat):M Fl:=ak (Qg L n k) (Z .next)
def ST(L n k:Nat):M Fl:=Z .next
def CK(L n k:Nat):M Fl:=Y (Y (Y (af 0) λo=>az 17 o) λa=>Y (Z .none) λb=>aF .IsNot a b) λt=>if t then SU L n k else ST L n k
def Qf(L n k:Nat):M Fl:=Y (Y (af 0) λo=>az 3 o) λv=>Z (.ret v)
def SR(L n k:Nat):M Fl:=ak (Qf L n k) (Z .next)
def Qe(L n k:Nat):M Fl:=Y ((dead:M V)) λ_=>Z .next
def Qd(L n k:Nat):M Fl:=Y (Y (af 0) λo=>Y (dj 743 o) λ_=>Y (an []) λvs=>au (bc L vQ (n+26) (k+2) (o::vs))) λv=>Y (aE 2 v) λ_=>Z .next
def SQ(L n k:Nat):M Fl:=ak (Qe L n k) (ak (Qd L n k) (Z .next))
def Qc(L n k:Nat):M Fl:=Y (Y (Y (Y (af 0) λo=>az 16 o) aD) λt=>Z (!t)) λt=>if t then SR L n k else SQ L n k
def SP(L n k:Nat):M Fl:=ak (Qc L n k) (Z .next)
def Qb(L n k:Nat):M Fl:=bG L (Y (af 2) λa=>Y (Y (af 0) λo=>az 3 o) λb=>aF .Eq a b) (SP L n k)
def Qa(L n k:Nat):M Fl:=Y ((dead:M V)) λ_=>Z .next
def SO(L n k:Nat):M Fl:=ak (Qa L n k) (Z .next)
def P9(L n k:Nat):M Fl:=Y ((dead:M V)) λ_=>Z .next
def SM(L n k:Nat):M Fl:=ak (P9 L n k) (Z .next)
def P8(L n k:Nat):M Fl:=Y (Y (af 2) λa=>Y (Y (af 0) λo=>az 3 o) λb=>aF .NotEq a b) λt=>if t then SO L n k else SM L n k
def SK(L n k:Nat):M Fl:=ak (P8 L n k) (Z .next)
def SJ(L n k:Nat):M Fl:=Z .next
def P7(L n k:Nat):M Fl:=Y (Y (Y (af 0) λo=>az 14 o) λa=>Y (Z (.int 1)) λb=>aF .GtE a b) λt=>if t then SK L n k else SJ L n k
def P6(L n k:Nat):M Fl:=Y (af 2) λv=>Z (.ret v)
def U9(L n k:Nat):M Fl:=ak (MR L n k) (ak (vE L n k) (ak (CK L n k) (ak (Qb L n k) (ak (P7 L n k) (ak (P6 L n k) (Z .next))))))
theorem a0r(L n k:Nat):(EE L (n+34)).b (bI vQ (k+3)) vQ.body=U9 L n k:=by kernel_rfl
def Fp(L n k:Nat)(vs:List V):HM V:=bc L vQ (n+34) (k+3) vs
theorem uB{L n k:Nat}{v0:V}{H H':List O}{l':List (Option V)}{fl:Fl}(h:U9 L n k ⟨H,[some v0,none,none,none,none,none,none,none]⟩=some (fl,⟨H',l'⟩)):Fp L n k [v0] H=some (dX fl,H'):=by unfold Fp bc;rw[a0r];exact cB (by kernel_rfl) (by kernel_rfl) h
def MD(L n k:Nat):M Fl:=Y (Y (af 1) λu=>au (N7 L (n+11) k u)) λv=>Y (aE 1 v) λ_=>Z .next
def XG(L n k:Nat):M Fl:=ak (MD L n k) (Z .next)
def XF(L n k:Nat):M Fl:=Z .next
def MC(L n k:Nat):M Fl:=Y (Y (Y (an [af 1,Z (.top (.type "str"))]) λvs=>au (blt .isinstance vs)) aD) λt=>if t then XG L n k else XF L n k
def UE(L n k:Nat):M Fl:=Y (af 1) λu=>Y (af 0) λa=>Y (au (aA [] 0 a u)) λ_=>Z .next
def UD(L n k:Nat):M Fl:=Y (af 2) λu=>Y (af 0) λa=>Y (au (aA [] 1 a u)) λ_=>Z .next
def XE(L n k:Nat):M Fl:=ak (UE L n k) (ak (UD L n k) (Z .next))
def UC(L n k:Nat):M Fl:=Y ((dead:M V)) λu=>Y (af 0) λa=>Y (au (aA [] 0 a u)) λ_=>Z .next
def UB(L n k:Nat):M Fl:=Y (Z .none) λu=>Y (af 0) λa=>Y (au (aA [] 1 a u)) λ_=>Z .next
def Sz(L n k:Nat):M Fl:=ak (UC L n k) (ak (UB L n k) (Z .next))
def PQ(L n k:Nat):M Fl:=Y (Y (af 1) λa=>Y (Z .none) λb=>aF .IsNot a b) λt=>if t then XE L n k else Sz L n k
def PP(L n k:Nat):M Fl:=Y (af 3) λu=>Y (af 0) λa=>Y (au (aA [] 2 a u)) λ_=>Z .next
def PO(L n k:Nat):M Fl:=Y (Z .none) λu=>Y (af 0) λa=>Y (au (aA [] 3 a u)) λ_=>Z .next
def Sy(L n k:Nat):M Fl:=ak (PO L n k) (Z .next)
def PN(L n k:Nat):M Fl:=Y (Z (.str "")) λu=>Y (af 0) λa=>Y (au (aA [] 3 a u)) λ_=>Z .next
def Sx(L n k:Nat):M Fl:=ak (PN L n k) (Z .next)
def PM(L n k:Nat):M Fl:=Y (Y (af 3) aD) λt=>if t then Sy L n k else Sx L n k
def PL(L n k:Nat):M Fl:=Y (Z (.str "#")) λu=>Y (af 0) λa=>Y (au (aA [] 4 a u)) λ_=>Z .next
def PK(L n k:Nat):M Fl:=Y (Z (.str "abcdfeghijklmnopqrstuvwxyzABCDEFGHIJKLMNOPQRSTUVWXYZ0123456789_")) λu=>Y (af 0) λa=>Y (au (aA [] 5 a u)) λ_=>Z .next
def PJ(L n k:Nat):M Fl:=Y (af 0) λa=>Y (az 5 a) λx=>Y (Z (.str "ßàáâãäåæçèéêëìíîïðñòóôõöøùúûüýþÿÀÁÂÃÄÅÆÇÈÉÊËÌÍÎÏÐÑÒÓÔÕÖØÙÚÛÜÝÞ")) λy=>Y (au (dN [] x y)) λv=>Y (au (aA [] 5 a v)) λ_=>Z .next
def Sw(L n k:Nat):M Fl:=ak (PJ L n k) (Z .next)
def Sv(L n k:Nat):M Fl:=Z .next
def PI(L n k:Nat):M Fl:=Y (Y (Y (af 0) λo=>az 2 o) aD) λt=>if t then Sw L n k else Sv L n k
def PH(L n k:Nat):M Fl:=Y (Z (.str " \t\x0d\n")) λu=>Y (af 0) λa=>Y (au (aA [] 6 a u)) λ_=>Z .next
def PG(L n k:Nat):M Fl:=Y (Z (.bool false)) λu=>Y (af 0) λa=>Y (au (aA [] 7 a u)) λ_=>Z .next
def PE(L n k:Nat):M Fl:=Y (Z (.str "'\"")) λu=>Y (af 0) λa=>Y (au (aA [] 8 a u)) λ_=>Z .next
def PD(L n k:Nat):M Fl:=Y (Z (.str "\\")) λu=>Y (af 0) λa=>Y (au (aA [] 9 a u)) λ_=>Z .next
def PC(L n k:Nat):M Fl:=Y (Z (.str "\"")) λu=>Y (af 0) λa=>Y (au (aA [] 10 a u)) λ_=>Z .next
def PA(L n k:Nat):M Fl:=Y (Z (.str " ")) λu=>Y (af 0) λa=>Y (au (aA [] 11 a u)) λ_=>Z .next
def Pz(L n k:Nat):M Fl:=Y (Y (an []) λvs=>au (blt .deque vs)) λu=>Y (af 0) λa=>Y (au (aA [] 12 a u)) λ_=>Z .next
def Py(L n k:Nat):M Fl:=Y (Z (.int 1)) λu=>Y (af 0) λa=>Y (au (aA [] 13 a u)) λ_=>Z .next
def Px(L n k:Nat):M Fl:=Y (Z (.int 0)) λu=>Y (af 0) λa=>Y (au (aA [] 14 a u)) λ_=>Z .next
def Pw(L n k:Nat):M Fl:=Y (Z (.str "")) λu=>Y (af 0) λa=>Y (au (aA [] 15 a u)) λ_=>Z .next
def Pv(L n k:Nat):M Fl:=Y (Y (an []) λvs=>au (blt .deque vs)) λu=>Y (af 0) λa=>Y (au (aA [] 16 a u)) λ_=>Z .next
def Pu(L n k:Nat):M Fl:=Y (Z .none) λu=>Y (af 0) λa=>Y (au (aA [] 17 a u)) λ_=>Z .next
def Ps(L n k:Nat):M Fl:=Y (Z (.str "")) λv=>Y (aE 4 v) λ_=>Z .next
def Su(L n k:Nat):M Fl:=ak (Ps L n k) (Z .next)
def Pr(L n k:Nat):M Fl:=Y (Z (.str "();<>|&")) λv=>Y (aE 4 v) λ_=>Z .next
def Ss(L n k:Nat):M Fl:=ak (Pr L n k) (Z .next)
def Sr(L n k:Nat):M Fl:=Z .next
def Pp(L n k:Nat):M Fl:=Y (Y (af 4) λa=>Y (Z (.bool true)) λb=>aF .Is a b) λt=>if t then Ss L n k else Sr L n k
def Sq(L n k:Nat):M Fl:=ak (Pp L n k) (Z .next)
def Po(L n k:Nat):M Fl:=Y (Y (Y (af 4) aD) λt=>Z (!t)) λt=>if t then Su L n k else Sq L n k
def Pn(L n k:Nat):M Fl:=Y (af 4) λu=>Y (af 0) λa=>Y (au (aA [] 18 a u)) λ_=>Z .next
def Pm(L n k:Nat):M Fl:=Y (Y (an []) λvs=>au (blt .deque vs)) λu=>Y (af 0) λa=>Y (au (aA [] 19 a u)) λ_=>Z .next
def Pj(L n k:Nat):M Fl:=Y (af 0) λa=>Y (az 5 a) λx=>Y (Z (.str "~-./*?=")) λy=>Y (au (dN [] x y)) λv=>Y (au (aA [] 5 a v)) λ_=>Z .next
def Sp(L n k:Nat):M Fl:=ak (Pm L n k) (ak (Pj L n k) (qk (bI vO (k+3)) 0 4 5))
def So(L n k:Nat):M Fl:=Z .next
def Pi(L n k:Nat):M Fl:=Y (Y (af 4) aD) λt=>if t then Sp L n k else So L n k
def PR(L n k:Nat):M Fl:=ak (MC L n k) (ak (PQ L n k) (ak (PP L n k) (ak (PM L n k) (ak (PL L n k) (ak (PK L n k) (ak (PI L n k) (ak (PH L n k) (ak (PG L n k) (ak (PE L n k) (ak (PD L n k) (ak (PC L n k) (ak (PA L n k) (ak (Pz L n k) (ak (Py L n k) (ak (Px L n k) (ak (Pw L n k) (ak (Pv L n k) (ak (Pu L n k) (ak (Po L n k) (ak (Pn L n k) (ak (Pi L n k) (Z .next))))))))))))))))))))))
theorem a0j(L n k:Nat):(EE L (n+29)).b (bI vO (k+3)) vO.body=PR L n k:=by kernel_rfl
def Fk(L n k:Nat)(vs:List V):HM V:=bc L vO (n+29) (k+3) vs
theorem E3{L n k:Nat}{v0 v1 v2 v3 v4:V}{H H':List O}{l':List (Option V)}{fl:Fl}(h:PR L n k ⟨H,[some v0,some v1,some v2,some v3,some v4,none,none,none,none,none,none,none]⟩=some (fl,⟨H',l'⟩)):Fk L n k [v0,v1,v2,v3,v4] H=some (dX fl,H'):=by unfold Fk bc;rw[a0j];exact cB (by kernel_rfl) (by kernel_rfl) h
def UL(L n k:Nat):M Fl:=Y (Z (.str " ")) λv=>Y (aE 2 v) λ_=>Z .next
def XM(L n k:Nat):M Fl:=ak (UL L n k) (Z .next)
def XL(L n k:Nat):M Fl:=Z .next
def MM(L n k:Nat):M Fl:=Y (bv [Y (af 2) λa=>Y (Z (.str "")) λb=>aF .Eq a b,Y (Y (Y (Y (af 0) λa=>Y (Y (Z (.int 1)) g7) λb=>av a b) λa=>Y (Z (.int 2)) λb=>av a b) λa=>Y (cx (some (Y (Z (.int 1)) g7))) λi=>Y (cx none) λj=>au (bY a i j)) λa=>Y (Z (.str ")")) λb=>aF .NotEq a b]) λt=>if t then XM L n k else XL L n k
def MK(L n k:Nat):M Fl:=Y (Y (af 0) λa=>Y (Y (Z (.int 1)) g7) λb=>av a b) λa=>Y (Z (.int 2)) λk=>Y (av a k) λx=>Y (Y (af 2) λa=>Y (af 1) λb=>au (bn .Add a b)) λy=>Y (au (dN [] x y)) λv=>Y (au (a8 [] a k v)) λ_=>Z .next
def UM(L n k:Nat):M Fl:=ak (MM L n k) (ak (MK L n k) (Z .next))
theorem a0l(L n k:Nat):(EE L (n+9)).b (bI De (k+0)) De.body=UM L n k:=by kernel_rfl
def Fn(L n k:Nat)(vs:List V):HM V:=bc L De (n+9) (k+0) vs
theorem E5{L n k:Nat}{v0 v1 v2:V}{H H':List O}{l':List (Option V)}{fl:Fl}(h:UM L n k ⟨H,[some v0,some v1,some v2]⟩=some (fl,⟨H',l'⟩)):Fn L n k [v0,v1,v2] H=some (dX fl,H'):=by unfold Fn bc;rw[a0l];exact cB (by kernel_rfl) (by kernel_rfl) h
def Cu(L n k:Nat):M Fl:=Y (d0 [] .pop (af 0) []) λv=>Y (aW 4 v) λvs=>Y (bD [aE 2,aE 3,aE 4,aE 5] vs) λ_=>Z .next
def Ct(L n k:Nat):M Fl:=Y (Y (an [af 0,Y (an [Y (an [af 2,af 3,af 4]) cR]) λvs=>au (rV L n k vs),af 1]) λvs=>au (Fn L (n+1) k vs)) λ_=>Z .next
def MB(L n k:Nat):M Fl:=ak (Cu L n k) (ak (Ct L n k) (Z .next))
theorem Xe(L n k:Nat):(EE L (n+13)).b (bI tv (k+1)) tv.body=MB L n k:=by kernel_rfl
def uC(L n k:Nat)(vs:List V):HM V:=bc L tv (n+13) (k+1) vs
theorem AT{L n k:Nat}{v0 v1:V}{H H':List O}{l':List (Option V)}{fl:Fl}(h:MB L n k ⟨H,[some v0,some v1,none,none,none,none,none,none]⟩=some (fl,⟨H',l'⟩)):uC L n k [v0,v1] H=some (dX fl,H'):=by unfold uC bc;rw[Xe];exact cB (by kernel_rfl) (by kernel_rfl) h
def CG(L n k:Nat):M Fl:=Y (Y (an [Y (an [Z (.str "a"),Z (.int 0)]) cR,Y (an [Z (.str "a"),Y (Z (.int 20)) g7]) cR,Y (an [Z (.str "b.c"),Z (.int 300)]) cR,Y (an [Z (.str "~"),Z (.int 7)]) cR]) λvs=>au (bt vs)) λv=>Y (aE 1 v) λ_=>Z .next
def CD(L n k:Nat):M Fl:=Y (Y (an [Y (an [Y (an [Z (.str ""),Z (.int 0),Z (.str ""),Y (Z (.int 1)) g7]) λvs=>au (bt vs)]) λvs=>au (bt vs),Y (an []) λvs=>au (bt vs)]) cR) λv=>Y (aW 2 v) λvs=>Y (bD [aE 3,aE 2] vs.reverse) λ_=>Z .next
def Cv(L n k:Nat)(z:List Nat):M Fl:=Y (Y (an [Y (Y (af 4) λa=>Y (Z (.int 12)) λb=>au (bn .FloorDiv a b)) λa=>Y (Z (.int 4)) λb=>au (bn .Mod a b),Y (Y (an [Z (.str ""),Z (.str " "),Z (.str "\n")]) λvs=>au (bt vs)) λa=>Y (Y (Y (af 4) λa=>Y (Z (.int 4)) λb=>au (bn .FloorDiv a b)) λa=>Y (Z (.int 3)) λb=>au (bn .Mod a b)) λb=>av a b,Y (Y (af 4) λa=>Y (Z (.int 48)) λb=>au (bn .FloorDiv a b)) λa=>Y (Z (.int 100)) λb=>au (bn .Mod a b)]) cR) λv=>Y (aW 3 v) λvs=>Y (bD [aE 7,aE 6,aE 5] vs.reverse) λ_=>Z .next
def MI(L n k:Nat)(z:List Nat):M Fl:=Y (d0 z .append (af 3) [Y (an [af 5,Y (Y (af 2) λa=>Y (Y (Z (.int 1)) g7) λb=>av a b) λa=>Y (Z (.int 3)) λb=>av a b,af 7]) λvs=>au (bt vs)]) λ_=>Z .next
def MH(L n k:Nat)(z:List Nat):M Fl:=Y (d0 z .append (af 2) [Y (an [Y (Y (af 1) λa=>Y (af 5) λb=>av a b) λa=>Y (Z (.int 0)) λb=>av a b,Y (Y (af 1) λa=>Y (af 5) λb=>av a b) λa=>Y (Z (.int 1)) λb=>av a b,Y (an [af 7]) λvs=>au (blt .str vs),Y (Y (an [af 3]) λvs=>au (blt .len vs)) λa=>Y (Z (.int 1)) λb=>au (bn .Sub a b)]) λvs=>au (bt vs)]) λ_=>Z .next
def qF(L n k:Nat)(z:List Nat):M Fl:=ak (MI L n k z) (ak (MH L n k z) (Z .next))
def MG(L n k:Nat)(z:List Nat):M Fl:=Y (d0 z .append (af 3) [Y (an [Y (Z (.int 4)) λa=>Y (af 5) λb=>au (bn .Add a b),Y (Y (af 2) λa=>Y (Y (Z (.int 1)) g7) λb=>av a b) λa=>Y (Z (.int 3)) λb=>av a b,af 7]) λvs=>au (bt vs)]) λ_=>Z .next
def MF(L n k:Nat)(z:List Nat):M Fl:=Y (Y (Y (Y (Y (an [Z (.str "<"),Z (.str ""),Z (.str "<"),Z (.str "")]) λvs=>au (bt vs)) λa=>Y (af 5) λb=>av a b) λa=>Y (Y (an [af 7]) λvs=>au (blt .str vs)) λb=>au (bn .Add a b)) λa=>Y (Y (Y (an [Z (.str ">"),Z (.str ""),Z (.str ""),Z (.str ">")]) λvs=>au (bt vs)) λa=>Y (af 5) λb=>av a b) λb=>au (bn .Add a b)) λv=>Y (aE 8 v) λ_=>Z .next
def ME(L n k:Nat)(z:List Nat):M Fl:=Y (if z=[] then(Y (an [af 2,if z=[] then(Y (an [Y (an [Z (.str "~"),Z (.int 0),af 8]) cR]) λvs=>au (rV L (n+2) (k+1) vs)) else(dead:M V),af 6]) λvs=>au (Fn L (n+3) (k+1) vs)) else(dead:M V)) λ_=>Z .next
def wL(L n k:Nat)(z:List Nat):M Fl:=ak (MG L n k z) (ak (MF L n k z) (ak (ME L n k z) (Z .next)))
def CF(L n k:Nat)(z:List Nat):M Fl:=Y (if z=[] then(Y (an [af 2,af 6]) λvs=>au (uC L n k vs)) else(dead:M V)) λ_=>Z .next
def FJ(L n k:Nat)(z:List Nat):M Fl:=ak (CF L n k z) (Z .next)
def SB(L n k:Nat)(z:List Nat):M Fl:=Z .next
def vD(L n k:Nat)(z:List Nat):M Fl:=Y (Y (Y (an [af 2]) λvs=>au (blt .len vs)) λa=>Y (Z (.int 1)) λb=>aF .Gt a b) λt=>if t then FJ L n k z else SB L n k z
def rX(L n k:Nat)(z:List Nat):M Fl:=ak (vD L n k z) (Z .next)
def vC(L n k:Nat)(z:List Nat):M Fl:=Y (Y (Y (af 4) λa=>Y (Z (.int 4)) λb=>au (bn .Mod a b)) λa=>Y (Z (.int 1)) λb=>aF .Eq a b) λt=>if t then wL L n k z else rX L n k z
def o5(L n k:Nat)(z:List Nat):M Fl:=ak (vC L n k z) (Z .next)
def CE(L n k:Nat)(z:List Nat):M Fl:=Y (Y (Y (af 4) λa=>Y (Z (.int 4)) λb=>au (bn .Mod a b)) λa=>Y (Z (.int 1)) λb=>aF .Gt a b) λt=>if t then qF L n k z else o5 L n k z
def lV(L n k:Nat)(z:List Nat):M Fl:=ak (Cv L n k z) (ak (CE L n k z) (Z .next))
def CC(L n k:Nat):M Fl:=lP L true (Y (Y (Y (an [Z (.int 242),Z (.int 349),Z (.int 122),Z (.int 146),Z (.int 193),Z (.int 0),Z (.int 313),Z (.int 8),Z (.int 457),Z (.int 469),Z (.int 349),Z (.int 87)]) λvs=>au (bt vs)) λa=>Y (Y (af 0) λa=>Y (cx none) λi=>Y (cx (some (Z (.int 10)))) λj=>au (bY a i j)) λb=>au (bn .Add a b)) jq) (aE 4) (λz=>lV L n k z) []
def Cz(L n k:Nat):M Fl:=Y (Y (an [af 2,Z (.str "")]) λvs=>au (uC L (n+3) k vs)) λ_=>Z .next
def FI(L n k:Nat):M Fl:=ak (Cz L n k) (Z .next)
def Cy(L n k:Nat):M Fl:=bG L (Y (Y (an [af 2]) λvs=>au (blt .len vs)) λa=>Y (Z (.int 1)) λb=>aF .Gt a b) (FI L n k)
def Cw(L n k:Nat):M Fl:=Y (Y (an [Y (Y (af 2) λa=>Y (Z (.int 0)) λb=>av a b) λa=>Y (Z (.int 2)) λb=>av a b,af 3]) cR) λv=>Z (.ret v)
def UF(L n k:Nat):M Fl:=ak (CG L n k) (ak (CD L n k) (ak (CC L n k) (ak (Cy L n k) (ak (Cw L n k) (Z .next)))))
theorem a0k(L n k:Nat):(EE L (n+22)).b (bI Dd (k+2)) Dd.body=UF L n k:=by kernel_rfl
def Kv(L n k:Nat)(vs:List V):HM V:=bc L Dd (n+22) (k+2) vs
theorem E4{L n k:Nat}{v0:V}{H H':List O}{l':List (Option V)}{fl:Fl}(h:UF L n k ⟨H,[some v0,none,none,none,none,none,none,none,none,none,none,none,none,none]⟩=some (fl,⟨H',l'⟩)):Kv L n k [v0] H=some (dX fl,H'):=by unfold Kv bc;rw[a0k];exact cB (by kernel_rfl) (by kernel_rfl) h
def qW(L n k:Nat):M Fl:=Y (Y (an [Y (an [af 0,Z (.str "run"),Z (.bool true),Z (.str ":()")]) λvs=>au (v6 743 (Fk L (n+8) k) vs),Y (an []) λvs=>au (bt vs)]) cR) λv=>Y (aW 2 v) λvs=>Y (bD [aE 2,aE 1] vs.reverse) λ_=>Z .next
def qU(L n k:Nat):M Fl:=Y (Y (af 1) λo=>Y (dj 743 o) λ_=>Y (an []) λvs=>au (Fp L (n+3) (k+1) (o::vs))) λv=>Y (aE 3 v) λ_=>Z .next
def xM(L n k:Nat):M Fl:=Y (af 2) λa=>Y (Y (Y (Y (af 3) λa=>Y (Z (.int 0)) λb=>av a b) λa=>Y (Z (.str ":()")) λb=>aF .In a b) λt=>if t then Y (an [af 3]) λvs=>au (blt .list vs) else Y (an [af 3]) λvs=>au (bt vs)) λb=>Y (au (dN [] a b)) λv=>Y (aE 2 v) λ_=>Z .next
def qT(L n k:Nat):M Fl:=Y (Y (af 1) λo=>Y (dj 743 o) λ_=>Y (an []) λvs=>au (Fp L n (k+1) (o::vs))) λv=>Y (aE 3 v) λ_=>Z .next
def y3(L n k:Nat):M Fl:=ak (xM L n k) (ak (qT L n k) (Z .next))
def IP(L n k:Nat):M Fl:=bG L (Y (af 3) λa=>Y (Z .none) λb=>aF .IsNot a b) (y3 L n k)
def IO(L n k:Nat):M Fl:=Y (af 2) λv=>Z (.ret v)
def CH(L n k:Nat):M Fl:=ak (qW L n k) (ak (qU L n k) (ak (IP L n k) (ak (IO L n k) (Z .next))))
theorem Ru(L n k:Nat):(EE L (n+40)).b (bI n5 (k+5)) n5.body=CH L n k:=by kernel_rfl
def rW(L n k:Nat)(vs:List V):HM V:=bc L n5 (n+40) (k+5) vs
theorem wI{L n k:Nat}{v0:V}{H H':List O}{l':List (Option V)}{fl:Fl}(h:CH L n k ⟨H,[some v0,none,none,none,none,none]⟩=some (fl,⟨H',l'⟩)):rW L n k [v0] H=some (dX fl,H'):=by unfold rW bc;rw[Ru];exact cB (by kernel_rfl) (by kernel_rfl) h
def q0(L n k:Nat):M Fl:=Y (d0 [] .pop (af 1) []) λv=>Y (aW 3 v) λvs=>Y (bD [aE 2,aE 3,aE 4] vs) λ_=>Z .next
def xP(L n k:Nat):M Fl:=Y (Y (Y (af 2) λa=>Y (dF L (Y (af 1) jq) (λl=>[none,none]) 1 (λ_=>none) (λz=>Y (af 1) λa=>Y (Z (.int 0)) λb=>av a b) []) λb=>aF .In a b) λt=>if t then Z (.int 0) else Z (.int 1)) λv=>Y (aE 5 v) λ_=>Z .next
def qZ(L n k:Nat):M Fl:=Y (Y (an [Y (af 5) λa=>Y (Y (af 3) λa=>Y (af 4) λb=>au (bn .Add a b)) λb=>au (bn .Mult a b),au lS,Y (af 0) λa=>Y (Z (.int 0)) λb=>av a b]) cR) λv=>Y (aW 3 v) λvs=>Y (bD [aE 8,aE 7,aE 6] vs.reverse) λ_=>Z .next
def qY(L n k:Nat):M Fl:=Y (Y (af 1) λa=>Y (Y (Z (.int 1)) g7) λb=>av a b) λa=>Y (Z (.int 2)) λk=>Y (av a k) λx=>Y (Y (af 3) λa=>Y (af 4) λb=>au (bn .Add a b)) λy=>Y (au (dN [] x y)) λv=>Y (au (a8 [] a k v)) λ_=>Z .next
def qX(L n k:Nat):M Fl:=Y (Y (an [Z (.int 1),af 5,af 3,af 6]) cR) λu=>Y (af 7) λa=>Y (Y (Y (af 1) λa=>Y (Y (Z (.int 1)) g7) λb=>av a b) λa=>Y (Z (.int 0)) λb=>av a b) λb=>Y (au (a8 [] a b u)) λ_=>Z .next
def LK(L n k:Nat):M Fl:=ak (qY L n k) (ak (qX L n k) (Z .next))
def LJ(L n k:Nat):M Fl:=Z .next
def xO(L n k:Nat):M Fl:=Y (Y (af 1) λa=>Y (Y (an []) λvs=>au (bt vs)) λb=>aF .NotEq a b) λt=>if t then LK L n k else LJ L n k
def j6(L n k:Nat):M Fl:=Y (Y (an [d0 [] .get (af 8) [af 2,Y (an [Z (.int 0),Z (.int 0),Z (.int 0),Z (.int 0),au lS]) cR],Y (an [af 5,Z (.int 1),af 3,af 6,af 7]) cR]) λvs=>au (Fq L n k vs)) λu=>Y (af 8) λa=>Y (af 2) λb=>Y (au (a8 [] a b u)) λ_=>Z .next
def iG(L n k:Nat):M Fl:=Y (d0 [] .reverse (af 0) []) λ_=>Z .next
def q5(L n k:Nat):M Fl:=ak (q0 L n k) (ak (xP L n k) (ak (qZ L n k) (ak (xO L n k) (ak (j6 L n k) (ak (iG L n k) (Z .next))))))
theorem Rv(L n k:Nat):(EE L (n+22)).b (bI n6 (k+2)) n6.body=q5 L n k:=by kernel_rfl
def lU(L n k:Nat)(vs:List V):HM V:=bc L n6 (n+22) (k+2) vs
theorem wJ{L n k:Nat}{v0 v1:V}{H H':List O}{l':List (Option V)}{fl:Fl}(h:q5 L n k ⟨H,[some v0,some v1,none,none,none,none,none,none,none,none]⟩=some (fl,⟨H',l'⟩)):lU L n k [v0,v1] H=some (dX fl,H'):=by unfold lU bc;rw[Rv];exact cB (by kernel_rfl) (by kernel_rfl) h
def nW(L n k:Nat):M Fl:=Y (Y (an [Y (an [au lS,au lS]) λvs=>au (bt vs),Y (an []) λvs=>au (bt vs),Z (.int 0)]) cR) λv=>Y (aW 3 v) λvs=>Y (bD [aE 3,aE 2,aE 1] vs.reverse) λ_=>Z .next
def sW(L n k:Nat):M Fl:=Y (Y (an [af 1,af 2]) λvs=>au (lU L (n+6) k vs)) λ_=>Z .next
def FF(L n k:Nat):M Fl:=ak (sW L n k) (Z .next)
def nV(L n k:Nat):M Fl:=Y (d0 [] .append (af 2) [Y (an [Y (an [Y (an [Y (af 0) λa=>Y (af 3) λb=>av a b,Y (an [Y (af 0) λa=>Y (Y (af 3) λa=>Y (Z (.int 2)) λb=>au (bn .Add a b)) λb=>av a b]) λvs=>au (blt .int vs),Z (.str "")]) cR]) λvs=>au (rV L (n+16) (k+2) vs),Y (an [Y (af 0) λa=>Y (Y (af 3) λa=>Y (Z (.int 4)) λb=>au (bn .Add a b)) λb=>av a b]) λvs=>au (blt .int vs),Z (.int 0)]) λvs=>au (bt vs)]) λ_=>Z .next
def Cs(L n k:Nat):M Fl:=Y (af 3) λa=>Y (Z (.int 4)) λb=>Y (au (dN [] a b)) λv=>Y (aE 3 v) λ_=>Z .next
def FE(L n k:Nat):M Fl:=ak (nV L n k) (ak (Cs L n k) (Z .next))
def Cr(L n k:Nat):M Fl:=Y (Z (.str "")) λv=>Y (aE 4 v) λ_=>Z .next
def Cq(L n k:Nat):M Fl:=Y (Y (an [Z (.str "<"),Y (af 3) λa=>Y (Z (.int 1)) λb=>au (bn .Add a b)]) cR) λv=>Y (aW 2 v) λvs=>Y (bD [aE 3,aE 4] vs.reverse) λ_=>Z .next
def FD(L n k:Nat):M Fl:=ak (Cq L n k) (Z .next)
def A7(L n k:Nat):M Fl:=Z .next
def zV(L n k:Nat):M Fl:=Y (Y (Y (af 0) λa=>Y (af 3) λb=>av a b) λa=>Y (Y (an [Z (.str "{"),Z (.str "<")]) λvs=>au (bt vs)) λb=>aF .In a b) λt=>if t then FD L n k else A7 L n k
def i9(L n k:Nat):M Fl:=Y (Y (an [Y (af 0) λa=>Y (af 3) λb=>av a b]) λvs=>au (blt .int vs)) λv=>Y (aE 5 v) λ_=>Z .next
def pY(L n k:Nat):M Fl:=Y (Y (an [Y (af 4) λa=>Y (Z (.str ">")) λb=>au (bn .Add a b),Y (af 3) λa=>Y (Z (.int 1)) λb=>au (bn .Add a b)]) cR) λv=>Y (aW 2 v) λvs=>Y (bD [aE 3,aE 4] vs.reverse) λ_=>Z .next
def A6(L n k:Nat):M Fl:=ak (pY L n k) (Z .next)
def A5(L n k:Nat):M Fl:=Z .next
def lg(L n k:Nat):M Fl:=Y (Y (Y (af 0) λa=>Y (cx (some (Y (af 3) λa=>Y (Z (.int 1)) λb=>au (bn .Add a b)))) λi=>Y (cx (some (Y (af 3) λa=>Y (Z (.int 2)) λb=>au (bn .Add a b)))) λj=>au (bY a i j)) λa=>Y (Y (an [Y (an [Z (.str "}")]) λvs=>au (bt vs),Y (an [Z (.str ">")]) λvs=>au (bt vs)]) λvs=>au (bt vs)) λb=>aF .In a b) λt=>if t then A6 L n k else A5 L n k
def gJ(L n k:Nat):M Fl:=Y (d0 [] .append (af 2) [Y (an [Y (an [Y (an [Z (.str "~"),Z (.int 0),af 4]) cR]) λvs=>au (rV L (n+12) (k+2) vs),af 5,Z (.int 0)]) λvs=>au (bt vs)]) λ_=>Z .next
def i8(L n k:Nat):M Fl:=Y (Y (an [af 1,af 2]) λvs=>au (lU L n k vs)) λ_=>Z .next
def qE(L n k:Nat):M Fl:=ak (Cr L n k) (ak (zV L n k) (ak (i9 L n k) (ak (lg L n k) (ak (gJ L n k) (ak (i8 L n k) (Z .next))))))
def zU(L n k:Nat):M Fl:=Y (Y (Y (af 0) λa=>Y (cx (some (Y (af 3) λa=>Y (Z (.int 1)) λb=>au (bn .Add a b)))) λi=>Y (cx (some (Y (af 3) λa=>Y (Z (.int 2)) λb=>au (bn .Add a b)))) λj=>au (bY a i j)) λa=>Y (Y (an [Z (.str ":")]) λvs=>au (bt vs)) λb=>aF .Eq a b) λt=>if t then FE L n k else qE L n k
def A4(L n k:Nat):M Fl:=ak (zU L n k) (Z .next)
def zT(L n k:Nat):M Fl:=Y (Y (Y (af 0) λa=>Y (af 3) λb=>av a b) λa=>Y (Z (.str ")")) λb=>aF .Eq a b) λt=>if t then FF L n k else A4 L n k
def pX(L n k:Nat):M Fl:=Y (af 3) λa=>Y (Z (.int 1)) λb=>Y (au (dN [] a b)) λv=>Y (aE 3 v) λ_=>Z .next
def jh(L n k:Nat):M Fl:=ak (zT L n k) (ak (pX L n k) (Z .next))
def zS(L n k:Nat):M Fl:=bG L (Y (af 3) λa=>Y (Y (an [af 0]) λvs=>au (blt .len vs)) λb=>aF .Lt a b) (jh L n k)
def zR(L n k:Nat):M Fl:=Y (af 1) λv=>Z (.ret v)
def xL(L n k:Nat):M Fl:=ak (nW L n k) (ak (zS L n k) (ak (zR L n k) (Z .next)))
theorem J9(L n k:Nat):(EE L (n+33)).b (bI j9 (k+3)) j9.body=xL L n k:=by kernel_rfl
def nD(L n k:Nat)(vs:List V):HM V:=bc L j9 (n+33) (k+3) vs
theorem uy{L n k:Nat}{v0:V}{H H':List O}{l':List (Option V)}{fl:Fl}(h:xL L n k ⟨H,[some v0,none,none,none,none,none,none,none,none,none]⟩=some (fl,⟨H',l'⟩)):nD L n k [v0] H=some (dX fl,H'):=by unfold nD bc;rw[J9];exact cB (by kernel_rfl) (by kernel_rfl) h
def sY(L n k:Nat):M Fl:=Y (Y (an [au lS,Y (an [Z (.int 0),Z (.int 0),Z (.int 0),Z (.int 0),au lS]) cR]) cR) λv=>Y (aW 2 v) λvs=>Y (bD [aE 3,aE 2] vs.reverse) λ_=>Z .next
def sX(L n k:Nat)(z:List Nat):M Fl:=Y (if z=[] then(Y (an [d0 z .get (af 0) [af 4,af 3],d0 z .get (af 1) [af 4,af 3]]) λvs=>au (Fq L n k vs)) else(dead:M V)) λu=>Y (af 2) λa=>Y (af 4) λb=>Y (au (a8 z a b u)) λ_=>Z .next
def o6(L n k:Nat)(z:List Nat):M Fl:=ak (sX L n k z) (Z .next)
def CJ(L n k:Nat):M Fl:=lP L true (Y (Y (Y (an [af 0]) λvs=>au (blt .list vs)) λa=>Y (dF L (Y (af 1) jq) (λl=>[none,none,(l[0]?).join]) 1 (λz=>some (Y (af 1) λa=>Y (af 2) λb=>aF .NotIn a b)) (λz=>af 1) []) λb=>au (bn .Add a b)) jq) (aE 4) (λz=>o6 L n k z) []
def CI(L n k:Nat):M Fl:=Y (af 2) λv=>Z (.ret v)
def xN(L n k:Nat):M Fl:=ak (sY L n k) (ak (CJ L n k) (ak (CI L n k) (Z .next)))
theorem Ka(L n k:Nat):(EE L (n+20)).b (bI ke (k+2)) ke.body=xN L n k:=by kernel_rfl
def jg(L n k:Nat)(vs:List V):HM V:=bc L ke (n+20) (k+2) vs
theorem uA{L n k:Nat}{v0 v1:V}{H H':List O}{l':List (Option V)}{fl:Fl}(h:xN L n k ⟨H,[some v0,some v1,none,none,none,none,none]⟩=some (fl,⟨H',l'⟩)):jg L n k [v0,v1] H=some (dX fl,H'):=by unfold jg bc;rw[Ka];exact cB (by kernel_rfl) (by kernel_rfl) h
def MS(L n k:Nat):M Fl:=Y (Y (an [Y (an [af 0]) λvs=>au (blt .len vs),Y (an [dF L (Y (af 0) jq) (λl=>[none,none,(l[2]?).join]) 1 (λ_=>none) (λz=>Y (af 2) λa=>Y (af 1) λb=>av a b) []]) λvs=>au (blt .sum vs)]) cR) λv=>Y (aW 2 v) λvs=>Y (bD [aE 5,aE 4] vs.reverse) λ_=>Z .next
def Va(L n k:Nat):M Fl:=Y (Y (an [af 4,af 5,Y (an [dF L (Y (af 0) jq) (λl=>[none,none,(l[1]?).join]) 1 (λ_=>none) (λz=>Y (Y (af 2) λa=>Y (af 1) λb=>av a b) λa=>Y (Z (.int 2)) λb=>av a b) []]) λvs=>au (blt .sum vs),Y (an [dF L (Y (af 0) jq) (λl=>[none,none,(l[3]?).join]) 1 (λ_=>none) (λz=>Y (af 2) λa=>Y (af 1) λb=>av a b) []]) λvs=>au (blt .sum vs)]) cR) λv=>Z (.ret v)
def Vb(L n k:Nat):M Fl:=ak (MS L n k) (ak (Va L n k) (Z .next))
theorem a0s(L n k:Nat):(EE L (n+8)).b (bI Dh (k+0)) Dh.body=Vb L n k:=by kernel_rfl
def A0(L n k:Nat)(vs:List V):HM V:=bc L Dh (n+8) (k+0) vs
theorem E9{L n k:Nat}{v0 v1 v2 v3:V}{H H':List O}{l':List (Option V)}{fl:Fl}(h:Vb L n k ⟨H,[some v0,some v1,some v2,some v3,none,none,none,none]⟩=some (fl,⟨H',l'⟩)):A0 L n k [v0,v1,v2,v3] H=some (dX fl,H'):=by unfold A0 bc;rw[a0s];exact cB (by kernel_rfl) (by kernel_rfl) h
def MV(L n k:Nat):M Fl:=Y (Y (an [Z (.str "a:0()"),Z (.str "a:-20()"),Z (.str "b.c:300()"),Z (.str "~:7()"),Z (.str "{}"),Z (.str ""),Z (.str "<"),Z (.str ">")]) λvs=>au (bt vs)) λv=>Y (aE 1 v) λ_=>Z .next
def CP(L n k:Nat):M Fl:=Y (Y (an [Y (an []) λvs=>au (bt vs),Y (an []) λvs=>au (bt vs),Y (an []) λvs=>au (bt vs),au lS]) cR) λv=>Y (aW 4 v) λvs=>Y (bD [aE 2,aE 3,aE 4,aE 5] vs) λ_=>Z .next
def CM(L n k:Nat)(z:List Nat):M Fl:=Y (d0 z .append (af 2) [Y (Y (af 7) λa=>Y (Z (.int 0)) λb=>aF .Lt a b) λt=>if t then Y (an []) λvs=>au (bt vs) else Y (Y (af 2) λa=>Y (af 7) λb=>av a b) λa=>Y (Y (an [af 7]) λvs=>au (bt vs)) λb=>au (bn .Add a b)]) λ_=>Z .next
def MU(L n k:Nat)(z:List Nat):M Fl:=Y (d0 z .append (af 3) [Y (Y (af 6) λa=>Y (dF L (Y (Y (af 2) λa=>Y (Y (Z (.int 1)) g7) λb=>av a b) jq) (λl=>[none,none,(l[0]?).join]) 1 (λ_=>none) (λz=>Y (Y (af 2) λa=>Y (af 1) λb=>av a b) λa=>Y (Z (.int 0)) λb=>av a b) z) λb=>aF .In a b) λt=>if t then Z (.int 0) else Z (.int 1)]) λ_=>Z .next
def FP(L n k:Nat)(z:List Nat):M Fl:=ak (CM L n k z) (ak (MU L n k z) (Z .next))
def MT(L n k:Nat):M Fl:=lP L false (Y (af 0) jq) (λv=>Y (aW 3 v) λvs=>bD [aE 6,aE 7,aE 8] vs) (λz=>FP L n k z) []
def Vc(L n k:Nat)(z:List Nat):M Fl:=Y (d0 z .append (af 4) [Y (Y (af 3) λa=>Y (af 9) λb=>av a b) λa=>Y (Y (an [dF L (Y (Y (an [Y (an [af 0]) λvs=>au (blt .len vs)]) λvs=>au (blt .range vs)) jq) (λl=>[none,none,(l[2]?).join,(l[0]?).join,(l[9]?).join]) 1 (λz=>some (Y (af 4) λa=>Y (Y (Y (af 2) λa=>Y (af 1) λb=>av a b) λa=>Y (Y (an [af 1]) λvs=>au (bt vs)) λb=>au (bn .Add a b)) λb=>aF .In a b)) (λz=>Y (Y (af 3) λa=>Y (af 1) λb=>av a b) λa=>Y (Z (.int 2)) λb=>av a b) z]) λvs=>au (blt .sum vs)) λb=>au (bn .Mult a b)]) λ_=>Z .next
def FO(L n k:Nat)(z:List Nat):M Fl:=ak (Vc L n k z) (Z .next)
def CL(L n k:Nat):M Fl:=lP L true (Y (Y (an [Y (an [af 0]) λvs=>au (blt .len vs)]) λvs=>au (blt .range vs)) jq) (aE 9) (λz=>FO L n k z) []
def vL(L n k:Nat)(z:List Nat):M Fl:=Y (Y (an [dF L (Y (Y (an [Y (an [af 0]) λvs=>au (blt .len vs)]) λvs=>au (blt .range vs)) jq) (λl=>[none,none,(l[0]?).join,(l[6]?).join]) 1 (λz=>some (Y (Y (Y (af 2) λa=>Y (af 1) λb=>av a b) λa=>Y (Z (.int 0)) λb=>av a b) λa=>Y (af 3) λb=>aF .Eq a b)) (λz=>af 1) z,au lS]) cR) λv=>Y (aW 2 v) λvs=>Y (bD [aE 11,aE 10] vs.reverse) λ_=>Z .next
def vJ(L n k:Nat)(z:List Nat):M Fl:=Y (dF L (Y (af 10) jq) (λl=>[none,none,(l[0]?).join,(l[12]?).join]) 1 (λz=>some (bv [Y (Y (Y (af 2) λa=>Y (af 1) λb=>av a b) λa=>Y (Z (.int 1)) λb=>av a b) λa=>Y (Z (.int 0)) λb=>aF .GtE a b,Y (Y (Y (af 2) λa=>Y (Y (Y (af 2) λa=>Y (af 1) λb=>av a b) λa=>Y (Z (.int 1)) λb=>av a b) λb=>av a b) λa=>Y (Z (.int 0)) λb=>av a b) λa=>Y (af 3) λb=>aF .Eq a b])) (λz=>af 1) z) λv=>Y (aE 13 v) λ_=>Z .next
def CS(L n k:Nat)(z:List Nat):M Fl:=Y (if z=[] then(Y (an [af 13,af 0,af 3,af 4]) λvs=>au (A0 L n k vs)) else(dead:M V)) λu=>Y (af 11) λa=>Y (Y (af 1) λa=>Y (af 12) λb=>av a b) λb=>Y (au (a8 z a b u)) λ_=>Z .next
def S3(L n k:Nat)(z:List Nat):M Fl:=ak (CS L n k z) (Z .next)
def S0(L n k:Nat)(z:List Nat):M Fl:=Z .next
def vH(L n k:Nat)(z:List Nat):M Fl:=Y (Y (af 13) λa=>Y (Y (an []) λvs=>au (bt vs)) λb=>aF .NotEq a b) λt=>if t then S3 L n k z else S0 L n k z
def rZ(L n k:Nat)(z:List Nat):M Fl:=ak (vJ L n k z) (ak (vH L n k z) (Z .next))
def CR(L n k:Nat)(z:List Nat):M Fl:=lP L true (Y (Y (an [Z (.int 4)]) λvs=>au (blt .range vs)) jq) (aE 12) (λz=>rZ L n k z) z
def vG(L n k:Nat)(z:List Nat):M Fl:=Y (if z=[] then(Y (an [af 10,af 0,af 3,af 4]) λvs=>au (A0 L (n+1) k vs)) else(dead:M V)) λv=>Y (aW 4 v) λvs=>Y (bD [aE 14,aE 15,aE 16,aE 17] vs) λ_=>Z .next
def CQ(L n k:Nat)(z:List Nat):M Fl:=Y (Y (an [af 15,af 14,af 16,af 17,af 11]) cR) λu=>Y (af 5) λa=>Y (Y (af 1) λa=>Y (af 6) λb=>av a b) λb=>Y (au (a8 z a b u)) λ_=>Z .next
def SZ(L n k:Nat)(z:List Nat):M Fl:=ak (vG L n k z) (ak (CQ L n k z) (Z .next))
def SY(L n k:Nat)(z:List Nat):M Fl:=Z .next
def vF(L n k:Nat)(z:List Nat):M Fl:=Y (Y (af 10) λa=>Y (Y (an []) λvs=>au (bt vs)) λb=>aF .NotEq a b) λt=>if t then SZ L n k z else SY L n k z
def rY(L n k:Nat)(z:List Nat):M Fl:=ak (vL L n k z) (ak (CR L n k z) (ak (vF L n k z) (Z .next)))
def CO(L n k:Nat):M Fl:=lP L true (Y (Y (an [Z (.int 8)]) λvs=>au (blt .range vs)) jq) (aE 6) (λz=>rY L n k z) []
def CN(L n k:Nat):M Fl:=Y (af 5) λv=>Z (.ret v)
def Vd(L n k:Nat):M Fl:=ak (MV L n k) (ak (CP L n k) (ak (MT L n k) (ak (CL L n k) (ak (CO L n k) (ak (CN L n k) (Z .next))))))
theorem a0t(L n k:Nat):(EE L (n+19)).b (bI Di (k+1)) Di.body=Vd L n k:=by kernel_rfl
def Ky(L n k:Nat)(vs:List V):HM V:=bc L Di (n+19) (k+1) vs
theorem Fa{L n k:Nat}{v0:V}{H H':List O}{l':List (Option V)}{fl:Fl}(h:Vd L n k ⟨H,[some v0,none,none,none,none,none,none,none,none,none,none,none,none,none,none,none,none,none,none,none,none,none]⟩=some (fl,⟨H',l'⟩)):Ky L n k [v0] H=some (dX fl,H'):=by unfold Ky bc;rw[a0t];exact cB (by kernel_rfl) (by kernel_rfl) h
def MQ(L n k:Nat):M Fl:=Y (Y (an [af 0]) λvs=>au (Kv L (n+20) (k+3) vs)) λv=>Y (aE 1 v) λ_=>Z .next
def MP(L n k:Nat):M Fl:=Y (Y (an [Y (an [Y (af 1) λa=>Y (Z (.int 0)) λb=>av a b]) λvs=>au (rW L n k vs)]) λvs=>au (nD L (n+8) (k+2) vs)) λv=>Y (aE 2 v) λ_=>Z .next
def MO(L n k:Nat):M Fl:=Y (Y (an [Y (af 1) λa=>Y (Z (.int 1)) λb=>av a b]) λvs=>au (Ky L (n+21) (k+4) vs)) λv=>Y (aE 3 v) λ_=>Z .next
def MN(L n k:Nat):M Fl:=Y (Y (Y (Y (Y (an [Y (af 2) λa=>Y (Z (.int 1)) λb=>av a b,Y (af 2) λa=>Y (Z (.int 0)) λb=>av a b]) λvs=>au (jg L (n+17) (k+3) vs)) λa=>Y (af 3) λb=>aF .Eq a b) λt=>Z (.bool t)) λx=>Y (aD x) λt=>if t then Y (Y (Y (an [Y (af 2) λa=>Y (Z (.int 0)) λb=>av a b,Y (af 2) λa=>Y (Z (.int 1)) λb=>av a b]) λvs=>au (jg L (n+17) (k+3) vs)) λa=>Y (af 3) λb=>aF .Eq a b) λt=>Z (.bool t) else Z x) λv=>Z (.ret v)
def UT(L n k:Nat):M Fl:=ak (MQ L n k) (ak (MP L n k) (ak (MO L n k) (ak (MN L n k) (Z .next))))
theorem a0o(L n k:Nat):(EE L (n+44)).b (bI q8 (k+6)) q8.body=UT L n k:=by kernel_rfl
def Fo(L n k:Nat)(vs:List V):HM V:=bc L q8 (n+44) (k+6) vs
theorem E7{L n k:Nat}{v0:V}{H H':List O}{l':List (Option V)}{fl:Fl}(h:UT L n k ⟨H,[some v0,none,none,none,none,none,none,none,none]⟩=some (fl,⟨H',l'⟩)):Fo L n k [v0] H=some (dX fl,H'):=by unfold Fo bc;rw[a0o];exact cB (by kernel_rfl) (by kernel_rfl) h
set_option genInjectivity true
set_option genSizeOf true
theorem cps{G:Prop}(h:∀P:Prop,(G->P)->P):G:=h G id
section
variable{α β γ:Type}{H:List O}{l r:List (Option V)}{σ:St}
theorem aG(a:α)(f:α->M β):Y (Z a) f=f a:=rfl
theorem aR(a:α):Z a σ=some (a,σ):=rfl
theorem o3(x:M α)(f:α->M β)(σ:St):Y x f σ=(x σ).bind λp=>f p.1 p.2:=by unfold Y;cases x σ<;>rfl
theorem aq(x:M α)(f:α->M β)(g:β->M γ):Y (Y x f) g=Y x λa=>Y (f a) g:=by
 funext σ;rw[o3,o3,o3];cases x σ with
 |none=>rfl
 |some p=>exact(o3 (f p.1) g p.2).symm
theorem fe{x:M α}{f:α->M β}{a:α}{σ':St}{z:Option (β×St)}(h:x σ=some (a,σ'))(k:f a σ'=z):Y x f σ=z:=by rw[ai h];exact k
theorem ag{m r:M Fl}{σ':St}{z:Option (Fl×St)}(h:m σ=some (.next,σ'))(k:r σ'=z):ak m r σ=z:=fe h k
theorem bl{m r:M Fl}{σ':St}{v:V}(h:m σ=some (.ret v,σ')):ak m r σ=some (.ret v,σ'):=fe h rfl
theorem eV{m r:M Fl}{σ':St}(h:m σ=some (.brk,σ')):ak m r σ=some (.brk,σ'):=fe h rfl
theorem sV{m r:M Fl}{σ':St}(h:m σ=some (.cont,σ')):ak m r σ=some (.cont,σ'):=fe h rfl
theorem mn(f:V->M β)(v:V):Y (af 0) f ⟨H,some v::r⟩=f v ⟨H,some v::r⟩:=rfl
theorem uV(f:V->M β)(x0:Option V)(v:V):Y (af 1) f ⟨H,x0::some v::r⟩=f v ⟨H,x0::some v::r⟩:=rfl
theorem lD(f:V->M β)(x0 x1:Option V)(v:V):Y (af 2) f ⟨H,x0::x1::some v::r⟩=f v ⟨H,x0::x1::some v::r⟩:=rfl
theorem pG(f:V->M β)(x0 x1 x2:Option V)(v:V):Y (af 3) f ⟨H,x0::x1::x2::some v::r⟩=f v ⟨H,x0::x1::x2::some v::r⟩:=rfl
theorem v7(f:V->M β)(x0 x1 x2 x3:Option V)(v:V):Y (af 4) f ⟨H,x0::x1::x2::x3::some v::r⟩=f v ⟨H,x0::x1::x2::x3::some v::r⟩:=rfl
theorem Jl(f:V->M β)(x0 x1 x2 x3 x4:Option V)(v:V):Y (af 5) f ⟨H,x0::x1::x2::x3::x4::some v::r⟩=f v ⟨H,x0::x1::x2::x3::x4::some v::r⟩:=rfl
theorem V5(f:V->M β)(x0 x1 x2 x3 x4 x5:Option V)(v:V):Y (af 6) f ⟨H,x0::x1::x2::x3::x4::x5::some v::r⟩=f v ⟨H,x0::x1::x2::x3::x4::x5::some v::r⟩:=rfl
theorem Jk(f:V->M β)(x0 x1 x2 x3 x4 x5 x6:Option V)(v:V):Y (af 7) f ⟨H,x0::x1::x2::x3::x4::x5::x6::some v::r⟩=f v ⟨H,x0::x1::x2::x3::x4::x5::x6::some v::r⟩:=rfl
theorem ZC(f:V->M β)(x0 x1 x2 x3 x4 x5 x6 x7:Option V)(v:V):Y (af 8) f ⟨H,x0::x1::x2::x3::x4::x5::x6::x7::some v::r⟩=f v ⟨H,x0::x1::x2::x3::x4::x5::x6::x7::some v::r⟩:=rfl
theorem ml9(f:V->M β)(x0 x1 x2 x3 x4 x5 x6 x7 x8:Option V)(v:V):Y (af 9) f ⟨H,x0::x1::x2::x3::x4::x5::x6::x7::x8::some v::r⟩=f v ⟨H,x0::x1::x2::x3::x4::x5::x6::x7::x8::some v::r⟩:=rfl
theorem ZE(f:V->M β)(x0 x1 x2 x3 x4 x5 x6 x7 x8 x9:Option V)(v:V):Y (af 10) f ⟨H,x0::x1::x2::x3::x4::x5::x6::x7::x8::x9::some v::r⟩=f v ⟨H,x0::x1::x2::x3::x4::x5::x6::x7::x8::x9::some v::r⟩:=rfl
theorem ZD(f:V->M β)(x0 x1 x2 x3 x4 x5 x6 x7 x8 x9 x10:Option V)(v:V):Y (af 11) f ⟨H,x0::x1::x2::x3::x4::x5::x6::x7::x8::x9::x10::some v::r⟩=f v ⟨H,x0::x1::x2::x3::x4::x5::x6::x7::x8::x9::x10::some v::r⟩:=rfl
theorem Yy(f:Unit->M β)(x0 x1:Option V)(v:V):Y (aE 1 v) f ⟨H,x0::x1::r⟩=f () ⟨H,x0::some v::r⟩:=rfl
theorem Yx(f:Unit->M β)(x0 x1 x2:Option V)(v:V):Y (aE 2 v) f ⟨H,x0::x1::x2::r⟩=f () ⟨H,x0::x1::some v::r⟩:=rfl
theorem Nh(f:Unit->M β)(x0 x1 x2 x3:Option V)(v:V):Y (aE 3 v) f ⟨H,x0::x1::x2::x3::r⟩=f () ⟨H,x0::x1::x2::some v::r⟩:=rfl
theorem ms4(f:Unit->M β)(x0 x1 x2 x3 x4:Option V)(v:V):Y (aE 4 v) f ⟨H,x0::x1::x2::x3::x4::r⟩=f () ⟨H,x0::x1::x2::x3::some v::r⟩:=rfl
theorem ms5(f:Unit->M β)(x0 x1 x2 x3 x4 x5:Option V)(v:V):Y (aE 5 v) f ⟨H,x0::x1::x2::x3::x4::x5::r⟩=f () ⟨H,x0::x1::x2::x3::x4::some v::r⟩:=rfl
theorem ms8(f:Unit->M β)(x0 x1 x2 x3 x4 x5 x6 x7 x8:Option V)(v:V):Y (aE 8 v) f ⟨H,x0::x1::x2::x3::x4::x5::x6::x7::x8::r⟩=f () ⟨H,x0::x1::x2::x3::x4::x5::x6::x7::some v::r⟩:=rfl
theorem ie{γ:Type}(f:α->γ)(y:γ):ba none f y=y:=rfl
theorem jw{γ:Type}(a:α)(f:α->γ)(y:γ):ba (some a) f y=f a:=rfl
theorem dM(g:List O->Option α)(f:α->M β):Y (nZ g) f ⟨H,l⟩=(g H).bind λv=>f v ⟨H,l⟩:=by unfold Y nZ;dsimp only;cases g H<;>rfl
theorem nY(g:List O->Option α):nZ g ⟨H,l⟩=(g H).bind λv=>some (v,⟨H,l⟩):=by unfold nZ;dsimp only;cases g H<;>rfl
theorem o1(a b:V)(f:V->M β):Y (av a b) f ⟨H,l⟩=(df H a b).bind λv=>f v ⟨H,l⟩:=dM _ f
theorem aY(g:HM α)(f:α->M β):Y (au g) f ⟨H,l⟩=(g H).bind λp=>f p.1 ⟨p.2,l⟩:=by unfold Y au;dsimp only;cases g H<;>rfl
theorem ez(g:HM α):au g ⟨H,l⟩=(g H).bind λp=>some (p.1,⟨p.2,l⟩):=by unfold au;dsimp only;cases g H<;>rfl
theorem KC(op:CmpOp)(a b:V)(f:Bool->M β):Y (aF op a b) f ⟨H,l⟩=(bC op H a b).bind λt=>f t ⟨H,l⟩:=dM _ f
theorem eR(op:CmpOp)(a b:V):aF op a b ⟨H,l⟩=(bC op H a b).bind λt=>some (t,⟨H,l⟩):=nY _
theorem sH(a:V):aD a ⟨H,l⟩=(fw H a).bind λt=>some (t,⟨H,l⟩):=nY _
theorem aX(a b:V):av a b ⟨H,l⟩=(df H a b).bind λt=>some (t,⟨H,l⟩):=nY _
theorem LP(i:Nat)(a:V):az i a ⟨H,l⟩=(cj i a H).bind λt=>some (t,⟨H,l⟩):=nY _
theorem A1(a:V)(f:Bool->M β):Y (aD a) f ⟨H,l⟩=(fw H a).bind λt=>f t ⟨H,l⟩:=dM _ f
theorem o4(i:Nat)(o:V)(f:V->M β):Y (az i o) f ⟨H,l⟩=(cj i o H).bind λv=>f v ⟨H,l⟩:=dM _ f
theorem dG(C:Addr)(o:V)(f:Unit->M β):Y (dj C o) f ⟨H,l⟩=if eB C o H then f () ⟨H,l⟩ else none:=(dM _ f).trans (by cases eB C o H<;>rfl)
theorem uD(o:V)(f:Kd->M β):Y (tW o) f ⟨H,l⟩=(dy H o).bind λv=>f v ⟨H,l⟩:=dM _ f
theorem cU(n:Nat)(v:V)(f:List V->M β):Y (aW n v) f ⟨H,l⟩=(i5 H v).bind λvs=>if vs.length=n then f vs ⟨H,l⟩ else none:=(dM _ f).trans (by
 cases i5 H v with
 |none=>rfl
 |some vs=>dsimp only[Option.bind_some];by_cases h:vs.length=n<;>simp[h])
theorem sG(a b:V)(f:V->M β):Y (cR [a,b]) f=f (.tup [a,b]):=rfl
theorem vc(a b c:V)(f:V->M β):Y (cR [a,b,c]) f=f (.tup [a,b,c]):=rfl
theorem T3(a b c d:V)(f:V->M β):Y (cR [a,b,c,d]) f=f (.tup [a,b,c,d]):=rfl
theorem GE(a b c d e:V)(f:V->M β):Y (cR [a,b,c,d,e]) f=f (.tup [a,b,c,d,e]):=rfl
theorem fL(i:Int)(f:V->M β):Y (g7 (.int i)) f=f (.int (-i)):=rfl
theorem aj(f:List V->M β):Y (an []) f=f []:=rfl
theorem ah(m:M V)(ms:List (M V))(f:List V->M β):Y (an (m::ms)) f=Y m λv=>Y (an ms) λvs=>f (v::vs):=by show Y (Y m λv=>Y (an ms) λvs=>Z (v::vs)) f=_;rw[aq];congr 1;funext v;rw[aq];rfl
theorem jx(f:Unit->M β):Y (bD [] []) f=f ():=rfl
theorem iY(m:V->M Unit)(ms:List (V->M Unit))(v:V)(vs:List V)(f:Unit->M β):Y (bD (m::ms) (v::vs)) f=Y (m v) λ_=>Y (bD ms vs) f:=by show Y (Y (m v) λ_=>bD ms vs) f=_;rw[aq]
theorem kI(f:Bool->M β):Y (bv []) f=f true:=rfl
theorem jy(m:M Bool)(ms:List (M Bool))(f:Bool->M β):Y (bv (m::ms)) f=Y m λt=>Y (if t then bv ms else Z false) f:=by show Y (Y m _) f=_;rw[aq]
theorem eX(f:Option Int->M β):Y (cx none) f=f none:=rfl
theorem bV(m:M V)(f:Option Int->M β):Y (cx (some m)) f=Y m λu=>Y (λσ=>(qj u).map λk=>(k,σ)) f:=by show Y (Y m _) f=_;rw[aq];congr 1;funext u;cases qj u<;>rfl
theorem cA(i:Int)(f:Option Int->M β):Y (λσ=>(qj (.int i)).map λk=>(k,σ)) f=f (some i):=rfl
theorem hU(t:Bool)(x y:M α)(f:α->M β):Y (if t then x else y) f=if t then Y x f else Y y f:=by cases t<;>rfl
theorem eC(t:Bool)(x y:M α):(if t then x else y) σ=if t then x σ else y σ:=by cases t<;>rfl
noncomputable def jS:Option O->Option (List V)
 |some (.list vs)=>some vs
 |_=>none
def ud(k:Int)(o:Option O):Option V:=(jS o).bind λvs=>Q3 vs k
theorem aJ(n:Nat)(k:Int):df H (.ref n) (.int k)=ud k H[n]? :=rfl
theorem di(vs:List V)(k:Int)(h:vs.length<=ax):ud k (some (.list vs))=f0 vs k:=q1k h
theorem D0(a b c d:V)(k:Int):ud k (some (.list [a,b,c,d]))=f0 [a,b,c,d] k:=rfl
theorem ZJ(a b c:V)(k:Int):ud k (some (.list [a,b,c]))=f0 [a,b,c] k:=rfl
theorem ZH(a b c:V)(k:Int):df H (.tup [a,b,c]) (.int k)=f0 [a,b,c] k:=rfl
theorem ZI(a b:V)(k:Int):df H (.tup [a,b]) (.int k)=f0 [a,b] k:=rfl
noncomputable def dcO:Option O->Option (List (Str×V))
 |some (.dict es)=>some es
 |_=>none
def itK(key:Str)(o:Option O):Option V:=(dcO o).bind λes=>es.lookup key
theorem DZ(n:Nat)(k:Str):df H (.ref n) (.str k)=itK k H[n]? :=rfl
theorem iQ(vs:List V)(v:V):f0 (vs++[v]) (-1)=some v:=by
 unfold f0;have:seqIndex? (-1) (vs++[v]).length=some vs.length:=by unfold seqIndex?;rw[q0x,List.length_singleton];simp only[show(-1:Int)<0 by decide,if_true];rw[q1k (by simp;lia)];congr 1;lia
 rw[this];simp
theorem hG(vs:List V)(n:Nat):f0 vs (n:Int)=vs[n]? :=by
 unfold f0 seqIndex?;by_cases h:n<vs.length
 ·simp[h,Int.not_lt.mpr (Int.natCast_nonneg n)]
 ·simp[h,Int.not_lt.mpr (Int.natCast_nonneg n)]
theorem nB(vs:List V)(n:Nat):f0 vs (OfNat.ofNat n)=vs[n]? :=hG vs n
theorem ix0(a:V)(r:List V):f0 (a::r) 0=some a:=nB (a::r) 0
theorem ix1(a b:V)(r:List V):f0 (a::b::r) 1=some b:=nB (a::b::r) 1
theorem ZG(a b c:V)(r:List V):f0 (a::b::c::r) 2=some c:=nB (a::b::c::r) 2
theorem ix3(a b c d:V)(r:List V):f0 (a::b::c::d::r) 3=some d:=nB (a::b::c::d::r) 3
theorem bH(n:Nat):dy H (.ref n)=Wk H[n]? :=rfl
theorem jz(n:Nat):i5 H (.ref n)=jS H[n]? :=rfl
theorem dL(vs:List V):i5 H (.tup vs)=some vs:=rfl
theorem kd_list(vs:List V):Wk (some (.list vs))=some .list:=rfl
theorem QU(x:Str):dy H (.str x)=some .str:=rfl
theorem w7(vs:List V):jS (some (.list vs))=some vs:=rfl
theorem jE:(so .list .append).isSome=true:=rfl
theorem DG:(so .list .pop).isSome=true:=rfl
theorem QN:(so .list .reverse).isSome=true:=rfl
theorem v8:(so .dict .get).isSome=true:=rfl
theorem QK:(so .str .startswith).isSome=true:=rfl
theorem QL:(so .str .endswith).isSome=true:=rfl
theorem QM:(so .d8 .pop).isSome=true:=rfl
theorem YA:bt [] H=some (.ref H.length,H++[.list []]):=rfl
theorem ls1(a:V):bt [a] H=some (.ref H.length,H++[.list [a]]):=rfl
theorem Wb(a b c:V):bt [a,b,c] H=some (.ref H.length,H++[.list [a,b,c]]):=rfl
theorem Yz(a b c d:V):bt [a,b,c,d] H=some (.ref H.length,H++[.list [a,b,c,d]]):=rfl
theorem rP:lS H=some (.ref H.length,H++[.dict []]):=rfl
theorem bX(o:O):(H++[o])[H.length]?=some o:=by rw[q2h (q0c _),Nat.sub_self];rfl
theorem add_int(a b:Int):bn .Add (.int a) (.int b) H=some (.int (a+b),H):=rfl
theorem sub_int(a b:Int):bn .Sub (.int a) (.int b) H=some (.int (a-b),H):=rfl
theorem gt_int(a b:Int):bC .Gt H (.int a) (.int b)=some (decide (a > b)):=rfl
theorem lt_int(a b:Int):bC .Lt H (.int a) (.int b)=some (decide (a<b)):=rfl
theorem ge_int(a b:Int):bC .GtE H (.int a) (.int b)=some (decide (a≥b)):=rfl
theorem eq_int(a b:Int):bC .Eq H (.int a) (.int b)=some (a==b):=rfl
theorem eq_str(a b:Str):bC .Eq H (.str a) (.str b)=some (a==b):=rfl
theorem ne_str(a b:Str):bC .NotEq H (.str a) (.str b)=some (!(a==b)):=rfl
theorem b9(n:Nat):cI H n=jS H[n]? :=rfl
noncomputable def inO:Option O->Option (Addr×List (Option V))
 |some (.inst C fs)=>some (C,fs)
 |_=>none
theorem yn{m:Nat}{C:Addr}{fs:List (Option V)}(h:H[m]?=some (.inst C fs)):dI H m=some (C,fs):=(rfl:_=inO H[m]?).trans (h▸rfl)
theorem isIn{m:Nat}{C:Addr}{fs:List (Option V)}(h:H[m]?=some (.inst C fs)):eB C (.ref m) H=true:=by show ba (dI H m) (λc=>c.1==C) false=true;rw[yn h];exact beq_self_eq_true C
theorem yK{m:Nat}{es:List (Str×V)}(h:H[m]?=some (.dict es)):dm H m=some es:=by unfold dm;rw[h]
theorem Xm{m:Nat}{vs:List V}(h:H[m]?=some (.d8 vs)):iW H m=some vs:=by unfold iW;rw[h]
end
section
variable{α β γ:Type}{H:List O}{l r:List (Option V)}{σ:St}
inductive Tg{α:Type}(x:α):Type
 |mk:Tg x
noncomputable def bq(f:α->M β)(σ:St)(u:Tg f)(x:Option α):Option (β×St):=x.bind λv=>f v σ
noncomputable def bh(f:α->M β)(l:List (Option V))(u:Tg f)(x:Option (α×List O)):Option (β×St):=x.bind λp=>f p.1 ⟨p.2,l⟩
theorem cT(a:α)(f:α->M β)(σ:St)(u:Tg f):bq f σ u (some a)=f a σ:=rfl
theorem bj(a:α)(h:List O)(f:α->M β)(l:List (Option V))(u:Tg f):bh f l u (some (a,h))=f a ⟨h,l⟩:=rfl
theorem bP(a b:V)(f:V->M β):Y (av a b) f ⟨H,l⟩=bq f ⟨H,l⟩ .mk (df H a b):=dM _ f
theorem aC(g:HM α)(f:α->M β):Y (au g) f ⟨H,l⟩=bh f l .mk (g H):=aY _ _
theorem eW(op:CmpOp)(a b:V)(f:Bool->M β):Y (aF op a b) f ⟨H,l⟩=bq f ⟨H,l⟩ .mk (bC op H a b):=dM _ f
theorem z6(a:V)(f:Bool->M β):Y (aD a) f ⟨H,l⟩=bq f ⟨H,l⟩ .mk (fw H a):=dM _ f
theorem xV(x:Str)(a:V)(f:V->M β):Y (Dr x a) f ⟨H,l⟩=bq f ⟨H,l⟩ .mk (Dp x a):=dM _ f
theorem gK(i:Nat)(o:V)(f:V->M β):Y (az i o) f ⟨H,l⟩=bq f ⟨H,l⟩ .mk (cj i o H):=dM _ f
theorem b8(o:V)(f:Kd->M β):Y (tW o) f ⟨H,l⟩=bq f ⟨H,l⟩ .mk (dy H o):=dM _ f
theorem du(z:List Nat)(m:Mt)(mo:M V)(ms:List (M V))(f:V->M β):Y (d0 z m mo ms) f=Y mo λo=>Y (tW o) λk=>Y (an ms) λvs=>Y (if (so k m).isSome then au (nh z k m o vs) else λ_=>none) f:=by unfold d0;rw[aq];congr 1;funext o;rw[aq];congr 1;funext k;rw[aq]
theorem DE(z:List Nat)(m:Mt)(mo:M V)(ms:List (M V)):d0 z m mo ms σ=Y mo (λo=>Y (tW o) λk=>Y (an ms) λvs=>if (so k m).isSome then au (nh z k m o vs) else λ_=>none) σ:=rfl
end
theorem NZ{a b:Int}(ha:0<=a)(hb:0<=b):a.toNat=b.toNat↔a=b:=⟨λe=>by rw[<-Int.toNat_of_nonneg ha,e,Int.toNat_of_nonneg hb],q1s _⟩
theorem BQ{a:Int}{n:Nat}(h:0<=a):a.toNat=n↔a=n:=⟨λe=>e▸(Int.toNat_of_nonneg h).symm,λe=>e▸Int.toNat_natCast n⟩
theorem l8{a:Int}{n:Nat}(h:0<=a)(l:a<n):a.toNat<n:=(Int.toNat_lt h).mpr l
section
variable{L n k:Nat}{H:List O}{l:List (Option V)}
theorem xC(a b c:V):bY (.tup [a,b,c]) none (some 2) H=some (.tup [a,b],H):=rfl
theorem J4(a b:Str)(i j:Int):bC .Eq H (.tup [.str a,.int i]) (.tup [.str b,.int j])=some (a==b&&(i==j&&true)):=rfl
theorem sP(a t:Str)(ln:Int)(s:String)(hn:cF ln=some s)(ha:(a==("~" : Str)&&(ln==0&&true))=false)(h1:a.length<=1000000)(h2:t.length<=1000000):rV L n k [.tup [.str a,.int ln,.str t]] H=some (.str (Pct.iq a s t),H):=by
 refine uz (fl:=.ret _) (l':=[some (.tup [.str a,.int ln,.str t]),none]) ?_;refine bl ?_;have e:Dp "%s:%d(%s)" (.tup [.str a,.int ln,.str t])=some (.str (Pct.iq a s t)):=
  (q1k ⟨rfl,h1,h2⟩).trans (by rw[hn];rfl)
 have f:NF L n k ⟨H,[some (.tup [.str a,.int ln,.str t]),none]⟩=some (.ret (.str (Pct.iq a s t)),⟨H,[some (.tup [.str a,.int ln,.str t]),none]⟩):=by refine bl ?_;simp only[Mx];simp only[cT,↓aR,↓aq,↓mn,↓xV, *]
 have g1 :=@xC;have g2 :=@J4;simp only[vB];simp only[cT,bj,↓aG,↓aq,↓mn,↓aC,↓eW,↓sG,↓aj,↓ah,↓eX,↓bV,↓cA,↓eC,Bool.false_eq_true,↓reduceIte, *]
theorem ve(b:Bool):fw H (.bool b)=some b:=rfl
theorem T5(c y:Str):nh [] .str .startswith (.str c) [.str y] H=some (.bool (Txt.startswith c y),H):=rfl
theorem W3(c y:Str):nh [] .str .endswith (.str c) [.str y] H=some (.bool (Txt.endswith c y),H):=rfl
noncomputable def fa(c:Str):Str:=if Txt.startswith c "<" = true/\Txt.endswith c ">" = true then(PySem.Str.ofString "{" ++ Txt.slice c (some 1) (some (-1)))++PySem.Str.ofString "}" else c
theorem xB(c:Str)(h1:c.length<=1000000):rV L n k [.tup [.str "~",.int 0,.str c]] H=some (.str (fa c),H):=by
 have hz:ax=1048576:=rfl;refine uz (fl:=.ret _) (l':=[some (.tup [.str "~",.int 0,.str c]),some (.str c)]) ?_;refine bl ?_;have e0:bC .Eq H (.tup [.str "~",.int 0]) (.tup [.str "~",.int 0])=some true:=rfl;have s0 :=@xC;have e1:NG L n k ⟨H,[some (.tup [.str "~",.int 0,.str c]),none]⟩=some (.ret (.str (fa c)),⟨H,[some (.tup [.str "~",.int 0,.str c]),some (.str c)]⟩):=by
  refine ag (σ':=⟨H,[some (.tup [.str "~",.int 0,.str c]),some (.str c)]⟩) ?_ (bl ?_)
  ·simp only[MA]
   simp only[cT,↓aG,↓aR,↓aq,↓mn,↓Yy,↓bP,ZH,ZG, *]
  ·have t0 :=@ve
   have t1 :=@T5;have t2 :=@W3;have y:NH L n k ⟨H,[some (.tup [.str "~",.int 0,.str c]),some (.str c)]⟩=some (.ret (.str c),⟨H,[some (.tup [.str "~",.int 0,.str c]),some (.str c)]⟩):=rfl;simp only[My];simp only[cT,bj,↓aG,↓aq,↓uV,↓aC,↓z6,↓b8,QU,QK,QL,↓aj,↓ah,↓kI,↓jy,↓hU,↓eC,Bool.false_eq_true,↓du,↓reduceIte, *];by_cases c1:Txt.startswith c "<" = true
   ·by_cases c2:Txt.endswith c ">" = true
    ·rw[q1k c1,q1k c2]
     refine bl ?_;unfold fa;rw[q1k ⟨c1,c2⟩];have hsl:(Txt.slice c (some 1) (some (-1))).length<=1000000:=q0d (Txt.slice_le c _ _) h1;have u1:bY (.str c) (some 1) (some (-1)) H=some (.str (Txt.slice c (some 1) (some (-1))),H):=q1k (by lia);have u2:Dp "{%s}" (.str (Txt.slice c (some 1) (some (-1))))=some (.str ((PySem.Str.ofString "{" ++ Txt.slice c (some 1) (some (-1)))++PySem.Str.ofString "}")):=q1k ⟨rfl,hsl⟩;simp only[Mz];simp only[cT,bj,↓aG,↓aR,↓aq,↓uV,↓aC,↓xV,↓fL,↓bV,↓cA, *]
    ·unfold fa
     rw[q1k c1,q1l c2,q1l (λh=>c2 h.2)]
   ·unfold fa
    rw[q1l c1,q1l (λh=>c1 h.1)]
 simp only[vB];simp only[cT,bj,↓aG,↓aq,↓mn,↓aC,↓eW,↓sG,↓aj,↓ah,↓eX,↓bV,↓cA,↓eC,↓reduceIte, *]
theorem BX(x:Str)(h:x.length<=ax):bY (.str x) (some (-1)) none H=some (.str (Txt.slice x (some (-1)) none),H):=q1k h
theorem add_str(a b:Str)(h:a.length+b.length<=ax):bn .Add (.str a) (.str b) H=some (.str (a++b),H):=by show(if _ then _ else _)=_;rw[q1k h]
theorem r0(z:List Nat)(a b:Str)(h:a.length+b.length<=ax):dN z (.str a) (.str b) H=some (.str (a++b),H):=q1k h
theorem xF(z:List Nat)(m:Nat)(i:Nat)(vs:List V)(u:V)(h:H[m]?=some (.list vs))(hz:m∉z)(hi:i<vs.length)(hl:vs.length<=ax):a8 z (.ref m) (.int (i:Int)) u H=some ((),H.set m (.list (vs.set i u))):=by show(jS H[m]?).bind (λvs=>if m∉z/\(0:Int)<=i/\(i:Int)<vs.length/\vs.length<=ax then some ((),H.set m (.list (vs.set i u))) else none)=_;rw[h];exact q1k ⟨hz,Int.natCast_nonneg i,Int.ofNat_lt.mpr hi,hl⟩
noncomputable def bk(t w:Str):Str:=if (w==("" : Str)&&!(Txt.slice t (some (-1)) none==(")" : Str))) then " " else w
theorem tw(hl:H[lr]?=some (.list (vs++[.ref f])))(hz:vs.length<ax)(hf:H[f]?=some (.list [a,b,.str t,d]))(h1:(bk t w).length+p.length<=ax)(h2:t.length+(bk t w++p).length<=ax):Fn L n k [.ref lr,.str p,.str w] H=some (.none,H.set f (.list [a,b,.str (t++(bk t w++p)),d])):=by
 have e0:df H (.ref lr) (.int (-1))=some (.ref f):=by rw[aJ,hl,di _ _ (by simp;lia),iQ]
 have ht:t.length<=ax:=by lia
 refine E5 (fl:=.next) (l':=[some (.ref lr),some (.str p),some (.str (bk t w))]) ?_;refine ag (σ':=⟨H,[some (.ref lr),some (.str p),some (.str (bk t w))]⟩) ?_ (ag (σ':=⟨H.set f (.list [a,b,.str (t++(bk t w++p)),d]),[some (.ref lr),some (.str p),some (.str (bk t w))]⟩) ?_ rfl)
 ·have g1:=eq_str (H:=H) w ""
  have g2:=ne_str (H:=H) (Txt.slice t (some (-1)) none) ")";have g3:=BX (H:=H) t ht;unfold bk;simp only[MM];simp only[cT,bj,↓aG,↓aq,↓mn,↓lD,↓bP,↓aC,↓eW,↓fL,D0,ZG,↓kI,↓jy,↓eX,↓bV,↓cA,↓hU,↓eC,aJ,Bool.false_eq_true,↓reduceIte, *];generalize (w==PySem.Str.ofString "")=b1;generalize (Txt.slice t (some (-1)) none==PySem.Str.ofString ")")=b2;cases b1<;>cases b2<;>rfl
 ·have g1:=add_str (H:=H) (bk t w) p h1
  have g2:=r0 (H:=H) [] t (bk t w++p) h2;have g3:a8 [] (.ref f) (.int 2) (.str (t++(bk t w++p))) H=some ((),H.set f (.list [a,b,.str (t++(bk t w++p)),d])):=xF [] f 2 [a,b,.str t,d] _ hf (by simp) (by simp) (Nat.le_of_ble_eq_true rfl);simp only[MK];simp only[cT,bj,↓aG,↓aR,↓aq,↓mn,↓uV,↓lD,↓bP,↓aC,↓fL,D0,ZG,aJ, *]
end
noncomputable def mH{β:Type}(ob:β->O)(H:List O):List Nat->List β->Prop
 |[],[]=>True
 |r::rs,x::xs=>H[r]?=some (ob x)/\mH ob H rs xs
 |_,_=>False
section
variable{β:Type}{ob:β->O}{H H':List O}
theorem mH.keep:∀{rs:List Nat}{xs:List β},mH ob H rs xs->(∀r∈rs,∀o,H[r]?=some o->H'[r]?=some o)->mH ob H' rs xs
 |[],[],_,_=>trivial
 |r::rs,x::xs,h,k=>⟨k r (q0g ..) _ h.1,h.2.keep λr hr=>k r (q0k _ hr)⟩
theorem mH.len:∀{rs:List Nat}{xs:List β},mH ob H rs xs->rs.length=xs.length
 |[],[],_=>rfl
 |r::rs,x::xs,h=>by simp only[List.length_cons,List.length_cons,h.2.len]
theorem mH.snoc:∀{rs:List Nat}{xs:List β}{r:Nat}{x:β},mH ob H rs xs->H[r]?=some (ob x)->mH ob H (rs++[r]) (xs++[x])
 |[],[],_,_,_,e=>⟨e,trivial⟩
 |_::_,_::_,_,_,h,e=>⟨h.1,h.2.snoc e⟩
theorem mH.get:∀{rs:List Nat}{xs:List β},mH ob H rs xs->∀{i:Nat}{x:β},xs[i]?=some x->∃r,rs[i]?=some r/\H[r]?=some (ob x)
 |[],[],_,_,_,e=>by simp at e
 |_::_,_::_,h,0,x,e=>by simp at e;subst e;exact⟨_,rfl,h.1⟩
 |_::_,_::_,h,i+1,x,e=>by simpa using h.2.get (i:=i) (by simpa using e)
theorem mH.lt:∀{rs:List Nat}{xs:List β},mH ob H rs xs->∀r∈rs,r<H.length
 |r::rs,x::xs,h,q,hq=>by
  rcases q0m.mp hq with rfl | hq
  ·exact(q0b.mp h.1).1
  ·exact h.2.lt q hq
theorem ar{J:List O}{i:Nat}{o:O}(h:H[i]?=some o):(H++J)[i]?=some o:=by rw[q0e (q0b.mp h).1];exact h
theorem fM:(H++o::J)[H.length]?=some o:=by rw[q2h (q0c _),Nat.sub_self];rfl
theorem ay(hn:i≠n)(h:H[i]?=some o):(H.set n x)[i]?=some o:=by rw[q0j (Ne.symm hn)];exact h
theorem bx(h:H[n]?=some o):(H.set n x)[n]?=some x:=by rw[List.getElem?_set_self (q0b.mp h).1]
end
structure d9 where
 file:Str
 line:Int
 text:Str
 place:Int
noncomputable def d9.obj(f:d9):O:=.list [.str f.file,.int f.line,.str f.text,.int f.place]
noncomputable def fA(c:Int×Int×Int):O:=.list [.int c.1,.int c.2.1,.int c.2.2]
structure dO(H:List O)(lr cr:Nat)(rs cs:List Nat)(fs:List d9)(aa:List (Int×Int×Int)):Prop where
 lst:H[lr]?=some (.list (rs.map V.ref).reverse)
 frs:mH d9.obj H rs fs
 cls:H[cr]?=some (.list (cs.map V.ref))
 cl:mH fA H cs aa
 nd:(lr::cr::(rs++cs)).Nodup
section
variable{L n k lr cr f g:Nat}{H:List O}{rs cs:List Nat}{fs:List d9}{F G:d9}{aa:List (Int×Int×Int)}
theorem dO.app(R:dO H lr cr rs cs fs aa)(J:List O):dO (H++J) lr cr rs cs fs aa:=⟨ar R.lst,R.frs.keep λ_ _ _ h=>ar h,ar R.cls,R.cl.keep λ_ _ _ h=>ar h,R.nd⟩
theorem dO.ne(R:dO H lr cr (f::rs) cs fs aa):f≠lr/\f≠cr/\lr≠cr/\(∀r∈rs,r≠f/\r≠lr/\r≠cr)/\∀c∈cs,c≠f/\c≠lr/\c≠cr:=by have h:=R.nd;simp only[List.cons_append,List.nodup_cons,List.mem_cons,List.mem_append,not_or] at h;obtain⟨⟨h1,h2,h3,h4⟩,⟨h5,h6,h7⟩,⟨h8,h9⟩,YS⟩:=h;refine⟨Ne.symm h2,Ne.symm h5,h1,λr hr=>⟨λe=>h8 (e▸hr),λe=>h3 (e▸hr),λe=>h6 (e▸hr)⟩,λc hc=>⟨λe=>h9 (e▸hc),λe=>h4 (e▸hc),λe=>h7 (e▸hc)⟩⟩
theorem dO.put(R:dO H lr cr (f::rs) cs (F::fs) aa)(F':d9):dO (H.set f F'.obj) lr cr (f::rs) cs (F'::fs) aa:=by obtain⟨a,b,c,d,e⟩:=R.ne;exact⟨ay (Ne.symm a) R.lst,⟨bx R.frs.1,R.frs.2.keep λr hr _ h=>ay (d r hr).1 h⟩,ay (Ne.symm b) R.cls,R.cl.keep λr hr _ h=>ay (e r hr).1 h,R.nd⟩
theorem dO.pop(R:dO H lr cr (f::rs) cs (F::fs) aa):dO (H.set lr (.list (rs.map V.ref).reverse)) lr cr rs cs fs aa:=by obtain⟨a,b,c,d,e⟩:=R.ne;refine⟨bx R.lst,R.frs.2.keep λr hr _ h=>ay (d r hr).2.1 h,ay (Ne.symm c) R.cls,R.cl.keep λr hr _ h=>ay (e r hr).2.1 h,?_⟩;have h:=R.nd;simp only[List.cons_append,List.nodup_cons,List.mem_cons,List.mem_append,not_or] at h ⊢;exact⟨⟨h.1.1,h.1.2.2⟩,h.2.1.2,h.2.2.2⟩
theorem Ab(h:(as++bs).Nodup)(h1:q∉as)(h2:q∉bs):(as++q::bs).Nodup:=by
 induction as with
 |nil=>exact List.nodup_cons.mpr ⟨h2,h⟩
 |cons a as ih=>
  rw[List.cons_append,List.nodup_cons] at h ⊢;refine⟨λz=>?_,ih h.2 λz=>h1 (q0k _ z)⟩;rcases q1q.mp z with z | z
  ·exact h.1 (List.mem_append_left _ z)
  ·rcases q0m.mp z with z | z
   ·exact h1 (z▸q0g ..)
   ·exact h.1 (List.mem_append_right _ z)
theorem dO.lt(R:dO H lr cr rs cs fs aa)(hq:q∈lr::cr::(rs++cs)):q<H.length:=by
 rcases q0m.mp hq with rfl | hq
 ·exact(q0b.mp R.lst).1
 rcases q0m.mp hq with rfl | hq
 ·exact(q0b.mp R.cls).1
 rcases q1q.mp hq with hq | hq
 ·exact R.frs.lt q hq
 ·exact R.cl.lt q hq
theorem dO.new(R:dO H lr cr rs cs fs aa):H.length∉lr::cr::(rs++cs):=λh=>q1c _ (R.lt h)
theorem dO.push{q:Nat}(R:dO H lr cr rs cs fs aa)(hq:q∉lr::cr::(rs++cs))(hF:H[q]?=some F.obj):dO (H.set lr (.list ((q::rs).map V.ref).reverse)) lr cr (q::rs) cs (F::fs) aa:=by have h:=R.nd;simp only[List.nodup_cons,List.mem_cons,List.mem_append,not_or] at h hq;obtain⟨⟨h1,h3,h4⟩,⟨h6,h7⟩,YS⟩:=h;obtain⟨q1,q2,q3,q4⟩:=hq;refine⟨bx R.lst,⟨ay q1 hF,R.frs.keep λr hr _ h=>ay (λe=>h3 (e▸hr)) h⟩,ay (Ne.symm h1) R.cls,R.cl.keep λr hr _ h=>ay (λe=>h4 (e▸hr)) h,?_⟩;simp only[List.cons_append,List.nodup_cons,List.mem_cons,List.mem_append,not_or];exact⟨⟨h1,Ne.symm q1,h3,h4⟩,⟨Ne.symm q2,h6,h7⟩,⟨q3,q4⟩,YS⟩
theorem dO.call(R:dO H lr cr rs cs fs aa)(hq:q∉lr::cr::(rs++cs))(hc:H[q]?=some (fA c)):dO (H.set cr (.list ((cs++[q]).map V.ref))) lr cr rs (cs++[q]) fs (aa++[c]):=by have h:=R.nd;simp only[List.nodup_cons,List.mem_cons,List.mem_append,not_or] at h hq;obtain⟨⟨h1,h3,h4⟩,⟨h6,h7⟩,YS⟩:=h;obtain⟨q1,q2,q3,q4⟩:=hq;refine⟨ay h1 R.lst,R.frs.keep λr hr _ h=>ay (n:=cr) (λe=>h6 (e▸hr)) h,bx R.cls,(R.cl.keep (H':=H.set cr (.list ((cs++[q]).map V.ref))) λr hr _ h=>ay (n:=cr) (λe=>h7 (e▸hr)) h).snoc (ay q2 hc),?_⟩;simp only[List.nodup_cons,List.mem_cons,List.mem_append,not_or,q2c,or_false];refine⟨⟨h1,h3,h4,Ne.symm q1⟩,⟨h6,h7,Ne.symm q2⟩,?_⟩;rw[<-q0i];have:=Ab (q:=q) (as:=rs++cs) (bs:=[]) (by simpa using YS) (by simp[q3,q4]) (by simp);simpa using this
def bO(F G:d9)(w:Str):d9:={G with text:=G.text++(bk G.text w++Pct.iq F.file ((cF F.line).getD "") F.text)}
theorem xW(h:H[m]?=some (.list (vs++[v])))(hz:m∉z)(hl:vs.length<ax):nh z .list .pop (.ref m) [] H=some (v,H.set m (.list vs)):=by unfold nh;simp only[vR,Option.bind_some,tO,b9,h,jS];rw[q1k (by simp;lia)];simp only[Option.bind_some];rw[q1l hz];unfold DL;simp
theorem gn(h:H[m]?=some (.list vs))(hz:m∉z)(hl:vs.length<ax):nh z .list .append (.ref m) [v] H=some (.none,H.set m (.list (vs++[v]))):=by unfold nh;simp only[vR,Option.bind_some,tO,b9,h,jS];rw[q1k (by lia)];simp only[Option.bind_some];rw[q1l hz];unfold DL;simp[one,hl]
theorem pW(R:dO H lr cr (f::g::rs) cs (F::G::fs) aa)(hn:cF F.line=some s)(ha:(F.file==("~" : Str)&&(F.line==0&&true))=false)(h0:rs.length<=1000)(h1:F.file.length<=100)(h2:F.text.length<=10000)(h3:G.text.length<=10000)(h4:(PySem.Str.ofString s).length<=100)(h5:w.length<=10):uC L n k [.ref lr,.str w] H=some (.none,(H.set lr (.list ((g::rs).map V.ref).reverse)).set g (bO F G w).obj):=by
 obtain⟨a,b,c,d,e⟩:=R.ne;have R1:=R.pop;have e1:H[lr]?=some (.list (((g::rs).map V.ref).reverse++[.ref f])):=by rw[R.lst];simp
 have e2:=xW (z:=[]) e1 (by first | rfl | simp) (by simp[ax];lia);have e3:H[f]?=some (.list [.str F.file,.int F.line,.str F.text,.int F.place]):=R.frs.1;have hp:(Pct.iq F.file s F.text).length=F.file.length+1+(PySem.Str.ofString s).length+1+F.text.length+1:=by unfold Pct.iq;simp only[Str.length_append];rfl
 have hw:(bk G.text w).length<=10:=by
  unfold bk;split
  ·decide
  ·exact h5
 have hz:ax=1048576:=rfl;refine AT (fl:=.next) (l':=[some (.ref lr),some (.str w),some (.str F.file),some (.int F.line),some (.str F.text),some (.int F.place),none,none]) ?_;refine ag (σ':=⟨H.set lr (.list ((g::rs).map V.ref).reverse),[some (.ref lr),some (.str w),some (.str F.file),some (.int F.line),some (.str F.text),some (.int F.place),none,none]⟩) ?_ (ag (σ':=⟨(H.set lr (.list ((g::rs).map V.ref).reverse)).set g (bO F G w).obj,_⟩) ?_ rfl)
 ·have e5:(H.set lr (.list ((g::rs).map V.ref).reverse))[f]?=some (.list [.str F.file,.int F.line,.str F.text,.int F.place]):=ay a e3
  simp only[Cu];simp only[cT,bj,↓aR,↓mn,↓Yx,↓Nh,↓ms4,↓ms5,↓aC,↓b8,cU,kd_list,w7,DG,↓aj,↓jx,↓iY,↓hU,↓eC,Option.bind_some,bH,jz,↓du,↓reduceIte, *];rfl
 ·have s1:=sP (L:=L) (n:=n) (k:=k) (H:=H.set lr (.list ((g::rs).map V.ref).reverse)) F.file F.text F.line s hn ha (by lia) (by lia)
  have s2:=tw (L:=L) (n:=n+1) (k:=k) (H:=H.set lr (.list ((g::rs).map V.ref).reverse)) (lr:=lr) (f:=g) (vs:=(rs.map V.ref).reverse) (p:=Pct.iq F.file s F.text) (w:=w) (t:=G.text) (a:=.str G.file) (b:=.int G.line) (d:=.int G.place)
   (by rw[bx R.lst];simp) (by simp;lia) R1.frs.1 (by lia) (by rw[Str.length_append];lia)
  have s3:(cF F.line).getD "" = s:=by rw[hn];rfl
  unfold bO;simp only[Ct,s3];simp only[bj,↓aR,↓aq,↓mn,↓uV,↓lD,↓pG,↓v7,↓aC,↓vc,↓aj,↓ah, *];rfl
end
noncomputable def wh(i:Int):Str:=if i=0 then "" else if i=1 then " " else "\n"
noncomputable def kindOf(x:Int):Int:=(x.fdiv 12).fmod 4
noncomputable def iB(x:Int):Str:=wh ((x.fdiv 4).fmod 3)
noncomputable def dp(x:Int):Int:=(x.fdiv 48).fmod 100
noncomputable def bU(k:Int):Str:=if k=2 then "b.c" else if k=3 then "~" else "a"
noncomputable def cJ(k:Int):Int:=if k=0 then 0 else if k=1 then -20 else if k=2 then 300 else 7
noncomputable def bf(c:Int):Str:=toString c
def gf(k c:Int):Str:=((if k=0\/k=2 then("<" : Str) else "")++bf c)++(if k=0\/k=3 then(">" : Str) else "")
theorem kD(a b:Int)(hb:0<b):0<=a.fmod b/\a.fmod b<b:=⟨Int.fmod_nonneg_of_pos _ hb,Int.fmod_lt_of_pos _ hb⟩
theorem dD{P:Int->Prop}(h:∀c:Fin 100,P c.val){c:Int}(h0:0<=c)(h1:c<100):P c:=by have:=h ⟨c.toNat,by lia⟩;simpa[Int.toNat_of_nonneg h0] using this
theorem om{c:Int}(h0:0<=c)(h1:c<100):(bf c).length<=2:=dD (P:=λc=>(bf c).length<=2) (by decide +kernel) h0 h1
section
variable{L n k lr cr f g:Nat}{H:List O}{rs cs:List Nat}{fs:List d9}{F G:d9}{aa:List (Int×Int×Int)}
theorem xw{c:Int}(h0:0<=c)(h1:c<100):blt .str [.int c] H=some (.str (bf c),H):=q1k (dD (P:=λc=>c.natAbs.log2<1920) (by decide +kernel) h0 h1)
theorem Eu(a b:Int)(hb:b≠0/\b.natAbs<1073741824):bn .FloorDiv (.int a) (.int b) H=some (.int (a.fdiv b),H):=by show(if b≠0/\b.natAbs<1073741824 then some (a.fdiv b) else none).map _=_;rw[q1k hb];rfl
theorem qw(a b:Int)(hb:b≠0):bn .Mod (.int a) (.int b) H=some (.int (a.fmod b),H):=by show(if b≠0 then some (a.fmod b) else none).map _=_;rw[q1k hb];rfl
theorem jb(h:H[m]?=some (.list vs))(hl:vs.length<=ax):blt .len [.ref m] H=some (.int vs.length,H):=by show((jS H[m]?).bind λus=>if us.length<=ax then some us else none).map (λus:List V=>(V.int us.length,H))=_;rw[h];show(if vs.length<=ax then some vs else none).map _=_;rw[q1k hl];rfl
noncomputable def eP:O:=.list [.tup [.str "a",.int 0],.tup [.str "a",.int (-20)],.tup [.str "b.c",.int 300],.tup [.str "~",.int 7]]
theorem lO{P:Int->Prop}(h0:P 0)(h1:P 1)(h2:P 2)(h3:P 3){i:Int}(a:0<=i)(b:i<4):P i:=by
 have:i=0\/i=1\/i=2\/i=3:=by lia
 rcases this with rfl | rfl | rfl | rfl<;>assumption
theorem Q0(h0:0<=i)(h1:i<3):f0 [.str "",.str " ",.str "\n"] i=some (.str (wh i)):=by
 have:i=0\/i=1\/i=2:=by lia
 rcases this with rfl | rfl | rfl<;>rfl
theorem Ec{i:Int}(h0:0<=i)(h1:i<4):f0 [.tup [.str "a",.int 0],.tup [.str "a",.int (-20)],.tup [.str "b.c",.int 300],.tup [.str "~",.int 7]] i=some (.tup [.str (bU i),.int (cJ i)]):=lO (P:=λi=>f0 [.tup [.str "a",.int 0],.tup [.str "a",.int (-20)],.tup [.str "b.c",.int 300],.tup [.str "~",.int 7]] i=some (.tup [.str (bU i),.int (cJ i)])) rfl rfl rfl rfl h0 h1
theorem Q1{i:Int}(h0:0<=i)(h1:i<4):f0 [.str "<",.str "",.str "<",.str ""] i=some (.str (if i=0\/i=2 then("<" : Str) else "")):=lO (P:=λi=>f0 [.str "<",.str "",.str "<",.str ""] i=some (.str (if i=0\/i=2 then("<" : Str) else ""))) rfl rfl rfl rfl h0 h1
theorem Q2{i:Int}(h0:0<=i)(h1:i<4):f0 [.str ">",.str "",.str "",.str ">"] i=some (.str (if i=0\/i=3 then(">" : Str) else "")):=lO (P:=λi=>f0 [.str ">",.str "",.str "",.str ">"] i=some (.str (if i=0\/i=3 then(">" : Str) else ""))) rfl rfl rfl rfl h0 h1
noncomputable abbrev LR(v0 v1 lr cr e a b c d:Option V):List (Option V):=[v0,v1,lr,cr,e,a,b,c,d,none,none,none,none,none]
theorem IR(x:Int)(v0 v1 v2 v3 a b c d:Option V):Cv L n k [] ⟨H,LR v0 v1 v2 v3 (some (.int x)) a b c d⟩=some (.next,⟨H++[.list [.str "",.str " ",.str "\n"]],LR v0 v1 v2 v3 (some (.int x)) (some (.int (kindOf x))) (some (.str (iB x))) (some (.int (dp x))) d⟩):=by have d1:=λH a=>Eu (H:=H) a 12 (by decide);have d2:=λH a=>Eu (H:=H) a 4 (by decide);have d3:=λH a=>Eu (H:=H) a 48 (by decide);have m1:=λH a=>qw (H:=H) a 4 (by decide);have m2:=λH a=>qw (H:=H) a 3 (by decide);have m3:=λH a=>qw (H:=H) a 100 (by decide);have w1:=Q0 (kD (x.fdiv 4) 3 (by decide)).1 (kD (x.fdiv 4) 3 (by decide)).2;simp only[Cv];simp only[cT,bj,↓aG,↓aq,↓v7,↓bP,↓aC,cU,Wb,bX,↓vc,ZJ,↓aj,↓ah,Option.bind_some,aJ,dL, *];rfl
theorem IU(R:dO H lr cr (f::rs) cs (F::fs) aa)(hf:H[fr]?=some eP)(JN:fr≠lr/\fr≠cr)(k0:0<=kd)(k1:kd<4)(c0:0<=co)(c1:co<100)(hr:rs.length<=1000)(hc:cs.length<=1000):∀{G:Prop},(∀H' q q',qF L n k [] ⟨H,LR v0 (some (.ref fr)) (some (.ref lr)) (some (.ref cr)) (some (.int x)) (some (.int kd)) (some w) (some (.int co)) d⟩=some (.next,⟨H',LR v0 (some (.ref fr)) (some (.ref lr)) (some (.ref cr)) (some (.int x)) (some (.int kd)) (some w) (some (.int co)) d⟩)->dO H' lr cr (q'::f::rs) (cs++[q]) (⟨bU kd,cJ kd,bf co,aa.length⟩::F::fs) (aa++[(kd,F.place,co)])->H.length<=H'.length->(∀i,i<H.length->i≠lr->i≠cr->H'[i]?=H[i]?)->H.length<=q'->G)->G:=by
 have hz:ax=1048576:=rfl;intro G kq;obtain⟨nf1,nf2,nlc,_,_⟩:=R.ne;have e1:H[lr]?=some (.list ((rs.map V.ref).reverse++[.ref f])):=by rw[R.lst];simp
 have e2:df H (.ref lr) (.int (-1))=some (.ref f):=by rw[aJ,e1,di _ _ (by simp;lia),iQ]
 have e3:H[f]?=some (.list [.str F.file,.int F.line,.str F.text,.int F.place]):=R.frs.1;have R1:=R.app [fA (kd,F.place,co)];have R2:=R1.call (q:=H.length) R.new (bX _);generalize Bn:(H++[fA (kd,F.place,co)]).set cr (.list ((cs++[H.length]).map V.ref))=H2 at R2;have l2:H2.length=H.length+1:=by rw[<-Bn];simp
 have R3:=R2.app [d9.obj ⟨bU kd,cJ kd,bf co,aa.length⟩];have R4:=R3.push (q:=H2.length) (F:=⟨bU kd,cJ kd,bf co,aa.length⟩) R2.new (bX _);refine kq _ H.length H2.length ?_ R4 (by simp[l2];lia) (λi hi h1 h2=>by
  rw[q0j (Ne.symm h1),q0e (by lia),<-Bn,q0j (Ne.symm h2),q0e hi]) (by lia)
 have a1:dy (H++[fA (kd,F.place,co)]) (.ref cr)=some .list:=by rw[bH,R1.cls];rfl
 have a0:dy H (.ref cr)=some .list:=by rw[bH,R.cls];rfl
 have a2:=gn (z:=[]) (v:=.ref H.length) R1.cls (by simp) (by simp;lia);have a3:cs.map V.ref++[V.ref H.length] = (cs++[H.length]).map V.ref:=by simp
 rw[a3,Bn] at a2;have b0:dy H2 (.ref lr)=some .list:=by rw[bH,R2.lst];rfl
 have f2:H2[fr]?=some eP:=by rw[<-Bn,q0j (Ne.symm JN.2)];exact ar hf
 have g1:df H2 (.ref fr) (.int kd)=some (.tup [.str (bU kd),.int (cJ kd)]):=by rw[aJ,f2];exact Ec k0 k1
 have g2:=xw (H:=H2) c0 c1;have g3:=jb R2.cls (by simp;lia);have g4:(((List.map V.ref (cs++[H.length])).length:Nat):Int)-1=(aa.length:Int):=by have:=R.cl.len;simp;lia
 have b2:=gn (z:=[]) (v:=.ref H2.length) R3.lst (by simp) (by simp;lia);have b3:((f::rs).map V.ref).reverse++[V.ref H2.length] = ((H2.length::f::rs).map V.ref).reverse:=by simp
 rw[b3] at b2;unfold fA at a2 Bn a1;refine ag (σ':=⟨H2,LR v0 (some (.ref fr)) (some (.ref lr)) (some (.ref cr)) (some (.int x)) (some (.int kd)) (some w) (some (.int co)) d⟩) ?_ (ag ?_ rfl)
 ·clear b2 g1 g2 g3 R2 R3 R4
  simp only[MI];simp only[cT,bj,↓aG,↓aR,↓aq,↓lD,↓pG,↓Jl,↓Jk,↓bP,↓aC,↓b8,↓fL,jE,Wb,D0,ix3,↓aj,↓ah,aJ,↓du,↓reduceIte, *]
 ·clear a2 a1 a0 Bn l2
  simp only[d9.obj] at b2;simp only[MH];simp only[cT,bj,↓aG,↓aR,↓aq,↓uV,↓lD,↓pG,↓Jl,↓Jk,↓bP,↓aC,↓b8,jE,Yz,sub_int,ZI,ix0,ix1,↓aj,↓ah,↓du,↓reduceIte, *];rfl
end
section
variable{L n k lr cr f g:Nat}{H:List O}{rs cs:List Nat}{fs:List d9}{F G:d9}{aa:List (Int×Int×Int)}
noncomputable def gY(F:d9)(p w:Str):d9:={F with text:=F.text++(bk F.text w++p)}
theorem zJ(x:Str)(a b:Option Int):(Txt.slice x a b).length<=x.length:=Txt.slice_le x a b
theorem sQ(c:Str):(fa c).length<=c.length+2:=by
 unfold fa;split
 ·rw[Str.length_append,Str.length_append]
  have:=zJ c (some 1) (some (-1));have h1:(PySem.Str.ofString "{").length=1:=rfl;have h2:(PySem.Str.ofString "}").length=1:=rfl;lia
 ·lia
theorem uE{k c:Int}(c0:0<=c)(c1:c<100):(gf k c).length<=4:=by
 unfold gf;rw[Str.length_append,Str.length_append];have:=om c0 c1;have h1:(if k=0\/k=2 then("<" : Str) else "").length<=1:=by split<;>decide
 have h2:(if k=0\/k=3 then(">" : Str) else "").length<=1:=by split<;>decide
 lia
theorem Bw(i:Int):(wh i).length<=10:=by
 unfold wh;split
 ·decide
 ·split<;>decide
theorem kW(h:w.length<=10):(bk t w).length<=10:=by
 unfold bk;split
 ·decide
 ·exact h
theorem IT{v0 v1:Option V}{kd co:Int}{x:Int}{w:Str}{d:Option V}(R:dO H lr cr (f::rs) cs (F::fs) aa)(k0:0<=kd)(k1:kd<4)(c0:0<=co)(c1:co<100)(hr:rs.length<=1000)(hc:cs.length<=1000)(hw:w.length<=10)(ht:F.text.length<=10000):∀{G:Prop},(∀H' q,wL L n k [] ⟨H,LR v0 v1 (some (.ref lr)) (some (.ref cr)) (some (.int x)) (some (.int kd)) (some (.str w)) (some (.int co)) d⟩=some (.next,⟨H',LR v0 v1 (some (.ref lr)) (some (.ref cr)) (some (.int x)) (some (.int kd)) (some (.str w)) (some (.int co)) (some (.str (gf kd co)))⟩)->dO H' lr cr (f::rs) (cs++[q]) (gY F (fa (gf kd co)) w::fs) (aa++[(4+kd,F.place,co)])->H.length<=H'.length->(∀i,i<H.length->i≠f->i≠cr->H'[i]?=H[i]?)->G)->G:=by
 intro G kq;have hz:ax=1048576:=rfl;obtain⟨nf1,nf2,nlc,_,_⟩:=R.ne;have hn:=om c0 c1;have hb:=uE (k:=kd) c0 c1;have hs:=sQ (gf kd co);have YD:=kW (t:=F.text) hw;have e1:H[lr]?=some (.list ((rs.map V.ref).reverse++[.ref f])):=by rw[R.lst];simp
 have e2:ud (-1) H[lr]?=some (.ref f):=by rw[e1,di _ _ (by simp;lia),iQ]
 have e3:H[f]?=some (.list [.str F.file,.int F.line,.str F.text,.int F.place]):=R.frs.1;have R1:=R.app [fA (4+kd,F.place,co)];have R2:=R1.call (q:=H.length) R.new (bX _);have a0:dy H (.ref cr)=some .list:=by rw[bH,R.cls];rfl
 have a2:=gn (z:=[]) (v:=.ref H.length) R1.cls (by first | rfl | simp) (by simp;lia);have a3:cs.map V.ref++[V.ref H.length] = (cs++[H.length]).map V.ref:=by simp
 rw[a3] at a2;generalize Bn:(H++[fA (4+kd,F.place,co)]).set cr (.list ((cs++[H.length]).map V.ref))=H2 at R2 a2;have l2:H2.length=H.length+1:=by rw[<-Bn];simp
 have R3:=(R2.app [.list [.str "<",.str "",.str "<",.str ""]]).app [.list [.str ">",.str "",.str "",.str ">"]];generalize WP:(H2++[O.list [.str "<",.str "",.str "<",.str ""]])++[O.list [.str ">",.str "",.str "",.str ">"]] = H3 at R3;have R4:=R3.put (gY F (fa (gf kd co)) w);refine kq _ H.length ?_ R4 (by rw[<-WP];simp[l2];lia) λi hi h1 h2=>by
  rw[q0j (Ne.symm h1),<-WP,q0e (by simp;lia),q0e (by lia),<-Bn,q0j (Ne.symm h2),q0e hi]
 have p1:H3[lr]?=some (.list ((rs.map V.ref).reverse++[.ref f])):=by rw[R3.lst];simp
 have s1:=xB (L:=L) (n:=n+2) (k:=k+1) (H:=H3) (gf kd co) (by lia);have s2:=tw (L:=L) (n:=n+3) (k:=k+1) (p:=fa (gf kd co)) (w:=w) p1 (by simp;lia) R3.frs.1 (by lia) (by rw[Str.length_append];lia);unfold fA at a2;refine ag (σ':=⟨H2,LR v0 v1 (some (.ref lr)) (some (.ref cr)) (some (.int x)) (some (.int kd)) (some (.str w)) (some (.int co)) d⟩) ?_
  (ag (σ':=⟨H3,LR v0 v1 (some (.ref lr)) (some (.ref cr)) (some (.int x)) (some (.int kd)) (some (.str w)) (some (.int co)) (some (.str (gf kd co)))⟩) ?_ (ag ?_ rfl))
 ·clear l2 WP R3 R4 s1 s2 p1 R1 R2 Bn e1
  simp only[MG];simp only[cT,bj,↓aG,↓aR,↓aq,↓lD,↓pG,↓Jl,↓Jk,↓bP,↓aC,↓b8,↓fL,jE,Wb,add_int,D0,ix3,↓aj,↓ah,aJ,↓du,↓reduceIte, *]
 ·have g0:=λH=>xw (H:=H) c0 c1
  have g1:=Q1 k0 k1;have g2:=Q2 k0 k1;have j1:∀H,bn .Add (.str (if kd=0\/kd=2 then("<" : Str) else "")) (.str (bf co)) H=some (.str ((if kd=0\/kd=2 then("<" : Str) else "")++bf co),H):=λH=>add_str _ _ (by
   have h1:(if kd=0\/kd=2 then("<" : Str) else "").length<=1:=by split<;>decide
   lia)
  have j2:∀H,bn .Add (.str ((if kd=0\/kd=2 then("<" : Str) else "")++bf co)) (.str (if kd=0\/kd=3 then(">" : Str) else "")) H=some (.str (gf kd co),H):=λH=>add_str _ _ (by unfold gf at hb;rw[Str.length_append] at hb;lia);have i2:=bX (H:=H2++[O.list [.str "<",.str "",.str "<",.str ""]]) (.list [.str ">",.str "",.str "",.str ">"]);rw[WP] at i2;clear l2 R3 R4 s1 s2 p1 R1 R2 Bn a2 a0 e2 e1 e3;unfold MF;simp only[cT,bj,↓aG,↓aR,↓aq,↓Jl,↓Jk,↓ms8,↓bP,↓aC,Yz,bX,D0,↓aj,↓ah,aJ, *]
 ·clear l2 WP R3 R4 p1 R1 R2 Bn a2 a0 e2 e1 e3
  simp only[ME];simp only[bj,↓aG,↓aR,↓aq,↓lD,↓V5,↓ZC,↓aC,↓vc,↓aj,↓ah,↓reduceIte, *];rfl
end
noncomputable abbrev Calls:=List (Int×Int×Int)
noncomputable def cC(x:Int)(fs:List d9)(aa:Calls):List d9×Calls:=if x.fmod 4 > 1 then match fs with
 |F::r=>(⟨bU (kindOf x),cJ (kindOf x),bf (dp x),aa.length⟩::F::r,aa++[(kindOf x,F.place,dp x)])
 |[]=>(fs,aa)
 else if x.fmod 4=1 then match fs with
  |F::r=>(gY F (fa (gf (kindOf x) (dp x))) (iB x)::r,aa++[(4+kindOf x,F.place,dp x)])
  |[]=>(fs,aa)
 else match fs with
  |F::G::r=>(bO F G (iB x)::r,aa)
  |_=>(fs,aa)
def jR(F:d9):Prop:=∃k:Int,0<=k/\k<4/\F.file=bU k/\F.line=cJ k
noncomputable def eS:List d9->Prop
 |[]=>False
 |[_]=>True
 |F::G::r=>jR F/\eS (G::r)
noncomputable def wt:List d9->Nat
 |[]=>0
 |F::r=>F.text.length+20+wt r
theorem qM:∀fs:List d9,20*fs.length<=wt fs
 |[]=>q0c _
 |F::r=>by have:=qM r;simp only[List.length_cons,wt];lia
theorem jR.num(h:jR F):∃s,cF F.line=some s/\(PySem.Str.ofString s).length<=3/\F.file.length<=3/\(F.file==("~" : Str)&&(F.line==0&&true))=false:=by refine cps λPq kq=>?_;obtain⟨k,k0,k1,h1,h2⟩:=h;refine kq ?_;rw[h1,h2];exact lO (P:=λk=>∃s,cF (cJ k)=some s/\(PySem.Str.ofString s).length<=3/\(bU k).length<=3/\(bU k==("~" : Str)&&(cJ k==0&&true))=false) ⟨"0",by decide +kernel⟩ ⟨"-20",by decide +kernel⟩ ⟨"300",by decide +kernel⟩ ⟨"7",by decide +kernel⟩ k0 k1
theorem JZ(k:Int)(k0:0<=k)(k1:k<4)(t:Str)(p:Int):jR ⟨bU k,cJ k,t,p⟩:=⟨k,k0,k1,rfl,rfl⟩
theorem kx(x:Int):0<=kindOf x/\kindOf x<4:=kD _ _ (by decide)
theorem kF(x:Int):0<=dp x/\dp x<100:=kD _ _ (by decide)
theorem kA(h:eS (F::r))(e1:F'.file=F.file)(e2:F'.line=F.line):eS (F'::r):=by
 cases r with
 |nil=>trivial
 |cons G r=>exact⟨by obtain⟨k,a,b,c,d⟩:=h.1;exact⟨k,a,b,e1.trans c,e2.trans d⟩,h.2⟩
theorem nU(h:jR F)(hw:w.length<=10):(bO F G w).text.length+20<=F.text.length+20+(G.text.length+20):=by
 obtain⟨s,e1,e2,e3,_⟩:=h.num;unfold bO;rw[e1];have:(Pct.iq F.file s F.text).length=F.file.length+1+(PySem.Str.ofString s).length+1+F.text.length+1:=by unfold Pct.iq;simp only[Str.length_append];rfl
 have hw1:(bk G.text w).length<=10:=kW hw;simp only[Str.length_append,Option.getD_some,this];lia
theorem zE(h:eS fs):eS (cC x fs aa).1/\wt (cC x fs aa).1<=wt fs+40/\(cC x fs aa).2.length<=aa.length+1:=by
 have hk:=kx x;have hc:=kF x;have hn:=om hc.1 hc.2;have hb:=uE (k:=kindOf x) hc.1 hc.2;have hs:=sQ (gf (kindOf x) (dp x));have Wr:(iB x).length<=10:=Bw _;unfold cC;split
 ·cases fs with
  |nil=>exact h.elim
  |cons F r=>exact⟨⟨JZ _ hk.1 hk.2 _ _,h⟩,by simp only[wt];lia,by simp⟩
 ·split
  ·cases fs with
   |nil=>exact h.elim
   |cons F r=>
    have:=kW (t:=F.text) Wr;exact⟨kA h rfl rfl,by simp only[wt,gY,Str.length_append];lia,by simp⟩
  ·cases fs with
   |nil=>exact h.elim
   |cons F r=>cases r with
    |nil=>exact⟨h,by simp,by simp⟩
    |cons G r=>
     have:=nU (F:=F) (G:=G) h.1 Wr;exact⟨kA h.2 rfl rfl,by simp only[wt];lia,by simp⟩
section
variable{L n k lr cr fr:Nat}{H:List O}{rs cs:List Nat}{fs:List d9}{aa:Calls}{v0:Option V}
theorem B6(c:x.fmod 4 > 1):cC x (F::fs) aa=(⟨bU (kindOf x),cJ (kindOf x),bf (dp x),aa.length⟩::F::fs,aa++[(kindOf x,F.place,dp x)]):=q1k c
theorem B5(c1:¬x.fmod 4 > 1)(c:x.fmod 4=1):cC x (F::fs) aa=(gY F (fa (gf (kindOf x) (dp x))) (iB x)::fs,aa++[(4+kindOf x,F.place,dp x)]):=(q1l c1).trans (q1k c)
theorem BZ(c1:¬x.fmod 4 > 1)(c:¬x.fmod 4=1):cC x [F] aa=([F],aa):=(q1l c1).trans (q1l c)
theorem B4(c1:¬x.fmod 4 > 1)(c:¬x.fmod 4=1):cC x (F::G::fs) aa=(bO F G (iB x)::fs,aa):=(q1l c1).trans (q1l c)
abbrev LT(v0:Option V)(fr lr cr:Nat)(x:Int)(d:Option V):List (Option V):=LR v0 (some (.ref fr)) (some (.ref lr)) (some (.ref cr)) (some (.int x)) (some (.int (kindOf x))) (some (.str (iB x))) (some (.int (dp x))) d
theorem xQ(c1:¬x.fmod 4 > 1)(c2:¬x.fmod 4=1)(h:rX L n k [] ⟨H,LT v0 fr lr cr x d⟩=some (.next,⟨H',LT v0 fr lr cr x d'⟩)):(if decide (x.fmod 4 > 1)=true then qF L n k [] else o5 L n k []) ⟨H,LT v0 fr lr cr x d⟩=some (.next,⟨H',LT v0 fr lr cr x d'⟩):=by have c3:(x.fmod 4==(1:Int))=false:=q1x c2;have m1:=λH=>qw (H:=H) x 4 (by decide);rw[q1x c1,q1l q0f];refine ag ?_ rfl;unfold vC;simp only[cT,bj,↓aG,↓aq,↓v7,↓aC,↓eW,eq_int,↓eC,Bool.false_eq_true,↓reduceIte, *]
theorem CW(c1:¬x.fmod 4 > 1)(c2:x.fmod 4=1)(h:wL L n k [] ⟨H,LT v0 fr lr cr x d⟩=some (.next,⟨H',LT v0 fr lr cr x d'⟩)):(if decide (x.fmod 4 > 1)=true then qF L n k [] else o5 L n k []) ⟨H,LT v0 fr lr cr x d⟩=some (.next,⟨H',LT v0 fr lr cr x d'⟩):=by have c3:(x.fmod 4==(1:Int))=true:=q1w c2;have m1:=λH=>qw (H:=H) x 4 (by decide);rw[q1x c1,q1l q0f];refine ag ?_ rfl;clear c2;unfold vC;simp only[cT,bj,↓aG,↓aq,↓v7,↓aC,↓eW,eq_int,↓eC,↓reduceIte, *]
theorem C4(ln:blt .len [.ref lr] H=some (.int ((([f].map V.ref).reverse.length:Nat):Int),H)):rX L n k [] ⟨H,LT v0 fr lr cr x d⟩=some (.next,⟨H,LT v0 fr lr cr x d⟩):=by have:decide (((([f].map V.ref).reverse.length:Nat):Int) > 1)=false:=rfl;refine ag ?_ rfl;unfold vD;simp only[cT,bj,↓aG,↓aq,↓lD,↓aC,↓eW,gt_int,↓aj,↓ah,↓eC,Bool.false_eq_true,↓reduceIte, *];rfl
theorem C2(ln:blt .len [.ref lr] H=some (.int ((((f::g::rs).map V.ref).reverse.length:Nat):Int),H))(y:FJ L n k [] ⟨H,LT v0 fr lr cr x d⟩=some (.next,⟨H',LT v0 fr lr cr x d⟩)):rX L n k [] ⟨H,LT v0 fr lr cr x d⟩=some (.next,⟨H',LT v0 fr lr cr x d⟩):=by
 have:decide (((((f::g::rs).map V.ref).reverse.length:Nat):Int) > 1)=true:=by simp;lia
 refine ag ?_ rfl;unfold vD;simp only[cT,bj,↓aG,↓aq,↓lD,↓aC,↓eW,gt_int,↓aj,↓ah,↓eC,↓reduceIte, *]
theorem Qs{x:Int}{a b c d d':Option V}{H':List O}(e:(if decide (x.fmod 4 > 1)=true then qF L n k [] else o5 L n k []) ⟨H++[O.list [.str "",.str " ",.str "\n"]],LT v0 fr lr cr x d⟩=some (.next,⟨H',LT v0 fr lr cr x d'⟩)):lV L n k [] ⟨H,LR v0 (some (.ref fr)) (some (.ref lr)) (some (.ref cr)) (some (.int x)) a b c d⟩=some (.next,⟨H',LT v0 fr lr cr x d'⟩):=by have m1:=λH=>qw (H:=H) x 4 (by decide);refine ag (IR x v0 _ _ _ a b c d) (ag ?_ rfl);rw[eC] at e;unfold CE;simp only[cT,bj,↓aG,↓aq,↓v7,↓aC,↓eW,gt_int,↓eC, *]
theorem CU(R:dO H lr cr rs cs fs aa)(hf:H[fr]?=some eP)(JN:fr≠lr/\fr≠cr)(hg:eS fs)(YD:wt fs<=5000)(hc:aa.length<=900):∀{G:Prop},(∀H' nX YV d',lV L n k [] ⟨H,LR v0 (some (.ref fr)) (some (.ref lr)) (some (.ref cr)) (some (.int x)) a b c d⟩=some (.next,⟨H',LT v0 fr lr cr x d'⟩)->dO H' lr cr nX YV (cC x fs aa).1 (cC x fs aa).2->H.length<=H'.length->(∀i,i<H.length->i∉lr::cr::rs->H'[i]?=H[i]? /\ i∉lr::cr::nX)->G)->G:=by
 have jL:=R.frs.len;cases fs with
 |nil=>exact hg.elim
 |cons F fs=>cases rs with
 |nil=>simp at jL
 |cons f rs=>
 intro G kq;have hk:=kx x;have yt:=kF x;have Ts:=qM (F::fs);have sq:=R.cl.len;simp only[List.length_cons] at Ts jL;have Wr:(iB x).length<=10:=Bw _;have R1:=R.app [.list [.str "",.str " ",.str "\n"]];have hf1:(H++[O.list [.str "",.str " ",.str "\n"]])[fr]?=some eP:=ar hf;have keep0:∀i,i<H.length->(H++[O.list [.str "",.str " ",.str "\n"]])[i]?=H[i]? :=λi hi=>q0e hi;have hlen:(H++[O.list [.str "",.str " ",.str "\n"]]).length=H.length+1:=by simp
 have go:=λd' H' =>@Qs L n k lr cr fr H v0 x a b c d d' H';generalize H++[O.list [.str "",.str " ",.str "\n"]] = H1 at R1 hf1 keep0 hlen go;have fin:∀{H' nX YV d' TD E1},cC x (F::fs) aa=(TD,E1)->(if decide (x.fmod 4 > 1)=true then qF L n k [] else o5 L n k []) ⟨H1,LT v0 fr lr cr x d⟩=some (.next,⟨H',LT v0 fr lr cr x d'⟩)->
  dO H' lr cr nX YV TD E1->H1.length<=H'.length->(∀i,i<H1.length->i≠lr/\i≠cr/\i∉f::rs->H'[i]?=H1[i]?)->(∀q∈nX,q∈f::rs\/H1.length<=q)->G:=λhs e R' hl hk hq=>by
  refine kq _ _ _ _ (go _ _ e) (by rw[hs];exact R') (by lia) λi hi hn=>?_;simp only[List.mem_cons,not_or] at hn hk;refine⟨(hk i (by lia) hn).trans (keep0 i hi),λhm=>?_⟩;rcases q0m.mp hm with h | h
  ·exact hn.1 h
  rcases q0m.mp h with h | h
  ·exact hn.2.1 h
  rcases hq i h with h | h
  ·rcases q0m.mp h with h | h
   ·exact hn.2.2.1 h
   ·exact hn.2.2.2 h
  ·lia
 clear go kq keep0 hlen hf;by_cases c1:x.fmod 4 > 1
 ·refine IU (L:=L) (n:=n) (k:=k) (v0:=v0) (x:=x) (w:=.str (iB x)) (d:=d) R1 hf1 JN hk.1 hk.2 yt.1 yt.2 (by lia) (by lia) λH' q q' e R' l' k' lq=>?_
  refine fin (B6 c1) ((q1j (q1k (q1w c1)) _).trans e) R' l' (λi hi hn=>k' i hi hn.1 hn.2.1) λz hz=>?_;rcases q0m.mp hz with rfl | hz
  ·exact .inr lq
  ·exact .inl hz
 by_cases c2:x.fmod 4=1
 ·refine IT (L:=L) (n:=n) (k:=k) (v0:=v0) (v1:=some (.ref fr)) (x:=x) (w:=iB x) (d:=d) R1 hk.1 hk.2 yt.1 yt.2 (by lia) (by lia) Wr (by simp only[wt] at YD;lia) λH' q e R' l' k'=>?_
  exact fin (B5 c1 c2) (CW c1 c2 e) R' l' (λi hi hn=>k' i hi (λh=>hn.2.2 (h▸q0g)) hn.2.1) λz hz=>.inl hz
 have hz:ax=1048576:=rfl;have ln:=jb (H:=H1) R1.lst (by simp;lia);cases fs with
 |nil=>
  cases rs with
  |cons g rs=>simp at jL
  |nil=>exact fin (BZ c1 c2) (xQ c1 c2 (C4 ln)) R1 (q0c _) (λ_ _ _=>rfl) (λz hz=>.inl hz)
 |cons G fs=>
  cases rs with
  |nil=>simp at jL
  |cons g rs=>
  simp only[List.length_cons] at Ts jL;obtain⟨s,n1,n2,n3,n4⟩:=jR.num hg.1;have sh:=pW (L:=L) (n:=n) (k:=k) (w:=iB x) R1 n1 n4 (by lia) (by lia) (by simp only[wt] at YD;lia) (by simp only[wt] at YD;lia) (by lia) Wr;refine fin (B4 c1 c2) (xQ c1 c2 (C2 ln (H':=(H1.set lr (.list ((g::rs).map V.ref).reverse)).set g (bO F G (iB x)).obj) (ag ?_ rfl))) (R1.pop.put (bO F G (iB x))) (by simp) (λi hi hn=>?_) (λz hz=>.inl (q0k _ hz))
  ·unfold CF
   simp only[bj,↓aR,↓aq,↓lD,↓V5,↓aC,↓aj,↓ah,↓reduceIte, *]
  ·simp only[List.mem_cons,not_or] at hn
   rw[q0j (Ne.symm hn.2.2.2.1),q0j (Ne.symm hn.1)]
end
theorem tF{vs:List V}{lo hi:Option Int}{a b:Nat}(e1:lo.elim 0 (clipAt vs.length)=a)(e2:hi.elim vs.length (clipAt vs.length)=b):iK vs lo hi=(vs.drop a).take (b-a):=by unfold iK;rw[sliceBounds_plain,e1,e2];dsimp only;rw[sliceRange_one,List.filterMap_map,<-jC];congr 1;funext j;simp
theorem drawn{β:Type}(it:It)(i:Nat)(f:Option V->M β):Y (oS it i) f ⟨H,l⟩=(mR H it i).bind λv=>f v ⟨H,l⟩:=by exact dM _ f
inductive NK(a:M Unit)(b:M Fl)(Q:St->Prop)(σ:St):Prop
 |mk (σ1:St) (fl:Fl) (σ':St) (h1:a σ=some ((),σ1)) (h2:b σ1=some (fl,σ')) (h3:fl=.next\/fl=.cont) (h4:Q σ'):NK a b Q σ
theorem eD{a:V->M Unit}{b:M Fl}{it:It}{I:Nat->St->Prop}{N:Nat}{item:Nat->V}(hit:∀i σ,I i σ->mR σ.H it i=some (if i<N then some (item i) else none))(step:∀i σ,i<N->I i σ->NK (a (item i)) b (I (i+1)) σ):∀m i L σ,i+m=N->m<L->I i σ->∃σ',rH L a b it i σ=some (.next,σ')/\I N σ'
 |0,i,0,σ,_,h,_=>q1t h (q2f _)
 |m+1,i,0,σ,_,h,_=>q1t h (q2f _)
 |0,i,L+1,σ,e,h,hI=>by
  obtain rfl:i=N:=e;refine⟨σ,?_,hI⟩;obtain⟨H,l⟩:=σ;have:=hit i _ hI;rw[q1l (q1c _)] at this;show Y (oS it i) _ _=_;simp only[drawn,this];rfl
 |m+1,i,L+1,σ,e,h,hI=>by
  have hi:i<N:=by lia
  obtain⟨σ1,fl,σ2,e1,e2,e3,e4⟩:=step i σ hi hI;obtain⟨σ',e5,e6⟩:=eD hit step m (i+1) L σ2 (by lia) (by lia) e4;refine⟨σ',?_,e6⟩;have:=hit i _ hI;rw[q1k hi] at this;obtain⟨H,l⟩:=σ;show Y (oS it i) _ _=_;simp only[drawn,this];show Y (a (item i)) _ _=_;rw[ai e1];show Y b _ _=_;rw[ai e2];rcases e3 with rfl | rfl<;>exact e5
inductive Yb(t:M Bool)(b:M Fl)(I J:St->Prop)(m:St->Nat)(σ:St):Prop
 |out (σ':St) (h1:t σ=some (false,σ')) (h2:J σ'):Yb t b I J m σ
 |brk (σ1 σ':St) (h1:t σ=some (true,σ1)) (h2:b σ1=some (.brk,σ')) (h3:J σ'):Yb t b I J m σ
 |on (σ1:St) (fl:Fl) (σ':St) (h1:t σ=some (true,σ1)) (h2:b σ1=some (fl,σ')) (h3:fl=.next\/fl=.cont) (h4:I σ') (h5:m σ'<m σ):Yb t b I J m σ
theorem nK(step:∀σ,I σ->Yb t b I J m σ):∀L σ,m σ<L->I σ->∃σ',bG L t b σ=some (.next,σ')/\J σ'
 |0,σ,h,_=>q1t h (q2f _)
 |L+1,σ,h,hI=>by
  cases step σ hI with
  |out σ' e1 e2=>
   refine⟨σ',?_,e2⟩;show Y t _ _=_
   (refine(ai e1).trans ?_);rfl
  |brk σ1 σ2 e1 e2 e3=>
   refine⟨σ2,?_,e3⟩;show Y t _ _=_
   (refine(ai e1).trans ?_)
   show Y b _ _=_
   (refine(ai e2).trans ?_);rfl
  |on σ1 fl σ2 e1 e2 e3 e4 e5=>
   obtain⟨σ',e6,e7⟩:=nK step L σ2 (by lia) e4;refine⟨σ',?_,e7⟩;show Y t _ _=_
   (refine(ai e1).trans ?_)
   show Y b _ _=_
   (refine(ai e2).trans ?_)
   rcases e3 with rfl | rfl<;>exact e6
theorem jc(h:H[n]?=some (.list vs))(d:V):mR H (.lst n) i=some (if i<vs.length then some (vs.getD i d) else none):=by
 show(match cI H n with | some vs=>some vs[i]? | none=>none)=_;rw[b9,h];simp only[jS];congr 1;split
 ·rename_i hi;rw[q0h hi];simp[hi]
 ·rename_i hi;rw[List.getElem?_eq_none_iff];lia
noncomputable def gC:List Int:=[242,349,122,146,193,0,313,8,457,469,349,87]
noncomputable def bA(xs:List Int):List Int:=gC++xs.take 10
def bZ(xs:List Int):List d9×Calls:=(bA xs).foldl (λs x=>cC x s.1 s.2) ([⟨"",0,"",-1⟩],[])
noncomputable def jO(F:d9):List d9->d9
 |[]=>F
 |G::r=>jO (bO F G "") r
noncomputable def textOf:List d9->Str
 |[]=>""
 |F::r=>(jO F r).text
section
variable{L n k lr cr fr sc:Nat}{H:List O}{rs cs:List Nat}{fs:List d9}{aa:Calls}{v0:Option V}
theorem jB{xs:List Int}{s:List d9×Calls}(h:eS s.1):eS (xs.foldl (λs x=>cC x s.1 s.2) s).1/\wt (xs.foldl (λs x=>cC x s.1 s.2) s).1<=wt s.1+40*xs.length/\(xs.foldl (λs x=>cC x s.1 s.2) s).2.length<=s.2.length+xs.length:=by
 induction xs generalizing s with
 |nil=>exact⟨h,q0c _,q0c _⟩
 |cons x xs ih=>
  refine cps λPq kq=>?_;obtain⟨a,b,c⟩:=zE (x:=x) (aa:=s.2) h;obtain⟨d,e,f⟩:=ih (s:=cC x s.1 s.2) a;refine kq ?_;simp only[List.foldl_cons,List.length_cons];exact⟨d,by lia,by lia⟩
theorem fQ(xs:List Int):(bA xs).length<=22:=by unfold bA;simp[gC];lia
theorem CZ:CG L n k ⟨H,LR v0 none none none none none none none none⟩=some (.next,⟨H++[eP],LR v0 (some (.ref H.length)) none none none none none none none⟩):=by unfold CG;simp only[bj,↓aG,↓aR,↓aq,↓Yy,↓aC,↓fL,Yz,↓sG,↓aj,↓ah, *];rfl
theorem zW:CD L n k ⟨H,LR v0 v1 none none none none none none none⟩=some (.next,⟨((H++[.list [.str "",.int 0,.str "",.int (-1)]])++[.list [.ref H.length]])++[.list []],LR v0 v1 (some (.ref (H.length+1))) (some (.ref (H.length+2))) none none none none none⟩):=by unfold CD;simp only[bj,↓aG,↓aq,↓aC,cU,↓fL,YA,ls1,Yz,↓sG,↓aj,↓ah,Option.bind_some,dL, *];simp only[List.length_append,List.length_cons,List.length_nil];rfl
theorem nF(h1:H[m1]?=some (.list xs))(h2:H[m2]?=some (.list ys))(hl:xs.length+ys.length<=ax):bn .Add (.ref m1) (.ref m2) H=some (.ref H.length,H++[.list (xs++ys)]):=by show F2 (.ref m1) (.ref m2) H=_;unfold F2;simp only[vI,vS,vR,ie,Option.bind_some,b9,h1,h2,jS];rw[q1k hl]
theorem zI(lo hi:Option Int)(h:H[m]?=some (.list xs))(hl:xs.length<=ax/\(iK xs lo hi).length<=ax):bY (.ref m) lo hi H=some (.ref H.length,H++[.list (iK xs lo hi)]):=by unfold bY DO;simp only[vS,vR,ie,jw,Option.bind_some,b9,h,jS];rw[q1k hl]
theorem zL(lo hi:Option Int)(h:H[m]?=some (.arg ob))(e:pL ob=xs)(hl:xs.length<=ax/\(iK xs lo hi).length<=ax):bY (.ref m) lo hi H=some (.ref H.length,H++[.list (iK xs lo hi)]):=by subst e;unfold bY DO za;simp only[vS,vR,ie,jw,Option.bind_some,Option.map_some,b9,h,jS];rw[q1k hl]
def j0(xs:List Int)(i:Nat):List d9×Calls:=((bA xs).take i).foldl (λs x=>cC x s.1 s.2) ([⟨"",0,"",-1⟩],[])
theorem GS(h:(bA xs)[i]?=some x):j0 xs (i+1)=cC x (j0 xs i).1 (j0 xs i).2:=by unfold j0;simp only[List.take_add_one,h,List.foldl_append];rfl
theorem Ug(xs:List Int)(i:Nat):eS (j0 xs i).1/\wt (j0 xs i).1<=1000/\(j0 xs i).2.length<=22:=by
 have h:=jB (xs:=(bA xs).take i) (s:=([⟨"",0,"",-1⟩],[])) trivial;have h1:=fQ xs;have h2:((bA xs).take i).length<=22:=q0d (List.length_take_le' ..) h1;have h3:wt ([⟨"",0,"",-1⟩]:List d9)=20:=rfl;refine⟨h.1,?_,?_⟩
 ·have:=h.2.1;simp only at this;show wt _<=_;rw[h3] at this;unfold j0;lia
 ·have:=h.2.2;simp only[List.length_nil] at this;unfold j0;lia
structure Apart(P:Nat->Prop)(Hs H:List O)(lr cr:Nat)(rs:List Nat):Prop where
 len:Hs.length<=H.length
 low:∀j,P j->j<Hs.length
 same:∀j,P j->H[j]?=Hs[j]?
 out:∀j,P j->j∉lr::cr::rs
inductive pw(P:Nat->Prop)(Hs:List O)(fr lr cr:Nat)(v0:Option V)(s:List d9×Calls):St->Prop
 |mk {H:List O} {rs cs:List Nat} {e a b c d:Option V} (R:dO H lr cr rs cs s.1 s.2) (A:Apart P Hs H lr cr rs):pw P Hs fr lr cr v0 s ⟨H,LR v0 (some (.ref fr)) (some (.ref lr)) (some (.ref cr)) e a b c d⟩
theorem Al(hit:Hs[it]?=some (.list ((bA xs).map V.int)))(Pit:P it)(h:pw P Hs fr lr cr v0 s σ):mR σ.H (.lst it) i=some (if i<(bA xs).length then some (((bA xs).map V.int).getD i .none) else none):=by
 cases h with
 |mk R A=>
  have:=jc (n:=it) (i:=i) ((A.same it Pit).trans hit) .none;rw[q0w] at this;exact this
theorem Ak(JN:Hs[fr]?=some eP)(Y1:P fr)(hi:i<(bA xs).length)(h:pw P Hs fr lr cr v0 (j0 xs i) σ):NK (aE 4 (((bA xs).map V.int).getD i .none)) (lV L n k []) (pw P Hs fr lr cr v0 (j0 xs (i+1))) σ:=by
 have hx:((bA xs).map V.int).getD i .none=.int (bA xs)[i]:=by simp[hi]
 rw[hx,GS (q0h hi)];clear hx;generalize (bA xs)[i] = x;obtain⟨g1,g2,g3⟩:=Ug xs i;generalize j0 xs i=s at g1 g2 g3 h ⊢;cases h with
 |@mk H rs cs e a b c d R A=>
  have ho:=A.out fr Y1;simp only[List.mem_cons,not_or] at ho;refine CU (L:=L) (n:=n) (k:=k) (v0:=v0) (x:=x) (a:=a) (b:=b) (c:=c) (d:=d) R ((A.same fr Y1).trans JN) ⟨ho.1,ho.2.1⟩ g1 (q0d g2 (by decide)) (q0d g3 (by decide)) λH' nX YV d' e1 e2 e3 e4=>?_;have lo:=λj hj=>q0l (A.low j hj) A.len;exact⟨_,.next,_,rfl,e1,.inl rfl,e2,q0d A.len e3,A.low,λj hj=>((e4 j (lo j hj) (A.out j hj)).1).trans (A.same j hj),λj hj=>(e4 j (lo j hj) (A.out j hj)).2⟩
theorem CX{P:Nat->Prop}{Hs:List O}{it:Nat}{xs:List Int}(hL:22<L)(hit:Hs[it]?=some (.list ((bA xs).map V.int)))(JN:Hs[fr]?=some eP)(Pit:P it)(Y1:P fr){σ:St}(h:pw P Hs fr lr cr v0 ([⟨"",0,"",-1⟩],[]) σ):∃σ',rH L (aE 4) (lV L n k []) (.lst it) 0 σ=some (.next,σ')/\pw P Hs fr lr cr v0 (bZ xs) σ':=by have hl:=fQ xs;have hs:j0 xs (bA xs).length=bZ xs:=q1s (List.foldl (λs x=>cC x s.1 s.2) ([⟨"",0,"",-1⟩],[])) List.take_length;rw[<-hs];exact eD (I:=λi σ=>pw P Hs fr lr cr v0 (j0 xs i) σ) (λi σ h=>Al hit Pit h) (λi σ hi h=>Ak JN Y1 hi h) (bA xs).length 0 L σ (by lia) (by lia) h
inductive Tn(P:Nat->Prop)(Hs:List O)(fr lr cr:Nat)(v0:Option V)(tx:Str)(cl:Calls)(σ:St):Prop
 |mk (fs:List d9) (hg:eS fs) (hw:wt fs<=2000) (ht:textOf fs=tx) (h:pw P Hs fr lr cr v0 (fs,cl) σ):Tn P Hs fr lr cr v0 tx cl σ
inductive Tm(P:Nat->Prop)(Hs:List O)(fr lr cr:Nat)(v0:Option V)(tx:Str)(cl:Calls)(σ:St):Prop
 |mk (F:d9) (ht:F.text=tx) (h:pw P Hs fr lr cr v0 ([F],cl) σ):Tm P Hs fr lr cr v0 tx cl σ
abbrev EU:M Bool:=Y (Y (an [af 2]) λvs=>au (blt .len vs)) λa=>Y (Z (.int 1)) λb=>aF .Gt a b
def EV(lr:Nat)(σ:St):Nat:=(cI σ.H lr).elim 0 (λvs=>vs.length-1)
theorem yP(R:dO H lr cr (f::rs) cs (F::fs) aa):EV lr ⟨H,l⟩=rs.length:=by unfold EV;simp only[b9,R.lst,jS,Option.elim];simp
theorem Kj(ln:blt .len [.ref lr] H=some (.int ((([f].map V.ref).reverse.length:Nat):Int),H)):EU ⟨H,LR v0 (some (.ref fr)) (some (.ref lr)) (some (.ref cr)) e a b c d⟩=some (false,⟨H,LR v0 (some (.ref fr)) (some (.ref lr)) (some (.ref cr)) e a b c d⟩):=by have e2:decide (((([f].map V.ref).reverse.length:Nat):Int) > 1)=false:=rfl;unfold EU;simp only[bj,↓aG,↓aq,↓lD,↓aC,eR,gt_int,↓aj,↓ah,Option.bind_some, *]
theorem Rw(ln:blt .len [.ref lr] H=some (.int ((((f::g::rs).map V.ref).reverse.length:Nat):Int),H)):EU ⟨H,LR v0 (some (.ref fr)) (some (.ref lr)) (some (.ref cr)) e a b c d⟩=some (true,⟨H,LR v0 (some (.ref fr)) (some (.ref lr)) (some (.ref cr)) e a b c d⟩):=by
 have e2:decide (((((f::g::rs).map V.ref).reverse.length:Nat):Int) > 1)=true:=by simp;lia
 unfold EU;simp only[bj,↓aG,↓aq,↓lD,↓aC,eR,gt_int,↓aj,↓ah,Option.bind_some, *]
theorem ET(hc:cl.length<=900)(h:Tn P Hs fr lr cr v0 tx cl σ):Yb EU (FI L n k) (Tn P Hs fr lr cr v0 tx cl) (Tm P Hs fr lr cr v0 tx cl) (EV lr) σ:=by
 obtain⟨fs,hg,hw,ht,h⟩:=h;cases fs with
 |nil=>exact hg.elim
 |cons F fs=>
 cases h with
 |@mk H rs cs e a b c d R A=>
 have jL:=R.frs.len;cases rs with
 |nil=>simp at jL
 |cons f rs=>
 have Ts:=qM (F::fs);have hz:ax=1048576:=rfl;simp only[List.length_cons] at Ts jL;have ln:=jb (H:=H) R.lst (by simp;lia);cases fs with
 |nil=>
  cases rs with
  |cons g rs=>simp at jL
  |nil=>exact .out _ (Kj ln) ⟨F,ht,⟨R,A⟩⟩
 |cons G fs=>
  cases rs with
  |nil=>simp at jL
  |cons g rs=>
  simp only[List.length_cons] at Ts jL;obtain⟨s1,n1,n2,n3,n4⟩:=jR.num hg.1;have sl:=nU (F:=F) (G:=G) (w:="") hg.1 (by decide);simp only[wt] at hw Ts;have sh:=pW (L:=L) (n:=n+3) (k:=k) (w:="") R n1 n4 (by lia) (by lia) (by lia) (by lia) (by have:=R.cl.len;simp only at this;lia) (by decide);have R':=R.pop.put (bO F G "");refine .on _ .next _ (Rw ln) (ag (σ':=⟨_,LR v0 (some (.ref fr)) (some (.ref lr)) (some (.ref cr)) e a b c d⟩) ?_ rfl) (.inl rfl) ⟨bO F G "" :: fs,kA hg.2 rfl rfl,by simp only[wt];lia,ht,⟨R',q0d A.len (by simp),A.low,λj hj=>?_,λj hj=>?_⟩⟩ ?_
  ·clear ln A R' R
   unfold Cz;simp only[bj,↓aG,↓aR,↓aq,↓lD,↓aC,↓aj,↓ah, *]
  ·have ho:=A.out j hj
   simp only[List.mem_cons,not_or] at ho;rw[q0j (Ne.symm ho.2.2.2.1),q0j (Ne.symm ho.1)];exact A.same j hj
  ·have ho:=A.out j hj
   simp only[List.mem_cons,not_or] at ho ⊢;exact⟨ho.1,ho.2.1,ho.2.2.2⟩
  ·rw[yP R',yP R]
   exact q2n _
theorem zX(hg:eS s.1)(hw:wt s.1<=2000)(hc:s.2.length<=900)(h:pw P Hs fr lr cr v0 s σ)(hL:s.1.length<L):∃σ',Cy L n k σ=some (.next,σ')/\Tm P Hs fr lr cr v0 (textOf s.1) s.2 σ':=by
 refine nK (m:=EV lr) (λσ h=>ET hc h) L σ ?_ ⟨s.1,hg,hw,rfl,h⟩;cases h with
 |@mk H rs cs e a b c d R A=>
  have:=R.frs.len;unfold EV;simp only[b9,R.lst,jS,Option.elim];simp;omega
end
section
variable{L n k sc:Nat}{H:List O}
theorem rG(h:mi σ=some (.lst it,σ1))(h2:rH L ma (mb z) (.lst it) 0 σ1=r):lP L nm mi ma mb z σ=r:=by
 unfold lP
 (refine(ai h).trans ?_);exact h2
theorem dr(h:H[m]?=some (.list vs))(hl:vs.length<=ax):uc H (.ref m)=some (.lst m):=by unfold uc;simp only[vR,jw,b9,h,jS];rw[q1k hl]
theorem fY{l:List (Option V)}(v:V):jq v ⟨H,l⟩=(uc H v).bind λit=>some (it,⟨H,l⟩):=by exact nY _
theorem CY(h1:s1=s0++[eP])(h2:s2=s1++[O.list [.str "",.int 0,.str "",.int (-1)]])(h3:s3=s2++[O.list [V.ref (s0.length+1)]])(TA:H1=s3++[O.list []]):H1.length=s0.length+4/\H1[s0.length]?=some eP/\H1[s0.length+1]?=some (d9.obj ⟨"",0,"",-1⟩)/\H1[s0.length+2]?=some (.list [.ref (s0.length+1)])/\H1[s0.length+3]?=some (.list [])/\∀j,j<s0.length->H1[j]?=s0[j]? :=by
 have l1:s1.length=s0.length+1:=by rw[h1];simp
 have l2:s2.length=s0.length+2:=by rw[h2];simp[l1]
 have l3:s3.length=s0.length+3:=by rw[h3];simp[l2]
 have k1:=bX (H:=s0) eP;have k2:=bX (H:=s1) (O.list [.str "",.int 0,.str "",.int (-1)]);have k3:=bX (H:=s2) (O.list [V.ref (s0.length+1)]);have k4:=bX (H:=s3) (O.list []);rw[<-h1] at k1;rw[<-h2,l1] at k2;rw[<-h3,l2] at k3;rw[<-TA,l3] at k4;have up:∀{a b:List O}{o:O},b=a++[o]->∀{j x},a[j]?=some x->b[j]?=some x:=λe=>by rw[e];exact ar
 refine⟨by rw[TA];simp[l3],up TA (up h3 (up h2 k1)),up TA (up h3 k2),up TA k3,k4,λj hj=>?_⟩;rw[q0h hj];exact up TA (up h3 (up h2 (up h1 (q0h hj))))
theorem BV(xs:List Int):iK (xs.map V.int) none (some 10)=(xs.take 10).map V.int:=by
 rw[tF (a:=0) (b:=min 10 xs.length) rfl (by rw[q0w];exact clipAt_nat xs.length 10)];rw[List.drop_zero,List.map_take,Nat.sub_zero];by_cases h:xs.length<=10
 ·rw[Nat.min_eq_right h,List.take_of_length_le (by simp),List.take_of_length_le (by simpa using h)]
 ·rw[Nat.min_eq_left (by lia)]
inductive Yc(sc:Nat)(xs:List Int)(H1:List O):Prop
 |mk (H2:List O) (it:Nat) (h1:H1.length<H2.length) (h2:H1.length<it) (h3:it<H2.length) (h4:∀j,j<H1.length->H2[j]?=H1[j]?) (h5:H2[it]?=some (.list ((bA xs).map V.int)))
  (h6:∀(L n k:Nat) (v1 v2 v3:Option V) (r:Option (Fl×St)),rH L (aE 4) (lV L n k []) (.lst it) 0 ⟨H2,LR (some (.ref sc)) v1 v2 v3 none none none none none⟩=r->CC L n k ⟨H1,LR (some (.ref sc)) v1 v2 v3 none none none none none⟩=r):Yc sc xs H1
theorem Qr(a5:H1[sc]?=some (.arg ob))(ho:pL ob=xs.map V.int)(hx:xs.length<=100):Yc sc xs H1:=by
 have hz:ax=1048576:=rfl;have hn:=fQ xs;have b1:bt [.int 242,.int 349,.int 122,.int 146,.int 193,.int 0,.int 313,.int 8,.int 457,.int 469,.int 349,.int 87] H1=some (.ref H1.length,H1++[.list (gC.map V.int)]):=rfl;have b2:=zL (m:=sc) none (some 10) (ar (J:=[.list (gC.map V.int)]) a5) ho ⟨by simp;lia,by rw[BV];simp;lia⟩;rw[BV] at b2;have l1:(H1++[O.list (gC.map V.int)]).length=H1.length+1:=by simp
 have e1:=bX (H:=H1) (.list (gC.map V.int));have k1:∀j,j<H1.length->(H1++[O.list (gC.map V.int)])[j]?=H1[j]? :=λj hj=>q0e hj;generalize H1++[O.list (gC.map V.int)] = Ha at b1 b2 l1 e1 k1;have b3:=nF (ar (J:=[.list ((xs.take 10).map V.int)]) e1) (bX _) (by simp[gC];lia);have b4:gC.map V.int++(xs.take 10).map V.int=(bA xs).map V.int:=by unfold bA;simp
 rw[b4] at b3;have l2:(Ha++[O.list ((xs.take 10).map V.int)]).length=Ha.length+1:=by simp
 have k2:∀j,j<Ha.length->(Ha++[O.list ((xs.take 10).map V.int)])[j]?=Ha[j]? :=λj hj=>q0e hj;generalize Ha++[O.list ((xs.take 10).map V.int)] = Hb at b2 b3 l2 k2;have c1:=bX (H:=Hb) (.list ((bA xs).map V.int));have c3:=dr c1 (by simp;lia);refine⟨_,Hb.length,by simp;lia,by lia,by simp,λj hj=>?_,c1,λL n k v1 v2 v3 r hr=>?_⟩
 ·rw[q0e (by lia),k2 j (by lia),k1 j hj]
 ·refine rG ?_ hr
  have im :=@fY;clear hr k1 k2 l1 l2 c1 e1 a5 b4;simp only[aq];simp only[bj,↓aG,↓mn,↓aC,↓aj,↓ah,↓eX,↓bV,↓cA,Option.bind_some, *]
theorem C5(hL:100<L)(hs:H[sc]?=some (.arg ob))(ho:pL ob=xs.map V.int)(hx:xs.length<=100):∃H' cr cs,Kv L n k [.ref sc] H=some (.tup [.str (textOf (bZ xs).1),.ref cr],H')/\H'[cr]?=some (.list (cs.map V.ref))/\mH fA H' cs (bZ xs).2/\H.length<=H'.length/\∀j,j<H.length->H'[j]?=H[j]? :=by
 have s1:=CZ (L:=L) (n:=n) (k:=k) (H:=H) (v0:=some (.ref sc));have s2:=zW (L:=L) (n:=n) (k:=k) (H:=H++[eP]) (v0:=some (.ref sc)) (v1:=some (.ref H.length));have lf:(H++[eP]).length=H.length+1:=by simp
 rw[lf] at s2;obtain⟨l1,a0,a1,a2,a3,a4⟩:=CY (s0:=H) rfl rfl rfl rfl;generalize (((H++[eP])++[O.list [.str "",.int 0,.str "",.int (-1)]])++[O.list [V.ref (H.length+1)]])++[O.list []] = H1 at s2 l1 a0 a1 a2 a3 a4;obtain⟨H2,it,h1,h2,h3,c2,c1,h6⟩:=Qr ((a4 sc (q0b.mp hs).1).trans hs) ho hx;have R0:=pw.mk (P:=λj=>j<H.length\/j=H.length\/j=it) (Hs:=H2) (fr:=H.length) (v0:=some (.ref sc)) (s:=([⟨"",0,"",-1⟩],[])) (rs:=[H.length+1]) (cs:=[]) (e:=none) (a:=none) (b:=none) (c:=none) (d:=none)
  ⟨(c2 (H.length+2) (by lia)).trans a2,⟨(c2 _ (by lia)).trans a1,trivial⟩,(c2 (H.length+3) (by lia)).trans a3,trivial,by simp⟩
  ⟨q0c _,λj hj=>by lia,λ_ _=>rfl,λj hj=>by simp;lia⟩
 obtain⟨σ3,e3,R3⟩:=CX (L:=L) (n:=n) (k:=k) (xs:=xs) (by lia) c1 ((c2 _ (by lia)).trans a0) (.inr (.inr rfl)) (.inr (.inl rfl)) R0;have ok:=jB (xs:=bA xs) (s:=([⟨"",0,"",-1⟩],[])) trivial;have hn:=fQ xs;have ok2:wt (bZ xs).1<=20+40*(bA xs).length:=ok.2.1;have ok3:(bZ xs).2.length<=0+(bA xs).length:=ok.2.2;have hl:=qM (bZ xs).1;obtain⟨σ4,e4,F,hF,R4⟩:=zX (L:=L) (n:=n) (k:=k) (s:=bZ xs) ok.1 (by lia) (by lia) R3 (by lia);cases R4 with
 |@mk H4 rs cs e a b c d R A=>
 have hr:=R.frs.len;cases rs with
 |nil=>simp at hr
 |cons f rs=>
 obtain rfl:rs=[]:=List.eq_nil_of_length_eq_zero (Nat.succ.inj hr);have d1:df H4 (.ref (H.length+2)) (.int 0)=some (.ref f):=by rw[aJ,R.lst];rfl
 have d2:df H4 (.ref f) (.int 2)=some (.str (textOf (bZ xs).1)):=by rw[aJ,R.frs.1,<-hF];rfl
 refine⟨H4,H.length+3,cs,?_,R.cls,R.cl,q0d (by lia) A.len,λj hj=>(A.same j (.inl hj)).trans ((c2 j (by lia)).trans (a4 j hj))⟩;refine E4 (fl:=.ret _) (l':=LR (some (.ref sc)) (some (.ref H.length)) (some (.ref (H.length+2))) (some (.ref (H.length+3))) e a b c d) ?_;refine ag s1 (ag s2 (ag (h6 _ _ _ _ _ _ _ e3) (ag e4 (bl ?_))));clear e3 R3 e4 A R s1 s2 l1 a0 a1 a2 a3 a4 c1 c2 ok hF R0 h1 h2 h3 h6;unfold Cw;simp only[cT,↓aG,↓aR,↓aq,↓lD,↓pG,↓bP,↓sG,↓aj,↓ah, *]
end
noncomputable def l5:Str:="abcdfeghijklmnopqrstuvwxyzABCDEFGHIJKLMNOPQRSTUVWXYZ0123456789_ßàáâãäåæçèéêëìíîïðñòóôõöøùúûüýþÿÀÁÂÃÄÅÆÇÈÉÊËÌÍÎÏÐÑÒÓÔÕÖØÙÚÛÜÝÞ~-./*?="
noncomputable def jp(io p1 p2 p3:Nat)(st tk:V)(ln:Int):List (Option V):=[some (.ref io),some (.str "run"),some (.bool true),some .none,some (.str "#"),some (.str l5),some (.str " \t\r\n"),some (.bool false),some (.str "'\""),some (.str "\\"),some (.str "\""),some st,some (.ref p1),some (.int ln),some (.int 0),some tk,some (.ref p2),some .none,some (.str ":()"),some (.ref p3),none,none,none]
noncomputable def mL(x:Str)(pos:Int):List (Option V):=[none,none,none,none,none,none,none,none,none,none,none,none,none,none,none,none,none,none,none,none,some (.str "\n"),some (.str x),some (.int pos)]
section
variable{H:List O}{l:List (Option V)}{m:Nat}{α β:Type}{σ σ':St}
theorem xG(m:M Fl):ak m (Z .next)=m:=by
 funext σ;unfold ak;rw[o3];cases h:m σ with
 |none=>rfl
 |some p=>obtain⟨f,σ'⟩:=p;cases f<;>rfl
theorem ao(h:l[i]?=some (some v)):af i ⟨H,l⟩=some (v,⟨H,l⟩):=by unfold af;simp only[h]
theorem f7(h:t σ=some (true,σ')):ak (Y t λt=>if t then A else B) (Z .next) σ=A σ':=by rw[xG,ai h];rfl
theorem cO(h:t σ=some (false,σ')):ak (Y t λt=>if t then A else B) (Z .next) σ=B σ':=by rw[xG,ai h];rfl
theorem fU{t:M Bool}{A B:M Fl}(h:t σ=some (true,σ')):(Y t λt=>if t then A else B) σ=A σ':=by(refine(ai h).trans ?_);rfl
theorem dW{t:M Bool}{A B:M Fl}(h:t σ=some (false,σ')):(Y t λt=>if t then A else B) σ=B σ':=by rw[ai h];rfl
theorem fP(h0:l[0]?=some (some (.ref m)))(h:cj i (.ref m) H=some v):(Y (af 0) λo=>az i o) ⟨H,l⟩=some (v,⟨H,l⟩):=by rw[ai (ao h0),LP,h];rfl
theorem aS(hx:x ⟨H,l⟩=some (a,⟨H,l⟩))(hy:y ⟨H,l⟩=some (b,⟨H,l⟩))(h:bC op H a b=some r):(Y x λa=>Y y λb=>aF op a b) ⟨H,l⟩=some (r,⟨H,l⟩):=by rw[ai hx,ai hy,eR,h];rfl
theorem hY(hx:x ⟨H,l⟩=some (a,⟨H,l⟩))(h:fw H a=some r):(Y x aD) ⟨H,l⟩=some (r,⟨H,l⟩):=by simp only[ai hx,sH,h];rfl
theorem not_of(hx:x σ=some (r,σ')):(Y x λt=>Z (!t)) σ=some (!r,σ'):=by(refine(ai hx).trans ?_);rfl
theorem gS(hx:x σ=some (false,σ')):bv (x::r) σ=some (false,σ'):=by
 show Y x _ σ=_
 (refine(ai hx).trans ?_);rfl
theorem eH(hx:x σ=some (true,σ'))(h:bv r σ'=z):bv (x::r) σ=z:=by
 show Y x _ σ=_
 (refine(ai hx).trans ?_);exact h
theorem Jb(hx:x σ=some (true,σ')):iL (x::r) σ=some (true,σ'):=by
 show Y x _ σ=_
 (refine(ai hx).trans ?_);rfl
theorem rf(hx:x σ=some (false,σ'))(h:iL r σ'=z):iL (x::r) σ=z:=by
 show Y x _ σ=_
 (refine(ai hx).trans ?_);exact h
theorem zQ(h:H[m]?=some (.inst C fs))(hC:C=aZ\/C=aL)(hi:i<fs.length):aA [] i (.ref m) u H=some ((),H.set m (.inst C (fs.set i (some u)))):=by show(dI H m).bind (λc=>if m∉([]:List Nat)/\(c.1=aZ\/c.1=aL)/\i<c.2.length then some ((),H.set m (.inst c.1 (c.2.set i (some u)))) else none)=_;rw[yn h];exact q1k ⟨q2c,hC,hi⟩
theorem kS(hx:x ⟨H,l⟩=some (u,⟨H,l⟩))(h0:l[0]?=some (some (.ref m)))(h:H[m]?=some (.inst C fs))(hC:C=aZ\/C=aL)(hi:i<fs.length):(Y x λu=>Y (af 0) λa=>Y (au (aA [] i a u)) λ_=>Z Fl.next) ⟨H,l⟩=some (Fl.next,⟨H.set m (.inst C (fs.set i (some u))),l⟩):=by rw[ai hx,ai (ao h0),aY,zQ h hC hi];rfl
theorem oK(h:H[m]?=some (.inst C fs))(hC:C=aZ\/C=aL)(hv:fs[i]?=some (some v))(nt:bN v=true):cj i (.ref m) H=some v:=by show(dI H m).bind (λc=>if c.1=aZ\/c.1=aL then(c.2[i]?).bind λf=>f.bind λv=>if bN v then some v else none else none)=_;rw[yn h];refine(q1k hC).trans ?_;rw[hv];exact q1k nt
end
section
variable{L n k:Nat}{H:List O}{m:Nat}
theorem Ed(x:Str){i:Int}(h0 : -1000000<=i)(h1:i<=1000000):Kw L n k [.int i,.str x] H=some (.int i,H):=by
 refine E8 (fl:=.ret _) (l':=[some (.int i),some (.str x),none,none,none,none]) ?_;refine ag (σ':=⟨H,[some (.int i),some (.str x),none,none,none,none]⟩) ?_ (ag (σ':=⟨H,[some (.int i),some (.str x),none,none,none,none]⟩) rfl (ag (σ':=⟨H,[some (.int i),some (.str x),none,none,none,none]⟩) ?_ rfl))
 ·exact dW (gS rfl)
 ·have d1:bC .Gt H (.int i) (.int 1099511627776)=some false:=by rw[gt_int,q1x (by lia)]
  have d2:bC .Lt H (.int i) (.int (-1099511627776))=some false:=by rw[lt_int,q1x (by lia)]
  exact dW (rf (aS rfl rfl d1) (rf (aS rfl rfl d2) rfl))
theorem EZ(h:H[m]?=some (.inst aL (mL x pos))):Kz L n k [.ref m] H=some (.none,H):=by refine Fb (fl:=.next) (l':=[some (.ref m),none]) ?_;exact cO (aS (a:=.str x) (fP rfl (oK h (.inr rfl) rfl rfl)) rfl rfl)
theorem n9{io p1 p2 p3:Nat}{st tk:V}{ln:Int}(h:H[m]?=some (.inst aZ (jp io p1 p2 p3 st tk ln))):o0 L n k [.ref m] H=some (.str ":()",H):=by
 refine E6 (fl:=.ret _) (l':=[some (.ref m)]) ?_;refine bl ?_;show Y _ _ _=_
 (refine(ai (fP (v:=.str ":()") rfl (oK h (.inl rfl) rfl rfl))).trans ?_);rfl
end
theorem Zl(h:b-a=n)(l:b<=n)(z:¬n=0):a=0:=by lia
theorem Kk(n:Nat)(i:Int):clipAt n i<=n:=Int.ofNat_le.mp ((clipAt_cast n i).symm▸Int.max_le.mpr ⟨Int.natCast_nonneg n,Int.min_le_right _ _⟩)
theorem gV{x:Str}{lo hi:Option Int}{a b:Nat}(e1:lo.elim 0 (clipAt x.length)=a)(e2:hi.elim x.length (clipAt x.length)=b):Txt.slice x lo hi=⟨((x.cps.toList.drop a).take (b-a)).toArray⟩:=by
 have e:Builtin.Str.strSliceIndices lo hi 1 x.length=sliceRange (sliceBounds lo hi none x.length).1 (sliceBounds lo hi none x.length).2.1 1:=by cases lo<;>cases hi<;>rfl
 have hp:(Builtin.Str.strSliceIndices lo hi 1 x.length).filterMap (x.cps[·]?)=(x.cps.toList.drop a).take (b-a):=by rw[e,sliceBounds_plain,e1,e2];dsimp only;rw[sliceRange_one,List.filterMap_map,<-jC];congr 1;funext j;simp
 unfold Txt.slice;rw[hp];split
 ·rename_i h
  simp only[beq_self_eq_true,Bool.true_and,q1v] at h;rw[e,sliceBounds_plain,e1,e2] at h;dsimp only at h;rw[sliceRange_one,q0w,List.length_range] at h;have ha:a=0\/x.length=0:=by
   by_cases h0:x.length=0
   ·exact .inr h0
   ·have:b<=x.length:=by
     rw[<-e2];cases hi with
     |none=>exact q0c _
     |some i=>exact Kk _ i
    exact .inl (Zl h this h0)
  have hl:x.cps.toList.length=x.length:=by simp[Str.length]
  rcases ha with rfl | h0
  ·have:(x.cps.toList.drop 0).take (b-0)=x.cps.toList:=by rw[List.drop_zero,List.take_of_length_le (by lia)]
   rw[this]
  ·have:x.cps.toList=[]:=List.eq_nil_of_length_eq_zero (by lia)
   have h2:x.cps=#[]:=by simpa using this
   rw[this];simp;cases x;simp_all
 ·rfl
section
variable{L n k:Nat}{H:List O}{m:Nat}{x:Str}{pos:Nat}
theorem IX(h:H[m]?=some (.inst aL (mL x pos)))(hx:x.length<=100000)(hp:pos<=x.length):YW L n k [.ref m,.int 1] H=match x.cps[pos]? with
 |some c=>some (.str ⟨#[c]⟩,H.set m (.inst aL (mL x ((pos+1:Nat):Int))))
 |none=>some (.str "",H):=by
 have hz:ax=1048576:=rfl;have hlen:x.cps.size=x.length:=rfl;have g1:cj 21 (.ref m) H=some (.str x):=oK h (.inr rfl) rfl rfl;have g2:cj 22 (.ref m) H=some (.int pos):=oK h (.inr rfl) rfl rfl;have g3:blt .len [.str x] H=some (.int x.length,H):=by exact q1k (c:=x.length<=ax) (by lia)
 have g4:=Ed (L:=L) (n:=n+1) (k:=k) (H:=H) "StringIO.read of a size that is no exact int" (i:=1) (by decide) (by decide);have g5:=EZ (L:=L) (n:=n+4) (k:=k) h;have g6:eB 608 (.ref m) H=true:=isIn h;have s1:UG L n k ⟨H,[some (.ref m),some (.int 1),none,none,none,none]⟩=some (.next,⟨H,[some (.ref m),some (.int 1),none,none,none,none]⟩):=rfl;have s2:PV L n k ⟨H,[some (.ref m),some (.int 1),none,none,none,none]⟩=some (.next,⟨H,[some (.ref m),some (.int 1),none,none,none,none]⟩):=by unfold PV;simp only[bj,↓aG,↓aR,↓aq,↓uV,↓Yy,↓aC,↓aj,↓ah, *]
 have s3:PU L n k ⟨H,[some (.ref m),some (.int 1),none,none,none,none]⟩=some (.next,⟨H,[some (.ref m),some (.int 1),none,none,none,none]⟩):=by clear s1 s2;unfold PU;simp only[bj,↓aR,↓aq,↓mn,↓aC,dG,↓aj,↓reduceIte, *]
 have s4:PT L n k ⟨H,[some (.ref m),some (.int 1),none,none,none,none]⟩=some (.next,⟨H,[some (.ref m),some (.int 1),some (.int pos),none,none,none]⟩):=by clear s1 s2 s3;unfold PT;simp only[cT,↓aR,↓aq,↓mn,↓Yx,↓gK, *]
 have s5:PS L n k ⟨H,[some (.ref m),some (.int 1),some (.int pos),none,none,none]⟩=some (.next,⟨H,[some (.ref m),some (.int 1),some (.int pos),some (.int x.length),none,none]⟩):=by clear s1 s2 s3 s4;unfold PS;simp only[cT,bj,↓aR,↓aq,↓mn,↓Nh,↓aC,↓gK,↓aj,↓ah, *]
 by_cases hc:pos<x.length
 ·have hcp:x.cps[pos]?=some x.cps[pos]:=q0o hc
  rw[hcp];dsimp only;refine yR (fl:=.ret _) (l':=[some (.ref m),some (.int 1),some (.int pos),some (.int ((pos:Int)+1)),none,none]) ?_;have c1:bC .GtE H (.int (pos:Int)) (.int (x.length:Int))=some false:=by rw[ge_int,q1x (by lia)]
  have c2:bC .GtE H (.int 1) (.int 0)=some true:=rfl;have c3:(Y (Y (af 2) λa=>Y (af 1) λb=>au (bn .Add a b)) λa=>Y (af 3) λb=>aF .Lt a b) ⟨H,[some (.ref m),some (.int 1),some (.int pos),some (.int x.length),none,none]⟩=some (decide ((pos:Int)+1<x.length),⟨H,[some (.ref m),some (.int 1),some (.int pos),some (.int x.length),none,none]⟩):=by clear s1 s2 s3 s4 s5;simp only[aq];simp only[bj,↓uV,↓lD,↓pG,↓aC,eR,add_int,lt_int,Option.bind_some, *]
  refine ag s1 (ag s2 (ag s3 (ag s4 (ag s5 (ag (σ':=⟨H,[some (.ref m),some (.int 1),some (.int pos),some (.int x.length),none,none]⟩) (dW (aS rfl rfl c1)) (ag (σ':=⟨H,[some (.ref m),some (.int 1),some (.int pos),some (.int ((pos:Int)+1)),none,none]⟩) ?_ (ag (kS (m:=m) (C:=aL) (u:=.int ((pos:Int)+1)) rfl rfl h (.inr rfl) (by show 22<23;decide)) (bl ?_))))))))
  ·by_cases he:(pos:Int)+1<x.length
   ·rw[q1w he] at c3
    exact fU (eH (aS rfl rfl c2) (eH (r:=[]) c3 rfl))
   ·have:(x.length:Int)=(pos:Int)+1:=by lia
    rw[q1x (by lia)] at c3;rw[<-this];exact dW (eH (aS rfl rfl c2) (gS c3))
  ·have h2:(H.set m (.inst aL ((mL x pos).set 22 (some (.int ((pos:Int)+1))))))[m]?=some (.inst aL (mL x ((pos:Int)+1))):=bx h
   have k1:cj 21 (.ref m) (H.set m (.inst aL ((mL x pos).set 22 (some (.int ((pos:Int)+1))))))=some (.str x):=oK h2 (.inr rfl) rfl rfl;have k2:∀H,bY (.str x) (some (pos:Int)) (some ((pos:Int)+1)) H=some (.str ⟨#[x.cps[pos]]⟩,H):=λH=>by
    show(if x.length<=ax then _ else _)=_;rw[q1k (by lia)];have:Txt.slice x (some (pos:Int)) (some ((pos:Int)+1))=⟨#[x.cps[pos]]⟩:=by
     rw[gV (a:=pos) (b:=pos+1) (by show clipAt _ _=_;rw[clipAt_nat];lia) (by show clipAt _ ((pos+1:Nat):Int)=_;rw[clipAt_nat];lia)];have:(x.cps.toList.drop pos).take (pos+1-pos)=[x.cps[pos]]:=by rw[Nat.add_sub_cancel_left,q2m (by rw[Array.length_toList];exact hc)];rfl
     rw[this]
    rw[this]
   clear s1 s2 s3 s4 s5 c1 c2 c3 g1 g2 g3 g4 g5 g6 h2;unfold MJ;simp only[cT,bj,↓aR,↓aq,↓mn,↓lD,↓pG,↓aC,↓gK,↓bV,↓cA, *];rfl
 ·have hcp:x.cps[pos]?=none:=Array.getElem?_eq_none (by lia)
  rw[hcp];dsimp only;refine yR (fl:=.ret _) (l':=[some (.ref m),some (.int 1),some (.int pos),some (.int x.length),none,none]) ?_;have c1:bC .GtE H (.int (pos:Int)) (.int (x.length:Int))=some true:=by rw[ge_int,q1w (by lia)]
  exact ag s1 (ag s2 (ag s3 (ag s4 (ag s5 (bl (fU (aS rfl rfl c1)))))))
end
noncomputable def fB:List Nat:=[97,98,99,46,126,45,48,49,50,51,52,53,54,55,56,57,58,40,41,123,125,60,62,32,10]
noncomputable def nu(c:Nat):Bool:=c==32||c==10
noncomputable def oH(c:Nat):Bool:=c==58||c==40||c==41
noncomputable def Gf(c:Nat):Bool:=c==123||c==125||c==60||c==62
noncomputable def mS(c:Nat):Bool:=!nu c&&!oH c&&!Gf c
noncomputable def ch(c:Nat):Str:=⟨#[c]⟩
structure Cls(c:Nat):Prop where
 s:fZ (ch c) " \t\r\n" = nu c
 com:fZ (ch c) "#" = false
 TE:fZ (ch c) "\\" = false
 word:fZ (ch c) l5=mS c
 pun:fZ (ch c) ":()" = oH c
 quo:fZ (ch c) "'\"" = false
theorem rS(h:c∈fB):Cls c:=by
 have k:∀c∈fB,(fZ (ch c) " \t\r\n" == nu c&&fZ (ch c) "#" == false&&fZ (ch c) "\\" == false&&fZ (ch c) l5==mS c&&fZ (ch c) ":()" == oH c&&fZ (ch c) "'\"" == false)=true:=by decide +kernel
 have:=k c h;simp only[Bool.and_eq_true,q1v] at this;obtain⟨⟨⟨⟨⟨a,b⟩,c⟩,d⟩,e⟩,f⟩:=this;exact⟨a,b,c,d,e,f⟩
structure Lx where
 m:Nat
 io:Nat
 p1:Nat
 p2:Nat
 p3:Nat
structure lZ(H:List O)(A:Lx)(st tk:V)(ln:Int)(x:Str)(pos:Nat)(pb:List Nat):Prop where
 ins:H[A.m]?=some (.inst aZ (jp A.io A.p1 A.p2 A.p3 st tk ln))
 str:H[A.io]?=some (.inst aL (mL x pos))
 pbk:H[A.p3]?=some (.d8 (pb.map λc=>.str (ch c)))
 q1:H[A.p1]?=some (.d8 [])
 q2:H[A.p2]?=some (.d8 [])
 n1:A.p3≠A.p1
 n2:A.p3≠A.p2
 hx:x.length<=100000
 hp:pos<=x.length
 hb:pb.length<=1
 al:∀c∈pb++x.cps.toList.drop pos,c∈fB
inductive bR(H:List O)(A:Lx)(st tk:V)(s:List Nat):Prop
 |mk (ln:Int) (x:Str) (pos:Nat) (pb:List Nat) (a:lZ H A st tk ln x pos pb) (e:s=pb++x.cps.toList.drop pos):bR H A st tk s
inductive cX(H:List O)(A:Lx)(st tk:V)(s:List Nat):Prop
 |mk (ln:Int) (x:Str) (pos:Nat) (a:lZ H A st tk ln x pos []) (e:s=x.cps.toList.drop pos):cX H A st tk s
def dP(A:Lx)(H H':List O):Prop:=H'.length=H.length/\∀j,j≠A.m->j≠A.io->j≠A.p3->H'[j]?=H[j]?
section
variable{H H' H'':List O}{A:Lx}{st tk v:V}{ln:Int}{x:Str}{pos:Nat}{pb s:List Nat}
theorem dP.refl:dP A H H:=⟨rfl,λ_ _ _ _=>rfl⟩
theorem dP.trans(a:dP A H H')(b:dP A H' H''):dP A H H'':=⟨b.1.trans a.1,λj h1 h2 h3=>(b.2 j h1 h2 h3).trans (a.2 j h1 h2 h3)⟩
theorem dP.set(h:q=A.m\/q=A.io\/q=A.p3):dP A H (H.set q o):=⟨by simp,λj h1 h2 h3=>q0j (by rcases h with rfl | rfl | rfl<;>first | exact Ne.symm h1 | exact Ne.symm h2 | exact Ne.symm h3)⟩
theorem lZ.ne(R:lZ H A st tk ln x pos pb):A.m≠A.io/\A.m≠A.p1/\A.m≠A.p2/\A.m≠A.p3/\A.io≠A.p1/\A.io≠A.p2/\A.io≠A.p3:=by
 refine⟨λe=>?_,λe=>?_,λe=>?_,λe=>?_,λe=>?_,λe=>?_,λe=>?_⟩
 ·have:=R.ins;rw[e,R.str] at this;injection this with h;injection h with h _;exact q1t h (by decide)
 ·have:=R.ins;rw[e,R.q1] at this;injection this with h;cases h
 ·have:=R.ins;rw[e,R.q2] at this;injection this with h;cases h
 ·have:=R.ins;rw[e,R.pbk] at this;injection this with h;cases h
 ·have:=R.str;rw[e,R.q1] at this;injection this with h;cases h
 ·have:=R.str;rw[e,R.q2] at this;injection this with h;cases h
 ·have:=R.str;rw[e,R.pbk] at this;injection this with h;cases h
theorem lZ.lex(R:lZ H A st tk ln x pos pb)(B8 tk':V)(ln':Int):lZ (H.set A.m (.inst aZ (jp A.io A.p1 A.p2 A.p3 B8 tk' ln'))) A B8 tk' ln' x pos pb:=by refine cps λPq kq=>?_;obtain⟨a,b,c,d,_,_,_⟩:=R.ne;refine kq ?_;exact⟨bx R.ins,ay (Ne.symm a) R.str,ay (Ne.symm d) R.pbk,ay (Ne.symm b) R.q1,ay (Ne.symm c) R.q2,R.n1,R.n2,R.hx,R.hp,R.hb,R.al⟩
theorem lZ.go(R:lZ H A st tk ln x pos [])(h:pos+1<=x.length):lZ (H.set A.io (.inst aL (mL x ((pos+1:Nat):Int)))) A st tk ln x (pos+1) []:=by refine cps λPq kq=>?_;obtain⟨a,b,c,d,e,f,g⟩:=R.ne;refine kq ?_;refine⟨ay a R.ins,bx R.str,ay (Ne.symm g) R.pbk,ay (Ne.symm e) R.q1,ay (Ne.symm f) R.q2,R.n1,R.n2,R.hx,h,R.hb,λq hq=>R.al q ?_⟩;simp only[List.nil_append] at hq ⊢;rw[<-List.drop_drop] at hq;exact List.mem_of_mem_drop hq
theorem lZ.back(R:lZ H A st tk ln x pos pb)(Yv:List Nat)(h:Yv.length<=1)(ha:∀c∈Yv,c∈fB):lZ (H.set A.p3 (.d8 (Yv.map λc=>.str (ch c)))) A st tk ln x pos Yv:=by
 refine cps λPq kq=>?_;obtain⟨a,b,c,d,e,f,g⟩:=R.ne;refine kq ?_;refine⟨ay d R.ins,ay g R.str,bx R.pbk,ay (Ne.symm R.n1) R.q1,ay (Ne.symm R.n2) R.q2,R.n1,R.n2,R.hx,R.hp,h,λq hq=>?_⟩;rcases q1q.mp hq with hq | hq
 ·exact ha q hq
 ·exact R.al q (List.mem_append_right _ hq)
end
noncomputable def z8:List Nat->Str
 |[]=>""
 |c::_=>ch c
section
variable{L n k:Nat}{H:List O}{A:Lx}{st tk v v1 v2:V}{s:List Nat}{v3 v4:Option V}
theorem I6(h:H[m]?=some (.d8 (vs++[v])))(hz:m∉z)(hl:(vs++[v]).length<=ax):nh z .d8 .pop (.ref m) [] H=some (v,H.set m (.d8 vs)):=by unfold nh;simp only[vR,Option.bind_some,iW,h];rw[q1l hz];unfold Jt;simp only[List.isEmpty_nil,true_and,hl,if_true];simp
theorem LV(h:H[m]?=some (.d8 vs))(hz:m∉z)(hl:vs.length<ax):nh z .d8 .append (.ref m) [v] H=some (.none,H.set m (.d8 (vs++[v]))):=by unfold nh;simp only[vR,Option.bind_some,iW,h];rw[q1l hz];unfold Jt;simp[one,hl]
theorem kZ(h:H[m]?=some (.d8 vs))(hl:vs.length<=ax):fw H (.ref m)=some (!vs.isEmpty):=by show ba (jS H[m]?) _ ((iW H m).bind _)=_;rw[Xm h,h];exact q1k hl
theorem BO(R:bR H A st tk s):∀{G:Prop},(∀H',Mv L n k ⟨H,[some (.ref A.m),some v1,some v2,v3,v4,none,none,none]⟩=some (.next,⟨H',[some (.ref A.m),some v1,some v2,some (.str (z8 s)),v4,none,none,none]⟩)->cX H' A st tk s.tail->dP A H H'->G)->G:=by
 intro Gq kq0;obtain⟨ln,x,pos,pb,R,rfl⟩:=R;have hz:ax=1048576:=rfl;have i1:eB 743 (.ref A.m) H=true:=isIn R.ins;have c1:=n9 (L:=L) (n:=n+17) (k:=k) R.ins;have t1:fw H (.str ":()")=some true:=rfl;have t2:bN (.str ":()")=true:=rfl;have g19:cj 19 (.ref A.m) H=some (.ref A.p3):=oK R.ins (.inl rfl) rfl rfl;have g0:cj 0 (.ref A.m) H=some (.ref A.io):=oK R.ins (.inl rfl) rfl rfl;have e1:(Y (Y (af 0) λo=>Y (dj 743 o) λ_=>Y (au (o0 L (n+17) k [o])) λv=>if bN v then Z v else(dead:M V)) aD) ⟨H,[some (.ref A.m),some v1,some v2,v3,v4,none,none,none]⟩=some (true,⟨H,[some (.ref A.m),some v1,some v2,v3,v4,none,none,none]⟩):=by rw[aq];simp only[bj,↓aG,↓aq,↓mn,↓aC,dG,sH,↓hU,↓eC,Option.bind_some,↓reduceIte, *]
 have e2:(Y (Y (af 0) λo=>az 19 o) aD) ⟨H,[some (.ref A.m),some v1,some v2,v3,v4,none,none,none]⟩=some (!(pb.map λc=>V.str (ch c)).isEmpty,⟨H,[some (.ref A.m),some v1,some v2,v3,v4,none,none,none]⟩):=
  hY (fP rfl g19) (kZ R.pbk (by have:=R.hb;simp;lia))
 cases pb with
 |cons c pb=>
  have hb:pb=[]:=List.eq_nil_of_length_eq_zero (by have:=R.hb;simp only[List.length_cons] at this;lia);subst hb;have R':=R.back [] (by simp) (by simp);refine kq0 _ ((fU (eH e1 (eH (r:=[]) e2 rfl))).trans (ag ?_ rfl)) ⟨ln,x,pos,R',rfl⟩ (.set (.inr (.inr rfl)));have p:=I6 (z:=[]) (vs:=[]) (v:=.str (ch c)) (H:=H) (m:=A.p3) R.pbk (by simp) (by simp[hz]);have kd:dy H (.ref A.p3)=some .d8:=by rw[bH,R.pbk];rfl
  clear e1 e2 i1 c1 t1 t2 g0 R';unfold Mw;simp only[cT,bj,↓aR,↓aq,↓mn,↓Nh,↓aC,↓gK,↓b8,QM,↓aj,↓hU,↓eC,↓du,↓reduceIte, *];rfl
 |nil=>
  have rc:=IX (L:=L) (n:=n+9) (k:=k) R.str R.hx R.hp;have i2:eB 608 (.ref A.io) H=true:=isIn R.str;by_cases hp:pos<x.length
  ·have hc:x.cps[pos]?=some x.cps[pos]:=q0o hp
   rw[hc] at rc;dsimp only at rc;have hd:x.cps.toList.drop pos=x.cps[pos]::x.cps.toList.drop (pos+1):=q2m (by rw[Array.length_toList];exact hp);refine kq0 _ ((dW (eH e1 (gS e2))).trans (ag ?_ rfl)) ⟨ln,x,pos+1,R.go hp,by rw[List.nil_append,hd];rfl⟩ (.set (.inr (.inl rfl)));rw[List.nil_append,hd];clear e1 e2 i1 c1 t1 t2 g19 hd hc;unfold Co;simp only[cT,bj,↓aG,↓aR,↓aq,↓mn,↓Nh,↓aC,↓gK,dG,↓aj,↓ah,↓reduceIte, *];rfl
  ·have hc:x.cps[pos]?=none:=Array.getElem?_eq_none (Nat.not_lt.mp hp)
   rw[hc] at rc;dsimp only at rc;have hd:x.cps.toList.drop pos=[]:=List.drop_of_length_le (by rw[Array.length_toList];exact Nat.not_lt.mp hp);refine kq0 H ((dW (eH e1 (gS e2))).trans (ag ?_ rfl)) ⟨ln,x,pos,R,by rw[List.nil_append,hd];rfl⟩ .refl;rw[List.nil_append,hd];clear e1 e2 i1 c1 t1 t2 g19 hd hc;unfold Co;simp only[cT,bj,↓aG,↓aR,↓aq,↓mn,↓Nh,↓aC,↓gK,dG,↓aj,↓ah,↓reduceIte, *];rfl
end
noncomputable def TL(A:Lx)(w:Str)(v4:Option V):List (Option V):=[some (.ref A.m),some (.bool false),some (.str " "),some (.str w),v4,none,none,none]
section
variable{L n k:Nat}{H H':List O}{A:Lx}{st tk v:V}{s r:List Nat}{w:Str}{v4:Option V}{c:Nat}{ln:Int}{x:Str}{pos:Nat}{pb:List Nat}
theorem cX.S(R:cX H A st tk s):bR H A st tk s:=let⟨ln,x,pos,a,b⟩:=R;⟨ln,x,pos,[],a,by rw[b];rfl⟩
theorem bR.al(R:bR H A st tk s):∀c∈s,c∈fB:=by obtain⟨ln,x,pos,pb,a,rfl⟩:=R;exact a.al
theorem cX.get(R:cX H A st tk s)(h:∀ln,(jp A.io A.p1 A.p2 A.p3 st tk ln)[i]?=some (some v))(nt:bN v=true):cj i (.ref A.m) H=some v:=by obtain⟨ln,x,pos,a,_⟩:=R;exact oK a.ins (.inl rfl) (h ln) nt
theorem cX.sO(R:cX H A st tk s)(he:e ⟨H,TL A w v4⟩=some (v,⟨H,TL A w v4⟩)):∀{G:Prop},(∀H',(Y e λu=>Y (af 0) λa=>Y (au (aA [] 11 a u)) λ_=>Z Fl.next) ⟨H,TL A w v4⟩=some (Fl.next,⟨H',TL A w v4⟩)->cX H' A v tk s->dP A H H'->G)->G:=by intro Gq kq0;refine cps λPq kq=>?_;obtain⟨ln,x,pos,a,e1⟩:=R;refine kq ?_;exact kq0 _ (kS he rfl a.ins (.inl rfl) (by show 11<23;decide)) ⟨ln,x,pos,a.lex v tk ln,e1⟩ (.set (.inl rfl))
theorem cX.xA(R:cX H A st tk s)(he:e ⟨H,TL A w v4⟩=some (v,⟨H,TL A w v4⟩)):∀{G:Prop},(∀H',(Y e λu=>Y (af 0) λa=>Y (au (aA [] 15 a u)) λ_=>Z Fl.next) ⟨H,TL A w v4⟩=some (Fl.next,⟨H',TL A w v4⟩)->cX H' A st v s->dP A H H'->G)->G:=by intro Gq kq0;refine cps λPq kq=>?_;obtain⟨ln,x,pos,a,e1⟩:=R;refine kq ?_;exact kq0 _ (kS he rfl a.ins (.inl rfl) (by show 15<23;decide)) ⟨ln,x,pos,a.lex st v ln,e1⟩ (.set (.inl rfl))
theorem cX.NI(R:cX H A st (.str t) s)(hl:t.length+w.length<=ax):∀{G:Prop},(∀H',(Y (af 0) λa=>Y (az 15 a) λx=>Y (af 3) λy=>Y (au (dN [] x y)) λv=>Y (au (aA [] 15 a v)) λ_=>Z Fl.next) ⟨H,TL A w v4⟩=some (Fl.next,⟨H',TL A w v4⟩)->cX H' A st (.str (t++w)) s->dP A H H'->G)->G:=by intro Gq kq0;have g:cj 15 (.ref A.m) H=some (.str t):=R.get (λ_=>rfl) rfl;refine cps λPq kq=>?_;obtain⟨ln,x,pos,a,e1⟩:=R;refine kq ?_;refine kq0 _ ?_ ⟨ln,x,pos,a.lex st (.str (t++w)) ln,e1⟩ (.set (.inl rfl));rw[ai (ao (v:=.ref A.m) rfl),o4,g,Option.bind_some,ai (ao (v:=.str w) rfl),aY,r0 [] t w hl];show Y (au (aA [] 15 (.ref A.m) (.str (t++w)))) _ ⟨H,TL A w v4⟩=_;rw[aY,zQ a.ins (.inl rfl) (by show 15<23;decide)];rfl
theorem cX.line(R:cX H A st tk s):∀{G:Prop},(∀H',Cp L n k ⟨H,TL A w v4⟩=some (.next,⟨H',TL A w v4⟩)->cX H' A st tk s->dP A H H'->G)->G:=by
 intro Gq kq0;have e:(Y (af 3) λa=>Y (Z (.str "\n")) λb=>aF .Eq a b) ⟨H,TL A w v4⟩=some (w==("\n" : Str),⟨H,TL A w v4⟩):=aS (ao (v:=.str w) rfl) rfl (eq_str _ _);by_cases hw:(w==("\n" : Str))=true
 ·rw[hw] at e
  refine cps λPq kq=>?_;obtain⟨ln,x,pos,a,e1⟩:=R;have g:cj 13 (.ref A.m) H=some (.int ln):=oK a.ins (.inl rfl) rfl rfl;refine kq ?_;refine kq0 _ ((fU e).trans (ag ?_ rfl)) ⟨ln+1,x,pos,a.lex st tk (ln+1),e1⟩ (.set (.inl rfl));show Y (af 0) _ _=_;rw[ai (ao (v:=.ref A.m) rfl),o4,g,Option.bind_some,aG,aY];show Y (au (aA [] 13 (.ref A.m) (.int (ln+1)))) _ ⟨H,TL A w v4⟩=_;rw[aY,zQ a.ins (.inl rfl) (by show 13<23;decide)];rfl
 ·rw[q1r] at hw
  rw[hw] at e;exact kq0 H (dW e) R .refl
theorem cX.tA(R:cX H A st tk s)(h:∀ln,(jp A.io A.p1 A.p2 A.p3 st tk ln)[i]?=some (some v))(nt:bN v=true)(hc:bC op H v u=some b):(Y (Y (af 0) λo=>az i o) λa=>Y (Z u) λb=>aF op a b) ⟨H,TL A w v4⟩=some (b,⟨H,TL A w v4⟩):=aS (fP rfl (R.get h nt)) rfl hc
theorem cX.tAA(R:cX H A st tk s)(h:∀ln,(jp A.io A.p1 A.p2 A.p3 st tk ln)[i]?=some (some v))(nt:bN v=true)(h':∀ln,(jp A.io A.p1 A.p2 A.p3 st tk ln)[j]?=some (some u))(V1:bN u=true)(hc:bC op H v u=some b):(Y (Y (af 0) λo=>az i o) λa=>Y (Y (af 0) λo=>az j o) λb=>aF op a b) ⟨H,TL A w v4⟩=some (b,⟨H,TL A w v4⟩):=aS (fP rfl (R.get h nt)) (fP rfl (R.get h' V1)) hc
theorem cX.tL(R:cX H A st tk s)(h':∀ln,(jp A.io A.p1 A.p2 A.p3 st tk ln)[j]?=some (some u))(V1:bN u=true)(hc:bC op H (.str w) u=some b):(Y (af 3) λa=>Y (Y (af 0) λo=>az j o) λb=>aF op a b) ⟨H,TL A w v4⟩=some (b,⟨H,TL A w v4⟩):=aS (ao rfl) (fP rfl (R.get h' V1)) hc
theorem cX.tP(R:cX H A st tk s)(hc:bC op H (.str w) (.str ":()")=some b):(Y (af 3) λa=>Y (Y (af 0) λo=>Y (dj 743 o) λ_=>Y (au (o0 L n k [o])) λv=>if bN v then Z v else(dead:M V)) λb=>aF op a b) ⟨H,TL A w v4⟩=some (b,⟨H,TL A w v4⟩):=by refine cps λPq kq=>?_;obtain⟨ln,x,pos,a,e1⟩:=R;have i1:eB 743 (.ref A.m) H=true:=isIn a.ins;refine kq ?_;refine aS (ao rfl) (b:=.str ":()") ?_ hc;rw[ai (ao (v:=.ref A.m) rfl),dG,q1k i1,aY,n9 a.ins];rfl
theorem cX.tT(R:cX H A st tk s)(h:∀ln,(jp A.io A.p1 A.p2 A.p3 st tk ln)[i]?=some (some v))(nt:bN v=true)(hc:fw H v=some b):(Y (Y (af 0) λo=>az i o) aD) ⟨H,TL A w v4⟩=some (b,⟨H,TL A w v4⟩):=hY (fP rfl (R.get h nt)) hc
theorem tE(h:w=""):(Y (Y (af 3) aD) λt=>Z (!t)) ⟨H,TL A w v4⟩=some (true,⟨H,TL A w v4⟩):=by subst h;rfl
theorem Zk(c:Nat):(Y (Y (af 3) aD) λt=>Z (!t)) ⟨H,TL A (ch c) v4⟩=some (false,⟨H,TL A (ch c) v4⟩):=rfl
theorem uW(a b:Str):bC .In H (.str a) (.str b)=some (fZ a b):=rfl
theorem ZB(a b:Str):bC .NotIn H (.str a) (.str b)=some (!fZ a b):=rfl
theorem cX.TE(R:cX H A st tk s)(h':∀ln,(jp A.io A.p1 A.p2 A.p3 st tk ln)[j]?=some (some u))(V1:bN u=true)(hc:bC .In H (.str w) u=some false):bv [Y (Y (af 0) λo=>az 2 o) aD,Y (af 3) λa=>Y (Y (af 0) λo=>az j o) λb=>aF .In a b] ⟨H,TL A w v4⟩=some (false,⟨H,TL A w v4⟩):=eH (R.tT (v:=.bool true) (λ_=>rfl) rfl rfl) (gS (R.tL h' V1 hc))
end
section
variable{L n k:Nat}{H H':List O}{A:Lx}{st tk v:V}{s r:List Nat}{w:Str}{v4:Option V}{c:Nat}
theorem jV{v3:Option V}{fl:Fl}{A':M Fl}(R:bR H A st tk s){Q:List O->Fl->Prop}(h:∀H1,cX H1 A st tk s.tail->dP A H H1->∃H' fl,ak (fD L n k) (Z .next) ⟨H1,TL A (z8 s) v4⟩=some (fl,⟨H',TL A (z8 s) v4⟩)/\Q H' fl):∃H' fl,cG L n k ⟨H,[some (.ref A.m),some (.bool false),some (.str " "),v3,v4,none,none,none]⟩=some (fl,⟨H',TL A (z8 s) v4⟩)/\Q H' fl:=by refine cps λPq kq=>?_;refine BO (L:=L) (n:=n) (k:=k) (v1:=.bool false) (v2:=.str " ") (v3:=v3) (v4:=v4) R λH1 e1 R1 K1=>?_;refine R1.line (L:=L) (n:=n) (k:=k) (w:=z8 s) (v4:=v4) λH2 e2 R2 K2=>?_;obtain⟨H',fl,e3,q⟩:=h H2 R2 (K1.trans K2);refine kq ?_;exact⟨H',fl,ag e1 (ag e2 (ag (dW (R2.tA (v:=.int 0) (λ_=>rfl) rfl rfl)) e3)),q⟩
end
inductive LS where
 |no |sp |wd |pn
noncomputable def LS.v:LS->V
 |.no=>.none
 |.sp=>.str " "
 |.wd=>.str "a"
 |.pn=>.str "c"
noncomputable def cH(st:LS)(t:Str)(s:List Nat):Fl×LS×Str×List Nat:=match st with
 |.no=>(.brk,.no,"",s.tail)
 |.sp=>match s with
  |[]=>(.brk,.no,t,[])
  |c::r=>if nu c then(.cont,.sp,t,r) else if mS c then(.next,.wd,ch c,r) else if oH c then(.next,.pn,ch c,r) else(.brk,.sp,ch c,r)
 |.wd=>match s with
  |[]=>(.brk,.no,t,[])
  |c::r=>if nu c then(.brk,.sp,t,r) else if mS c then(.next,.wd,t++ch c,r) else(.brk,.sp,t,c::r)
 |.pn=>match s with
  |[]=>(.brk,.no,t,[])
  |c::r=>if nu c then(.brk,.sp,t,r) else if oH c then(.next,.pn,t++ch c,r) else(.brk,.sp,t,c::r)
structure TurnOk(A:Lx)(H:List O)(p:Fl×LS×Str×List Nat)(H':List O)(fl:Fl):Prop where
 f:fl=p.1
 r:bR H' A p.2.1.v (.str p.2.2.1) p.2.2.2
 k:dP A H H'
section
variable{L n k:Nat}{H H1 H':List O}{A:Lx}{v:V}{s r:List Nat}{w t:Str}{v4:Option V}{c:Nat}
theorem pQ(x:Str)(h:x.length<=ax):fw H (.str x)=some (decide (x.length≠0)):=q1k h
theorem Xn(R:cX H A (.str w) v s)(hw:w=" " \/ w="a" \/ w="c"):ak (fD L n k) (Z .next) ⟨H,TL A t v4⟩=kK L n k ⟨H,TL A t v4⟩:=cO (R.tA (v:=.str w) (λ_=>rfl) rfl rfl)
theorem GC(R:bR H A .none v s):∃H' fl,cG L n k ⟨H,[some (.ref A.m),some (.bool false),some (.str " "),v3,v4,none,none,none]⟩=some (fl,⟨H',TL A (z8 s) v4⟩)/\TurnOk A H (cH .no t s) H' fl:=jV (fl:=.next) (A':=Z .next) R λH1 R1 K1=>by
 refine cps λPq kq=>?_;refine R1.xA (w:=z8 s) (v4:=v4) (e:=Z (.str "")) rfl λH2 e2 R2 K2=>?_;refine kq ?_;exact⟨H2,.brk,(f7 (R1.tA (v:=.none) (λ_=>rfl) rfl rfl)).trans (ag e2 (eV rfl)),rfl,R2.S,K1.trans K2⟩
theorem xc(R:bR H A (.str " ") (.str t) s)(ht:t=""):∃H' fl,cG L n k ⟨H,[some (.ref A.m),some (.bool false),some (.str " "),v3,v4,none,none,none]⟩=some (fl,⟨H',TL A (z8 s) v4⟩)/\TurnOk A H (cH .sp t s) H' fl:=by
 subst ht;have al:=R.al;refine jV (fl:=.next) (A':=Z .next) R λH1 R1 K1=>?_;rw[Xn R1 (.inl rfl)];have b199:∀{z},Fz L n k ⟨H1,TL A (z8 s) v4⟩=z->kK L n k ⟨H1,TL A (z8 s) v4⟩=z:=λh=>(f7 (R1.tA (v:=.str " ") (λ_=>rfl) rfl rfl)).trans h;cases s with
 |nil=>
  refine cps λPq kq=>?_;refine R1.sO (w:=z8 []) (v4:=v4) (e:=Z .none) rfl λH2 e2 R2 K2=>?_;refine kq ?_;exact⟨H2,.brk,b199 ((f7 (tE rfl)).trans (ag e2 (eV rfl))),rfl,R2.S,K1.trans K2⟩
 |cons c r=>
  have C:=rS (al c (q0g ..));have b75:∀{z},FA L n k ⟨H1,TL A (ch c) v4⟩=z->kK L n k ⟨H1,TL A (ch c) v4⟩=z:=λh=>b199 ((cO (Zk c)).trans h);have t6:bC .In H1 (.str (ch c)) (.str " \t\r\n")=some (nu c):=by simp only[uW,C.s]
  by_cases hS:nu c=true
  ·rw[hS] at t6
   have hP:cH LS.sp "" (c::r)=(Fl.cont,LS.sp,("" : Str),r):=by unfold cH;simp only[hS,if_true]
   rw[hP];refine⟨H1,.cont,b75 ((f7 (R1.tL (λ_=>rfl) rfl t6)).trans ?_),rfl,R1.S,K1⟩;refine ag (dW (R1.tA (v:=.int 0) (λ_=>rfl) rfl rfl)) (sV ?_);exact(dW (rf (R1.tT (v:=.str "") (λ_=>rfl) rfl rfl) (rf (r:=[]) (eH (R1.tT (v:=.bool true) (λ_=>rfl) rfl rfl) (gS rfl)) rfl))).trans (sV rfl)
  ·rw[q1r] at hS
   rw[hS] at t6;have t4:bC .In H1 (.str (ch c)) (.str "#")=some false:=by simp only[uW,C.com]
   have t9:bC .In H1 (.str (ch c)) (.str "\\")=some false:=by simp only[uW,C.TE]
   have t5:bC .In H1 (.str (ch c)) (.str l5)=some (mS c):=by simp only[uW,C.word]
   have b67:∀{z},FC L n k ⟨H1,TL A (ch c) v4⟩=z->kK L n k ⟨H1,TL A (ch c) v4⟩=z:=λh=>
    b75 ((cO (R1.tL (λ_=>rfl) rfl t6)).trans ((cO (R1.tL (λ_=>rfl) rfl t4)).trans ((cO (R1.TE (λ_=>rfl) rfl t9)).trans h)))
   by_cases hW:mS c=true
   ·rw[hW] at t5
    have hP:cH LS.sp "" (c::r)=(Fl.next,LS.wd,ch c,r):=by unfold cH;simp only[hS,hW,if_true,Bool.false_eq_true,if_false]
    rw[hP];refine cps λPq kq=>?_;refine R1.xA (w:=ch c) (v4:=v4) (e:=af 3) (ao rfl) λH2 e2 R2 K2=>?_;refine R2.sO (w:=ch c) (v4:=v4) (e:=Z (.str "a")) rfl λH3 e3 R3 K3=>?_;refine kq ?_;exact⟨H3,.next,b67 ((f7 (R1.tL (λ_=>rfl) rfl t5)).trans (ag e2 (ag e3 rfl))),rfl,R3.S,K1.trans (K2.trans K3)⟩
   ·rw[q1r] at hW
    rw[hW] at t5;have tp:bC .In H1 (.str (ch c)) (.str ":()")=some (oH c):=by simp only[uW,C.pun]
    by_cases hQ:oH c=true
    ·rw[hQ] at tp
     have hP:cH LS.sp "" (c::r)=(Fl.next,LS.pn,ch c,r):=by unfold cH;simp only[hS,hW,hQ,if_true,Bool.false_eq_true,if_false]
     rw[hP];refine cps λPq kq=>?_;refine R1.xA (w:=ch c) (v4:=v4) (e:=af 3) (ao rfl) λH2 e2 R2 K2=>?_;refine R2.sO (w:=ch c) (v4:=v4) (e:=Z (.str "c")) rfl λH3 e3 R3 K3=>?_;refine kq ?_;exact⟨H3,.next,b67 ((cO (R1.tL (λ_=>rfl) rfl t5)).trans ((f7 (R1.tP tp)).trans (ag e2 (ag e3 rfl)))),rfl,R3.S,K1.trans (K2.trans K3)⟩
    ·rw[q1r] at hQ
     rw[hQ] at tp;have t8:bC .In H1 (.str (ch c)) (.str "'\"")=some false:=by simp only[uW,C.quo]
     have hP:cH LS.sp "" (c::r)=(Fl.brk,LS.sp,ch c,r):=by unfold cH;simp only[hS,hW,hQ,Bool.false_eq_true,if_false]
     rw[hP];refine cps λPq kq=>?_;refine R1.xA (w:=ch c) (v4:=v4) (e:=af 3) (ao rfl) λH2 e2 R2 K2=>?_;refine kq ?_;refine⟨H2,.brk,b67 ((cO (R1.tL (λ_=>rfl) rfl t5)).trans ((cO (R1.tP tp)).trans ((cO (R1.tL (λ_=>rfl) rfl t8)).trans ((cO (R1.tT (v:=.bool false) (λ_=>rfl) rfl rfl)).trans (ag e2 (eV ?_)))))),rfl,R2.S,K1.trans K2⟩;exact(fU (Jb (R2.tT (v:=.str (ch c)) (λ_=>rfl) rfl rfl))).trans (eV rfl)
theorem GG(R:cX H A v (.str t) s)(ht:t.length≠0)(hl:t.length<=1000):iL [Y (Y (af 0) λo=>az 15 o) aD,bv [Y (Y (af 0) λo=>az 2 o) aD,Y (af 1) aD]] ⟨H,TL A w v4⟩=some (true,⟨H,TL A w v4⟩):=Jb (R.tT (v:=.str t) (λ_=>rfl) rfl (by rw[pQ t (by have:ax=1048576:=rfl;lia),q1w ht]))
theorem qh(R:cX H A v (.str t) r)(hc:c∈fB):∀{G:Prop},(∀H',(Y (d0 [] .append (Y (af 0) λo=>az 19 o) [af 3]) λ_=>Z Fl.next) ⟨H,TL A (ch c) v4⟩=some (Fl.next,⟨H',TL A (ch c) v4⟩)->bR H' A v (.str t) (c::r)->dP A H H'->G)->G:=by
 intro Gq kq0;have g:cj 19 (.ref A.m) H=some (.ref A.p3):=R.get (λ_=>rfl) rfl;refine cps λPq kq=>?_;obtain⟨ln,x,pos,a,e1⟩:=R;have kd:dy H (.ref A.p3)=some .d8:=by rw[bH,a.pbk];rfl
 have ap:=LV (z:=[]) (v:=.str (ch c)) a.pbk (by simp) (by simp[ax]);refine kq ?_;refine kq0 _ ?_ ⟨ln,x,pos,[c],a.back [c] (by simp) (by simpa using hc),by rw[e1];rfl⟩ (.set (.inr (.inr rfl)));unfold d0;rw[aq,ai (fP (v:=.ref A.p3) rfl g),aq,uD,kd,Option.bind_some,aq,ah,ai (ao (v:=.str (ch c)) rfl),aj];show Y (au (nh [] .d8 .append (.ref A.p3) [.str (ch c)])) _ ⟨H,TL A (ch c) v4⟩=_;rw[aY,ap];rfl
theorem bR.Ms(R:bR H A v (.str t) s):∀{G:Prop},(∀H',(Y (Z (.str " ")) λu=>Y (af 0) λa=>Y (au (aA [] 11 a u)) λ_=>Z Fl.next) ⟨H,TL A w v4⟩=some (Fl.next,⟨H',TL A w v4⟩)->bR H' A (.str " ") (.str t) s->dP A H H'->G)->G:=by intro Gq kq0;refine cps λPq kq=>?_;obtain⟨ln,x,pos,pb,a,e1⟩:=R;refine kq ?_;exact kq0 _ (kS (u:=.str " ") rfl rfl a.ins (.inl rfl) (by show 11<23;decide)) ⟨ln,x,pos,pb,a.lex (.str " ") (.str t) ln,e1⟩ (.set (.inl rfl))
theorem bR.pJ(R:bR H A v (.str t) s)(h:∀ln,(jp A.io A.p1 A.p2 A.p3 v (.str t) ln)[i]?=some (some u))(nt:bN u=true):cj i (.ref A.m) H=some u:=by obtain⟨ln,x,pos,pb,a,_⟩:=R;exact oK a.ins (.inl rfl) (h ln) nt
theorem BN(R:bR H A v (.str t) s)(ht:t.length≠0)(hl:t.length<=1000):iL [Y (Y (af 0) λo=>az 15 o) aD,bv [Y (Y (af 0) λo=>az 2 o) aD,Y (af 1) aD]] ⟨H,TL A w v4⟩=some (true,⟨H,TL A w v4⟩):=Jb (hY (fP rfl (R.pJ (u:=.str t) (λ_=>rfl) rfl)) (by rw[pQ t (by have:ax=1048576:=rfl;lia),q1w ht]))
theorem rM(R:cX H A (.str w) v s)(hw:w="a" \/ w="c"):ak (fD L n k) (Z .next) ⟨H,TL A t v4⟩=yY L n k ⟨H,TL A t v4⟩:=by
 refine(Xn R (.inr hw)).trans ?_;have e1:bC .Eq H (.str w) (.str " ")=some false:=by rw[eq_str];rcases hw with rfl | rfl<;>exact q1s some (by decide)
 have e2:bC .In H (.str w) (.str "'\"")=some false:=by rw[uW];rcases hw with rfl | rfl<;>exact q1s some (by decide +kernel)
 have e3:bC .In H (.str w) (.str "\\")=some false:=by rw[uW];rcases hw with rfl | rfl<;>exact q1s some (by decide +kernel)
 have e4:bC .In H (.str w) (.tup [.str "a",.str "c"])=some true:=by rcases hw with rfl | rfl<;>rfl
 refine(cO (R.tA (v:=.str w) (λ_=>rfl) rfl e1)).trans ((cO (R.tAA (v:=.str w) (λ_=>rfl) rfl (λ_=>rfl) rfl e2)).trans ((cO (R.tAA (v:=.str w) (λ_=>rfl) rfl (λ_=>rfl) rfl e3)).trans (f7 ?_)));exact aS (fP rfl (R.get (v:=.str w) (λ_=>rfl) rfl)) rfl e4
theorem sD(R:cX H A (.str w) (.str t) [])(hw:w="a" \/ w="c"):∃H',ak (fD L n k) (Z .next) ⟨H,TL A "" v4⟩=some (.brk,⟨H',TL A "" v4⟩)/\bR H' A .none (.str t) []/\dP A H H':=by rw[rM R hw];refine R.sO (w:="") (v4:=v4) (e:=Z .none) rfl λH2 e2 R2 K2=>?_;exact⟨H2,(f7 (tE rfl)).trans (ag e2 (eV rfl)),R2.S,K2⟩
theorem nN(R:cX H A (.str w) (.str t) r)(hw:w="a" \/ w="c")(ht:t.length≠0)(hl:t.length<=1000)(C:Cls c)(hS:nu c=true):∃H',ak (fD L n k) (Z .next) ⟨H,TL A (ch c) v4⟩=some (.brk,⟨H',TL A (ch c) v4⟩)/\bR H' A (.str " ") (.str t) r/\dP A H H':=by
 rw[rM R hw];have t6:bC .In H (.str (ch c)) (.str " \t\r\n")=some true:=by simp only[uW,C.s,hS]
 refine R.sO (w:=ch c) (v4:=v4) (e:=Z (.str " ")) rfl λH2 e2 R2 K2=>?_;refine⟨H2,(cO (Zk c)).trans ((f7 (R.tL (λ_=>rfl) rfl t6)).trans (ag (dW (R.tA (v:=.int 0) (λ_=>rfl) rfl rfl)) (ag e2 (eV ?_)))),R2.S,K2⟩;exact(fU (GG R2 ht hl)).trans (eV rfl)
theorem xf(R:cX H A (.str w) (.str t) r)(hw:w="a" \/ w="c")(C:Cls c)(hS:nu c=false):ak (fD L n k) (Z .next) ⟨H,TL A (ch c) v4⟩=yZ L n k ⟨H,TL A (ch c) v4⟩:=by
 rw[rM R hw];have t6:bC .In H (.str (ch c)) (.str " \t\r\n")=some false:=by simp only[uW,C.s,hS]
 have t4:bC .In H (.str (ch c)) (.str "#")=some false:=by simp only[uW,C.com]
 exact(cO (Zk c)).trans ((cO (R.tL (λ_=>rfl) rfl t6)).trans (cO (R.tL (λ_=>rfl) rfl t4)))
theorem w9(R:bR H A (.str "a") (.str t) s)(ht:t.length≠0)(hl:t.length<=999):∃H' fl,cG L n k ⟨H,[some (.ref A.m),some (.bool false),some (.str " "),v3,v4,none,none,none]⟩=some (fl,⟨H',TL A (z8 s) v4⟩)/\TurnOk A H (cH .wd t s) H' fl:=by
 have al:=R.al;refine jV (fl:=.next) (A':=Z .next) R λH1 R1 K1=>?_;cases s with
 |nil=>
  refine cps λPq kq=>?_;obtain⟨H2,e2,R2,K2⟩:=sD (L:=L) (n:=n) (k:=k) (v4:=v4) R1 (.inl rfl);refine kq ?_;exact⟨H2,.brk,e2,rfl,R2,K1.trans K2⟩
 |cons c r=>
  have hc:=al c (q0g ..);have C:=rS hc;by_cases hS:nu c=true
  ·have hP:cH LS.wd t (c::r)=(Fl.brk,LS.sp,t,r):=by unfold cH;simp only[hS,if_true]
   rw[hP];refine cps λPq kq=>?_;obtain⟨H2,e2,R2,K2⟩:=nN (L:=L) (n:=n) (k:=k) (v4:=v4) R1 (.inl rfl) ht (by lia) C hS;refine kq ?_;exact⟨H2,.brk,e2,rfl,R2,K1.trans K2⟩
  ·rw[q1r] at hS
   have t9:bC .In H1 (.str (ch c)) (.str "\\")=some false:=by rw[uW,C.TE]
   have t8:bC .In H1 (.str (ch c)) (.str "'\"")=some false:=by rw[uW,C.quo]
   have t5:bC .In H1 (.str (ch c)) (.str l5)=some (mS c):=by rw[uW,C.word]
   have on:∀{z},y0 L n k ⟨H1,TL A (ch c) v4⟩=z->ak (fD L n k) (Z .next) ⟨H1,TL A (ch c) v4⟩=z:=λh=>
    (xf R1 (.inl rfl) C hS).trans ((cO (R1.tA (v:=.str "a") (λ_=>rfl) rfl rfl)).trans ((cO (R1.TE (λ_=>rfl) rfl t8)).trans ((cO (R1.TE (λ_=>rfl) rfl t9)).trans h)))
   by_cases hW:mS c=true
   ·rw[hW] at t5
    have hP:cH LS.wd t (c::r)=(Fl.next,LS.wd,t++ch c,r):=by unfold cH;simp only[hS,hW,if_true,Bool.false_eq_true,if_false]
    rw[hP];refine cps λPq kq=>?_;refine R1.NI (w:=ch c) (v4:=v4) (by have h1:(ch c).length=1:=rfl;have:ax=1048576:=rfl;lia) λH2 e2 R2 K2=>?_;refine kq ?_;exact⟨H2,.next,on ((f7 (Jb (R1.tL (λ_=>rfl) rfl t5))).trans (ag e2 rfl)),rfl,R2.S,K1.trans K2⟩
   ·rw[q1r] at hW
    rw[hW] at t5;have hP:cH LS.wd t (c::r)=(Fl.brk,LS.sp,t,c::r):=by unfold cH;simp only[hS,hW,Bool.false_eq_true,if_false]
    rw[hP];refine cps λPq kq=>?_;refine qh (v4:=v4) R1 hc λH2 e2 R2 K2=>?_;refine R2.Ms (w:=ch c) (v4:=v4) λH3 e3 R3 K3=>?_;refine kq ?_;refine⟨H3,.brk,on ((cO (rf (R1.tL (λ_=>rfl) rfl t5) (rf (R1.tL (λ_=>rfl) rfl t8) (rf (r:=[]) (gS (R1.tT (v:=.bool false) (λ_=>rfl) rfl rfl)) rfl)))).trans (ag (σ':=⟨H2,TL A (ch c) v4⟩) ?_ (ag (σ':=⟨H2,TL A (ch c) v4⟩) ?_ (ag e3 (eV ?_))))),rfl,R3,K1.trans (K2.trans K3)⟩
    ·have tp:(Y (Y (af 0) λo=>Y (dj 743 o) λ_=>Y (au (o0 L (n+3) k [o])) λv=>if bN v then Z v else(dead:M V)) aD) ⟨H1,TL A (ch c) v4⟩=some (true,⟨H1,TL A (ch c) v4⟩):=by
      refine cps λPq kq=>?_;obtain⟨ln,x,pos,a,e1⟩:=R1;have i1:eB 743 (.ref A.m) H1=true:=isIn a.ins;refine kq ?_;refine hY (a:=.str ":()") ?_ rfl;rw[ai (ao (v:=.ref A.m) rfl),dG,q1k i1,aY,n9 a.ins];rfl
     exact(fU tp).trans (ag e2 rfl)
    ·exact dW (aS (fP rfl (R2.pJ (u:=.int 0) (λ_=>rfl) rfl)) rfl rfl)
    ·exact(fU (BN R3 ht (by lia))).trans (eV rfl)
theorem xe(R:bR H A (.str "c") (.str t) s)(ht:t.length≠0)(hl:t.length<=999):∃H' fl,cG L n k ⟨H,[some (.ref A.m),some (.bool false),some (.str " "),v3,v4,none,none,none]⟩=some (fl,⟨H',TL A (z8 s) v4⟩)/\TurnOk A H (cH .pn t s) H' fl:=by
 have al:=R.al;refine jV (fl:=.next) (A':=Z .next) R λH1 R1 K1=>?_;cases s with
 |nil=>
  refine cps λPq kq=>?_;obtain⟨H2,e2,R2,K2⟩:=sD (L:=L) (n:=n) (k:=k) (v4:=v4) R1 (.inr rfl);refine kq ?_;exact⟨H2,.brk,e2,rfl,R2,K1.trans K2⟩
 |cons c r=>
  have hc:=al c (q0g ..);have C:=rS hc;by_cases hS:nu c=true
  ·have hP:cH LS.pn t (c::r)=(Fl.brk,LS.sp,t,r):=by unfold cH;simp only[hS,if_true]
   rw[hP];refine cps λPq kq=>?_;obtain⟨H2,e2,R2,K2⟩:=nN (L:=L) (n:=n) (k:=k) (v4:=v4) R1 (.inr rfl) ht (by lia) C hS;refine kq ?_;exact⟨H2,.brk,e2,rfl,R2,K1.trans K2⟩
  ·rw[q1r] at hS
   have tp:bC .In H1 (.str (ch c)) (.str ":()")=some (oH c):=by simp only[uW,C.pun]
   have on:∀{z},y1 L n k ⟨H1,TL A (ch c) v4⟩=z->ak (fD L n k) (Z .next) ⟨H1,TL A (ch c) v4⟩=z:=λh=>
    (xf R1 (.inr rfl) C hS).trans ((f7 (R1.tA (v:=.str "c") (λ_=>rfl) rfl rfl)).trans h)
   by_cases hQ:oH c=true
   ·rw[hQ] at tp
    have hP:cH LS.pn t (c::r)=(Fl.next,LS.pn,t++ch c,r):=by unfold cH;simp only[hS,hQ,if_true,Bool.false_eq_true,if_false]
    rw[hP];refine cps λPq kq=>?_;refine R1.NI (w:=ch c) (v4:=v4) (by have h1:(ch c).length=1:=rfl;have:ax=1048576:=rfl;lia) λH2 e2 R2 K2=>?_;refine kq ?_;exact⟨H2,.next,on ((f7 (R1.tP tp)).trans (ag e2 rfl)),rfl,R2.S,K1.trans K2⟩
   ·rw[q1r] at hQ
    rw[hQ] at tp;have hP:cH LS.pn t (c::r)=(Fl.brk,LS.sp,t,c::r):=by unfold cH;simp only[hS,hQ,Bool.false_eq_true,if_false]
    rw[hP];have t6:bC .NotIn H1 (.str (ch c)) (.str " \t\r\n")=some true:=by simp only[ZB,C.s,hS];rfl
    refine cps λPq kq=>?_;refine qh (v4:=v4) R1 hc λH2 e2 R2 K2=>?_;refine R2.Ms (w:=ch c) (v4:=v4) λH3 e3 R3 K3=>?_;refine kq ?_;exact⟨H3,.brk,on ((cO (R1.tP tp)).trans (ag ((fU (R1.tL (λ_=>rfl) rfl t6)).trans (ag e2 rfl)) (ag e3 (eV rfl)))),rfl,R3,K1.trans (K2.trans K3)⟩
end
section
variable{L:Nat}{t:M Bool}{b:M Fl}{σ σ1 σ2:St}{z:Option (Fl×St)}{v:V}
theorem Gu(h:t σ=some (false,σ1)):bG (L+1) t b σ=some (.next,σ1):=by
 show Y t _ _=_
 (refine(ai h).trans ?_);rfl
theorem NP(h:t σ=some (true,σ1))(h2:b σ1=some (.brk,σ2)):bG (L+1) t b σ=some (.next,σ2):=by
 show Y t _ _=_
 (refine(ai h).trans ?_)
 show Y b _ _=_
 (refine(ai h2).trans ?_);rfl
theorem NO(h:t σ=some (true,σ1))(h2:b σ1=some (.ret v,σ2)):bG (L+1) t b σ=some (.ret v,σ2):=by
 show Y t _ _=_
 (refine(ai h).trans ?_)
 show Y b _ _=_
 (refine(ai h2).trans ?_);rfl
theorem m6(hf:fl=.next\/fl=.cont)(h:t σ=some (true,σ1))(h2:b σ1=some (fl,σ2))(k:bG L t b σ2=z):bG (L+1) t b σ=z:=by
 show Y t _ _=_
 (refine(ai h).trans ?_)
 show Y b _ _=_
 (refine(ai h2).trans ?_)
 rcases hf with rfl | rfl<;>exact k
end
noncomputable abbrev Tk:=LS×Str×List Nat
noncomputable def gr(t:Str):List Nat->Tk
 |[]=>(.no,t,[])
 |c::r=>if nu c then(.sp,t,r) else if mS c then gr (t++ch c) r else(.sp,t,c::r)
noncomputable def runC(t:Str):List Nat->Tk
 |[]=>(.no,t,[])
 |c::r=>if nu c then(.sp,t,r) else if oH c then runC (t++ch c) r else(.sp,t,c::r)
noncomputable def dB:List Nat->Tk
 |[]=>(.no,"",[])
 |c::r=>if nu c then dB r else if mS c then gr (ch c) r else if oH c then runC (ch c) r else(.sp,ch c,r)
noncomputable def eu(st:LS)(s:List Nat):Tk:=match st with
 |.no=>(.no,"",s.tail)
 |_=>dB s
theorem lG(t:Str)(c:Nat):(t++ch c).length=t.length+1:=by rw[Str.length_append];rfl
section
variable{n k:Nat}{H:List O}{A:Lx}{v:V}{v4:Option V}
abbrev TB:M Bool:=Y (Z (.bool true)) aD
inductive a0M(L n k:Nat)(A:Lx)(H:List O)(v3 v4:Option V)(p:Tk):Prop
 |mk (H':_) (w:_) (h1:bG L TB (cG L n k) ⟨H,[some (.ref A.m),some (.bool false),some (.str " "),v3,v4,none,none,none]⟩=some (.next,⟨H',TL A w v4⟩)) (h2:bR H' A p.1.v (.str p.2.1) p.2.2) (h3:dP A H H'):a0M L n k A H v3 v4 p
end
section
variable{L n k:Nat}{A:Lx}{v:V}{v4:Option V}
theorem qN(h:cG L n k ⟨H,[some (.ref A.m),some (.bool false),some (.str " "),v3,v4,none,none,none]⟩=some (.brk,⟨H',TL A w v4⟩))(T:TurnOk A H p H' .brk):∃H' w,bG (m+1) TB (cG L n k) ⟨H,[some (.ref A.m),some (.bool false),some (.str " "),v3,v4,none,none,none]⟩=some (.next,⟨H',TL A w v4⟩)/\bR H' A p.2.1.v (.str p.2.2.1) p.2.2.2/\dP A H H':=⟨H',w,NP rfl h,T.r,T.k⟩
theorem Bv{H H1:List O}{m:Nat}{v3:Option V}{w:Str}{fl:Fl}(hf:fl=.next\/fl=.cont){q:Tk}(h:cG L n k ⟨H,[some (.ref A.m),some (.bool false),some (.str " "),v3,v4,none,none,none]⟩=some (fl,⟨H1,TL A w v4⟩))(K:dP A H H1)(r:∃H' w',bG m TB (cG L n k) ⟨H1,TL A w v4⟩=some (.next,⟨H',TL A w' v4⟩)/\bR H' A q.1.v (.str q.2.1) q.2.2/\dP A H1 H'):∃H' w',bG (m+1) TB (cG L n k) ⟨H,[some (.ref A.m),some (.bool false),some (.str " "),v3,v4,none,none,none]⟩=some (.next,⟨H',TL A w' v4⟩)/\bR H' A q.1.v (.str q.2.1) q.2.2/\dP A H H':=by obtain⟨H',w',e,a,b⟩:=r;exact⟨H',w',m6 hf rfl h e,a,K.trans b⟩
theorem Nn:∀(s:List Nat){H:List O}{t:Str}{m:Nat}{v3:Option V},s.length<m->bR H A (.str "a") (.str t) s->t.length≠0->t.length+s.length<=999->∃H' w,bG m TB (cG L n k) ⟨H,[some (.ref A.m),some (.bool false),some (.str " "),v3,v4,none,none,none]⟩=some (.next,⟨H',TL A w v4⟩)/\bR H' A (gr t s).1.v (.str (gr t s).2.1) (gr t s).2.2/\dP A H H'
 |s,H,t,0,v3,h,_,_,_=>q1t h (q2f _)
 |[],H,t,m+1,v3,h,R,ht,hl=>by
  obtain⟨H',fl,e,T⟩:=w9 (L:=L) (n:=n) (k:=k) (v4:=v4) (v3:=v3) R ht (by simpa using hl);have hf:=T.f;subst hf;exact qN (p:=(.brk,.no,t,[])) e T
 |c::r,H,t,m+1,v3,h,R,ht,hl=>by
  simp only[List.length_cons] at h hl;obtain⟨H',fl,e,T⟩:=w9 (L:=L) (n:=n) (k:=k) (v4:=v4) (v3:=v3) R ht (by lia);unfold cH at T;unfold gr;dsimp only at T;split at T
  ·rename_i hS
   have hf:=T.f;subst hf;rw[q1k hS];exact qN e T
  ·rename_i hS
   rw[q1l hS];split at T
   ·rename_i hW
    rw[q1k hW];exact Bv (.inl T.f) e T.k (Nn r (by lia) T.r (by show(t++ch c).length≠0;rw[lG];lia) (by show(t++ch c).length+_<=_;rw[lG];lia))
   ·rename_i hW
    rw[q1l hW];have hf:=T.f;subst hf;exact qN e T
theorem Nm:∀(s:List Nat){H:List O}{t:Str}{m:Nat}{v3:Option V},s.length<m->bR H A (.str "c") (.str t) s->t.length≠0->t.length+s.length<=999->∃H' w,bG m TB (cG L n k) ⟨H,[some (.ref A.m),some (.bool false),some (.str " "),v3,v4,none,none,none]⟩=some (.next,⟨H',TL A w v4⟩)/\bR H' A (runC t s).1.v (.str (runC t s).2.1) (runC t s).2.2/\dP A H H'
 |s,H,t,0,v3,h,_,_,_=>q1t h (q2f _)
 |[],H,t,m+1,v3,h,R,ht,hl=>by
  obtain⟨H',fl,e,T⟩:=xe (L:=L) (n:=n) (k:=k) (v4:=v4) (v3:=v3) R ht (by simpa using hl);have hf:=T.f;subst hf;exact qN (p:=(.brk,.no,t,[])) e T
 |c::r,H,t,m+1,v3,h,R,ht,hl=>by
  simp only[List.length_cons] at h hl;obtain⟨H',fl,e,T⟩:=xe (L:=L) (n:=n) (k:=k) (v4:=v4) (v3:=v3) R ht (by lia);unfold cH at T;unfold runC;dsimp only at T;split at T
  ·rename_i hS
   have hf:=T.f;subst hf;rw[q1k hS];exact qN e T
  ·rename_i hS
   rw[q1l hS];split at T
   ·rename_i hW
    rw[q1k hW];exact Bv (.inl T.f) e T.k (Nm r (by lia) T.r (by show(t++ch c).length≠0;rw[lG];lia) (by show(t++ch c).length+_<=_;rw[lG];lia))
   ·rename_i hW
    rw[q1l hW];have hf:=T.f;subst hf;exact qN e T
theorem Nk:∀(s:List Nat){H:List O}{m:Nat}{v3:Option V},s.length<m->bR H A (.str " ") (.str "") s->s.length<=900->∃H' w,bG m TB (cG L n k) ⟨H,[some (.ref A.m),some (.bool false),some (.str " "),v3,v4,none,none,none]⟩=some (.next,⟨H',TL A w v4⟩)/\bR H' A (dB s).1.v (.str (dB s).2.1) (dB s).2.2/\dP A H H'
 |s,H,0,v3,h,_,_=>q1t h (q2f _)
 |[],H,m+1,v3,h,R,hl=>by
  obtain⟨H',fl,e,T⟩:=xc (L:=L) (n:=n) (k:=k) (v4:=v4) (v3:=v3) R rfl;have hf:=T.f;subst hf;exact qN (p:=(.brk,.no,"",[])) e T
 |c::r,H,m+1,v3,h,R,hl=>by
  simp only[List.length_cons] at h hl;obtain⟨H',fl,e,T⟩:=xc (L:=L) (n:=n) (k:=k) (v4:=v4) (v3:=v3) R rfl;unfold cH at T;unfold dB;dsimp only at T;split at T
  ·rename_i hS
   rw[q1k hS];exact Bv (.inr T.f) e T.k (Nk r (by lia) T.r (by lia))
  ·rename_i hS
   rw[q1l hS];split at T
   ·rename_i hW
    rw[q1k hW];exact Bv (.inl T.f) e T.k (Nn r (by lia) T.r (by show(1:Nat)≠0;decide) (by show 1+_<=999;lia))
   ·rename_i hW
    rw[q1l hW];split at T
    ·rename_i hQ
     rw[q1k hQ];exact Bv (.inl T.f) e T.k (Nm r (by lia) T.r (by show(1:Nat)≠0;decide) (by show 1+_<=999;lia))
    ·rename_i hQ
     rw[q1l hQ];have hf:=T.f;subst hf;exact qN e T
noncomputable def nP(t:Str):V:=if t.length=0 then .none else .str t
theorem BP{H:List O}{st:LS}{s:List Nat}(hL:1000<L)(JK:st=.sp\/(st=.no/\s=[]))(R:bR H A st.v (.str "") s)(hl:s.length<=900):∃H',Fj L n k [.ref A.m] H=some (nP (eu st s).2.1,H')/\bR H' A (eu st s).1.v (.str "") (eu st s).2.2/\dP A H H':=by
 have main:∃H' w,bG L TB (cG L n k) ⟨H,[some (.ref A.m),some (.bool false),some (.str " "),none,none,none,none,none]⟩=some (.next,⟨H',TL A w none⟩)/\bR H' A (eu st s).1.v (.str (eu st s).2.1) (eu st s).2.2/\dP A H H':=by
  rcases JK with rfl | ⟨rfl,rfl⟩
  ·exact Nk s (by lia) R hl
  ·obtain⟨H',fl,e,T⟩:=GC (L:=L) (n:=n) (k:=k) (v4:=none) (v3:=none) (t:="") R
   have hf:=T.f;subst hf;obtain⟨m,rfl⟩:∃m,L=m+1:=⟨L-1,by lia⟩
   exact qN (m:=m) e T
 obtain⟨H1,w,e1,R1,K1⟩:=main;generalize eu st s=p at R1;obtain⟨B8,t,s'⟩:=p;dsimp only at R1 ⊢;have g15:cj 15 (.ref A.m) H1=some (.str t):=R1.pJ (λ_=>rfl) rfl;have e2:xK L n k ⟨H1,TL A w none⟩=some (.next,⟨H1,TL A w (some (.str t))⟩):=by
  show Y _ _ _=_
  (refine(ai (fP (v:=.str t) rfl g15)).trans ?_);rfl
 obtain⟨ln,x,pos,pb,a,e⟩:=R1;have e3:xJ L n k ⟨H1,TL A w (some (.str t))⟩=some (.next,⟨H1.set A.m (.inst aZ (jp A.io A.p1 A.p2 A.p3 B8.v (.str "") ln)),TL A w (some (.str t))⟩):=kS (u:=.str "") rfl rfl a.ins (.inl rfl) (by show 15<23;decide);have R2:bR (H1.set A.m (.inst aZ (jp A.io A.p1 A.p2 A.p3 B8.v (.str "") ln))) A B8.v (.str "") s':=⟨ln,x,pos,pb,a.lex B8.v (.str "") ln,e⟩
 have K2:dP A H1 (H1.set A.m (.inst aZ (jp A.io A.p1 A.p2 A.p3 B8.v (.str "") ln))):=.set (.inl rfl);generalize H1.set A.m (.inst aZ (jp A.io A.p1 A.p2 A.p3 B8.v (.str "") ln))=H2 at e3 R2 K2;refine⟨H2,?_,R2,K1.trans K2⟩;have g2:cj 2 (.ref A.m) H2=some (.bool true):=R2.pJ (λ_=>rfl) rfl;have YT:cj 14 (.ref A.m) H2=some (.int 0):=R2.pJ (λ_=>rfl) rfl;have e5:∀v4,xI L n k ⟨H2,TL A w v4⟩=some (.next,⟨H2,TL A w v4⟩):=λv4=>dW (aS (fP (v:=.int 0) rfl YT) rfl rfl);have eq:bC .Eq H2 (.str t) (.str "")=some (t==("" : Str)):=rfl;have hd:∀b,(t==("" : Str))=b->bv [Y (Y (af 0) λo=>az 2 o) aD,Y (Y (af 1) aD) λt=>Z (!t),Y (af 4) λa=>Y (Z (.str "")) λb=>aF .Eq a b] ⟨H2,TL A w (some (.str t))⟩=some (b,⟨H2,TL A w (some (.str t))⟩):=λb hb=>by
  rw[hb] at eq;refine eH (hY (fP (v:=.bool true) rfl g2) rfl) (eH (not_of (hY (a:=.bool false) rfl rfl)) ?_);cases b with
  |true=>exact eH (r:=[]) (aS (ao (v:=.str t) rfl) rfl eq) rfl
  |false=>exact gS (aS (ao (v:=.str t) rfl) rfl eq)
 by_cases h0:t.length=0
 ·have ht:(t==("" : Str))=true:=by
   have:t.cps=#[]:=Array.eq_empty_of_size_eq_zero h0;obtain⟨q⟩:=t;simp only at this;subst this;rfl
  unfold nP;rw[q1k h0];refine ux (fl:=.ret _) (l':=TL A w (some .none)) ?_;exact ag rfl (ag rfl (ag e1 (ag e2 (ag e3 (ag ((fU (hd true ht)).trans (ag (σ':=⟨H2,TL A w (some .none)⟩) rfl rfl)) (ag (e5 _) (bl rfl)))))))
 ·have ht:(t==("" : Str))=false:=by
   rw[q2d];intro h;subst h;exact h0 rfl
  unfold nP;rw[q1l h0];refine ux (fl:=.ret _) (l':=TL A w (some (.str t))) ?_;exact ag rfl (ag rfl (ag e1 (ag e2 (ag e3 (ag (dW (hd false ht)) (ag (e5 _) (bl rfl)))))))
theorem uj{H:List O}{st:LS}{s:List Nat}(hL:1000<L)(JK:st=.sp\/(st=.no/\s=[]))(R:bR H A st.v (.str "") s)(hl:s.length<=900):∃H',Fp L n k [.ref A.m] H=some (nP (eu st s).2.1,H')/\bR H' A (eu st s).1.v (.str "") (eu st s).2.2/\dP A H H':=by
 obtain⟨H',e1,R',K⟩:=BP (L:=L) (n:=n+4) (k:=k) (A:=A) hL JK R hl;refine⟨H',?_,R',K⟩;have g12:cj 12 (.ref A.m) H=some (.ref A.p1):=R.pJ (λ_=>rfl) rfl;have q1:H[A.p1]?=some (.d8 []):=by obtain⟨ln,x,pos,pb,a,e⟩:=R;exact a.q1
 have q2:H'[A.p2]?=some (.d8 []):=by obtain⟨ln,x,pos,pb,a,e⟩:=R';exact a.q2
 have i1:eB 743 (.ref A.m) H=true:=by obtain⟨ln,x,pos,pb,a,e⟩:=R;exact isIn a.ins
 have g17:cj 17 (.ref A.m) H'=some .none:=R'.pJ (λ_=>rfl) rfl;have g16:cj 16 (.ref A.m) H'=some (.ref A.p2):=R'.pJ (λ_=>rfl) rfl;have g3:cj 3 (.ref A.m) H'=some .none:=R'.pJ (λ_=>rfl) rfl;have YT:cj 14 (.ref A.m) H'=some (.int 0):=R'.pJ (λ_=>rfl) rfl;have s1:MR L n k ⟨H,[some (.ref A.m),none,none,none,none,none,none,none]⟩=some (.next,⟨H,[some (.ref A.m),none,none,none,none,none,none,none]⟩):=
  dW (hY (fP rfl g12) (kZ q1 (by first | rfl | simp)))
 have s2:∀v,Fj L (n+4) k [.ref A.m] H=some (v,H')->vE L n k ⟨H,[some (.ref A.m),none,none,none,none,none,none,none]⟩=some (.next,⟨H',[some (.ref A.m),none,some v,none,none,none,none,none]⟩):=λv ev=>by
  clear s1 g17 g16 g3 YT g12 q1 q2 e1 R R';unfold vE;simp only[bj,↓aR,↓aq,↓mn,↓Yx,↓aC,dG,↓aj,↓reduceIte, *]
 have s3:∀v,CK L n k ⟨H',[some (.ref A.m),none,some v,none,none,none,none,none]⟩=some (.next,⟨H',[some (.ref A.m),none,some v,none,none,none,none,none]⟩):=λv=>dW (aS (fP rfl g17) rfl rfl);obtain⟨m,rfl⟩:∃m,L=m+1:=⟨L-1,by lia⟩
 generalize (eu st s).2.1=t at e1;unfold nP at e1 ⊢;by_cases h0:t.length=0
 ·rw[q1k h0] at e1 ⊢
  refine uB (fl:=.ret _) (l':=[some (.ref A.m),none,some .none,none,none,none,none,none]) ?_;refine ag s1 (ag (s2 _ e1) (ag (s3 _) (bl ?_)));refine NO (aS (ao (v:=.none) rfl) (fP rfl g3) rfl) ?_;refine bl ((fU (not_of (hY (fP rfl g16) (kZ q2 (by first | rfl | simp))))).trans (bl ?_));show Y _ _ _=_
  (refine(ai (fP (v:=.none) rfl g3)).trans ?_);rfl
 ·rw[q1l h0] at e1 ⊢
  refine uB (fl:=.ret _) (l':=[some (.ref A.m),none,some (.str t),none,none,none,none,none]) ?_;refine ag s1 (ag (s2 _ e1) (ag (s3 _) (ag (Gu (aS (ao (v:=.str t) rfl) (fP rfl g3) rfl)) (ag (dW (aS (fP rfl YT) rfl rfl)) (bl rfl)))))
end
structure Mk(H0:List O)(C:Addr)(m:Nat)(fs:List (Option V))(F:List (Nat×O))(H:List O):Prop where
 ins:H[m]?=some (.inst C fs)
 fix:∀p∈F,p.1≠m/\H[p.1]?=some p.2/\H0.length<=p.1
 low:H0.length<=H.length/\∀j,j<H0.length->H[j]?=H0[j]?
 hm:H0.length<=m
 hC:C=aZ\/C=aL
 len:fs.length=23
section
variable{H0 H:List O}{C:Addr}{m:Nat}{fs:List (Option V)}{F:List (Nat×O)}{l:List (Option V)}{u:V}
theorem Mk.set(M:Mk H0 C m fs F H)(TD:List (Option V))(hl:TD.length=23):Mk H0 C m TD F (H.set m (.inst C TD)):=⟨bx M.ins,λp hp=>⟨(M.fix p hp).1,ay (M.fix p hp).1 (M.fix p hp).2.1,(M.fix p hp).2.2⟩,⟨by simp[M.low.1],λj hj=>by rw[q0j (by have:=M.hm;lia)];exact M.low.2 j hj⟩,M.hm,M.hC,hl⟩
theorem Mk.app(M:Mk H0 C m fs F H)(o:O):Mk H0 C m fs ((H.length,o)::F) (H++[o]):=by
 have hl:=(q0b.mp M.ins).1;refine⟨ar M.ins,λp hp=>?_,⟨by simp;have:=M.low.1;lia,λj hj=>by rw[q0e (q0l hj M.low.1)];exact M.low.2 j hj⟩,M.hm,M.hC,M.len⟩;rcases q0m.mp hp with rfl | hp
 ·exact⟨q1d hl,bX _,M.low.1⟩
 ·exact⟨(M.fix p hp).1,ar (M.fix p hp).2.1,(M.fix p hp).2.2⟩
theorem Mk.kS(M:Mk H0 C m fs F H)(h0:l[0]?=some (some (.ref m)))(he:e ⟨H,l⟩=some (u,⟨H,l⟩))(hi:i<23):∀{G:Prop},(∀H',(Y e λu=>Y (af 0) λa=>Y (au (aA [] i a u)) λ_=>Z Fl.next) ⟨H,l⟩=some (Fl.next,⟨H',l⟩)->Mk H0 C m (fs.set i (some u)) F H'->G)->G:=λkq0=>kq0 _ (Internal.kS he h0 M.ins M.hC (by rw[M.len];exact hi)) (M.set _ (by rw[q1n];exact M.len))
theorem Mk.d8(M:Mk H0 C m fs F H)(h0:l[0]?=some (some (.ref m)))(hi:i<23):∀{G:Prop},(∀H' q,(Y (Y (an []) λvs=>au (blt .deque vs)) λu=>Y (af 0) λa=>Y (au (aA [] i a u)) λ_=>Z Fl.next) ⟨H,l⟩=some (Fl.next,⟨H',l⟩)->Mk H0 C m (fs.set i (some (.ref q))) ((q,.d8 [])::F) H'->q=H.length->H'.length=H.length+1->G)->G:=by intro Gq kq0;have M1:=M.app (.d8 []);refine kq0 _ H.length ?_ (M1.set (fs.set i (some (.ref H.length))) (by rw[q1n];exact M.len)) rfl (by simp);have e:(Y (an []) λvs=>au (blt .deque vs)) ⟨H,l⟩=some (.ref H.length,⟨H++[.d8 []],l⟩):=rfl;rw[ai e,ai (ao h0),aY,zQ M1.ins M.hC (by rw[M.len];exact hi)];rfl
theorem Mk.get(M:Mk H0 C m fs F H)(h:fs[i]?=some (some v))(nt:bN v=true):cj i (.ref m) H=some v:=oK M.ins M.hC h nt
theorem Mk.aug(M:Mk H0 C m fs F H)(ZU:x++y=z)(h0:l[0]?=some (some (.ref m)))(hi:i<23)(h:fs[i]?=some (some (.str x)))(hl:x.length+y.length<=ax):∀{G:Prop},(∀H',(Y (af 0) λa=>Y (az i a) λx=>Y (Z (.str y)) λy=>Y (au (dN [] x y)) λv=>Y (au (aA [] i a v)) λ_=>Z Fl.next) ⟨H,l⟩=some (Fl.next,⟨H',l⟩)->Mk H0 C m (fs.set i (some (.str z))) F H'->G)->G:=by intro Gq kq0;subst ZU;refine kq0 _ ?_ (M.set (fs.set i (some (.str (x++y)))) (by rw[q1n];exact M.len));rw[ai (ao h0),o4,M.get h rfl,Option.bind_some,aG,aY,r0 [] x y hl];show Y (au (aA [] i (.ref m) (.str (x++y)))) _ ⟨H,l⟩=_;rw[aY,zQ M.ins M.hC (by rw[M.len];exact hi)];rfl
theorem s8(h0:lF r bs=lc)(h:mb ⟨H,lc⟩=some (fl,⟨H',l'⟩)):mj r mb bs H=some (dX fl,H'):=by unfold mj;simp only[h0,h];rfl
end
section
variable{L n k:Nat}{H:List O}{m:Nat}{x:Str}
theorem BK(M:Mk H0 aL m fs F H)(h:fs[20]?=some (some (.str "\n"))):Fi L n k [.ref m,.str x] H=some (.str x,H):=by
 refine E2 (fl:=.ret _) (l':=[some (.ref m),some (.str x),some (.str "\n")]) ?_;have e1:Mu L n k ⟨H,[some (.ref m),some (.str x),none]⟩=some (.next,⟨H,[some (.ref m),some (.str x),some (.str "\n")]⟩):=by
  show Y _ _ _=_
  (refine(ai (fP (v:=.str "\n") rfl (M.get h rfl))).trans ?_);rfl
 refine ag e1 (ag (σ':=⟨H,[some (.ref m),some (.str x),some (.str "\n")]⟩) (dW (aS (a:=.str "\n") rfl rfl rfl)) (ag (σ':=⟨H,[some (.ref m),some (.str x),some (.str "\n")]⟩) (dW ?_) (bl rfl)));exact rf (aS (a:=.str "\n") (b:=.str "\r") rfl rfl rfl) (rf (r:=[]) (aS (a:=.str "\n") (b:=.str "\r\n") rfl rfl rfl) rfl)
theorem JF(M0:Mk H0 aL m bg F H):∀{G:Prop},(∀H',IQ L n k ⟨H,[some (.ref m),some (.str x),some (.str "\n"),none,none,none,none]⟩=some (.next,⟨H',[some (.ref m),some (.str x),some (.str "\n"),none,none,none,none]⟩)->Mk H0 aL m (mL x 0) F H'->G)->G:=by
 intro Gq kq0;generalize hl:[some (V.ref m),some (.str x),some (.str "\n"),none,none,none,none] = l at kq0;have h0:l[0]?=some (some (.ref m)):=by rw[<-hl];rfl
 have h1:l[1]?=some (some (.str x)):=by rw[<-hl];rfl
 have h2:l[2]?=some (some (.str "\n")):=by rw[<-hl];rfl
 refine M0.kS (i:=20) h0 (ao h2) (by decide) λH1 e1 M1=>?_;refine M1.kS (i:=21) (e:=Z (.str "")) h0 rfl (by decide) λH2 e2 M2=>?_;refine M2.kS (i:=22) (e:=Z (.int 0)) h0 rfl (by decide) λH3 e3 M3=>?_;have tr:=BK (L:=L) (n:=n) (k:=k) (x:=x) M3 rfl;have i1:eB 608 (.ref m) H3=true:=isIn M3.ins;have e4:(Y (af 0) λo=>Y (dj 608 o) λ_=>Y (an [af 1]) λvs=>au (Fi L n k (o::vs))) ⟨H3,l⟩=some (.str x,⟨H3,l⟩):=by rw[ai (ao h0),dG,q1k i1,ah,ai (ao h1),aj,ez,tr];rfl
 refine M3.kS (i:=21) h0 e4 (by decide) λH4 e5 M4=>?_;refine kq0 H4 ?_ M4;have ty:∀(H:List O)(a:M V)(z:Str),a ⟨H,l⟩=some (.str z,⟨H,l⟩)->(Y (Y (an [a]) λvs=>au (blt .type vs)) λa=>Y (Z (.top (.type "str"))) λb=>aF .IsNot a b) ⟨H,l⟩=some (false,⟨H,l⟩):=λH a z h=>by
  refine aS (a:=.top (.type "str")) ?_ rfl rfl;rw[ah,ai h,aj];rfl
 refine ag (dW (eH (aS (ao h2) rfl rfl) (gS (ty _ _ _ (ao h2))))) (ag (dW (eH (aS (ao h2) rfl rfl) (eH (aS (b:=.str "") (ao h2) rfl rfl) (gS (aS (b:=.str "\n") (ao h2) rfl rfl))))) (ag (dW (eH (aS (ao h1) rfl rfl) (gS (ty _ _ _ (ao h1))))) (ag e1 (ag e2 (ag e3 (ag ((fU (aS (ao h1) rfl rfl)).trans (ag e5 rfl)) rfl))))))
theorem zM(M:Mk H0 aZ q fs F H):∀{G:Prop},(∀H',N7 L n k (.str x) H=some (.ref (H.length+1),H')->Mk H0 aZ q fs ((H.length+1,.inst aL (mL x 0))::F) H'->G)->G:=by
 intro Gq kq0;have eN:((EE L (n+15)).b (bI gX (k+1)) gX.body)=PW L (n+11) (k+1):=a0n L (n+11) (k+1);have eI:((EE L (n+15)).b (bI mM (k+1)) mM.body)=IQ L n k:=a0p L n k;unfold N7 at kq0;simp only[eN,eI] at kq0;have r1:mj gX (PW L (n+11) (k+1)) [("cls",.top (.ref aL)),("args",.tup [.str x]),("kwargs",.ref H.length)] (H++[.dict []])=some (.ref (H++[O.dict []]).length,(H++[O.dict []])++[.inst aL bg]):=
  s8 (fl:=.ret _) (lc:=[some (.top (.ref aL)),some (.tup [.str x]),some (.ref H.length),none,none,none,none]) (l':=[some (.top (.ref aL)),some (.tup [.str x]),some (.ref H.length),none,none,none,none]) (by kernel_rfl) rfl
 have l1:(H++[O.dict []]).length=H.length+1:=by simp
 have i1:dI ((H++[O.dict []])++[.inst aL bg]) (H++[O.dict []]).length=some (aL,bg):=yn (bX _);have m0:Mk (H++[O.dict []]) aL (H++[O.dict []]).length bg [] ((H++[O.dict []])++[.inst aL bg]):=
  ⟨bX _,by simp,⟨by simp,λj hj=>q0e hj⟩,q0c _,.inr rfl,rfl⟩
 refine JF (L:=L) (n:=n) (k:=k) (x:=x) m0 λH' e2 M2=>?_;have r2:mj mM (IQ L n k) [("self",.ref (H++[O.dict []]).length),("initial_value",.str x),("newline",.str "\n")] ((H++[O.dict []])++[.inst aL bg])=some (.none,H'):=
  s8 (fl:=.next) (by kernel_rfl) e2
 have hq:=(q0b.mp M.ins).1;rw[l1] at r1 i1 r2 M2;refine kq0 H' ?_ ?_
 ·unfold zN
  simp only[r1,i1,vR,Option.bind_some,if_true,r2];rfl
 ·have lo:∀j,j<H.length->H'[j]?=H[j]? :=λj hj=>(M2.low.2 j (by simp;lia)).trans (q0e hj)
  refine⟨(lo q hq).trans M.ins,λp hp=>?_,⟨by have:=M2.low.1;have:=M.low.1;simp at *;lia,λj hj=>(lo j (q0l hj M.low.1)).trans (M.low.2 j hj)⟩,M.hm,M.hC,M.len⟩;rcases q0m.mp hp with rfl | hp
  ·exact⟨by show H.length+1≠q;lia,M2.ins,by have:=M.low.1;show _<=H.length+1;lia⟩
  ·obtain⟨a,b,c⟩:=M.fix p hp
   exact⟨a,(lo _ (q0b.mp b).1).trans b,c⟩
end
theorem Br:(("abcdfeghijklmnopqrstuvwxyzABCDEFGHIJKLMNOPQRSTUVWXYZ0123456789_" : Str)++("ßàáâãäåæçèéêëìíîïðñòóôõöøùúûüýþÿÀÁÂÃÄÅÆÇÈÉÊËÌÍÎÏÐÑÒÓÔÕÖØÙÚÛÜÝÞ" : Str))++("~-./*?=" : Str)=l5:=by decide +kernel
theorem Gs:gg l5=true:=by decide +kernel
section
variable{L n k:Nat}{H:List O}{m:Nat}{x:Str}
theorem I9(M:Mk H0 aZ m fs F H)(h0:l[0]?=some (some (.ref m)))(h4:l[4]?=some (some (.str ":()")))(h:fs[5]?=some (some (.str w)))(hw:gg w=true)(e:w=w'):∀{G:Prop},(∀H',qk (bI vO (k+3)) 0 4 5 ⟨H,l⟩=some (.next,⟨H',l.set 5 none⟩)->Mk H0 aZ m (fs.set 5 (some (.str w'))) F H'->G)->G:=by intro Gq kq0;subst e;refine kq0 _ ?_ (M.set (fs.set 5 (some (.str w))) (by rw[q1n];exact M.len));have s:=zQ (i:=5) (u:=.str w) M.ins (.inl rfl) (by rw[M.len];decide);unfold qk;rw[ai (ao h0),ai (ao h4),dM,M.get h rfl];show(if (":()" : Str)=":()" /\ gg w=true then some w else none).bind _=_;rw[q1k ⟨rfl,hw⟩];show Y (au (aA [] 5 (.ref m) (.str w))) _ _=_;rw[aY,s];rfl
set_option maxHeartbeats 1000000 in
theorem Ht(M0:Mk H0 aZ m bg [] H):∀{G:Prop},(∀H' l' io p1 p2 p3,PR L n k ⟨H,[some (.ref m),some (.str x),some (.str "run"),some (.bool true),some (.str ":()"),none,none,none,none,none,none,none]⟩=some (.next,⟨H',l'⟩)->Mk H0 aZ m (jp io p1 p2 p3 (.str " ") (.str "") 1) [(p3,.d8 []),(p2,.d8 []),(p1,.d8 []),(io,.inst aL (mL x 0))] H'->p3≠p1->p3≠p2->G)->G:=by
 intro Gq kq0;refine zM (L:=L) (n:=n+11) (k:=k) (x:=x) M0 λH1 e1 M1=>?_;have s4:MC L n k ⟨H,[some (.ref m),some (.str x),some (.str "run"),some (.bool true),some (.str ":()"),none,none,none,none,none,none,none]⟩=some (.next,⟨H1,[some (.ref m),some (.ref (H.length+1)),some (.str "run"),some (.bool true),some (.str ":()"),none,none,none,none,none,none,none]⟩):=by refine(fU (σ':=⟨H,_⟩) rfl).trans (ag ?_ rfl);clear M1 M0;unfold MD;simp only[bj,↓aR,↓aq,↓uV,↓Yy,↓aC, *]
 generalize H.length+1=io at M1 s4;generalize hl:[some (V.ref m),some (.ref io),some (.str "run"),some (.bool true),some (.str ":()"),none,none,none,none,none,none,none] = l at s4;have h0:l[0]?=some (some (.ref m)):=by rw[<-hl];rfl
 have h1:l[1]?=some (some (.ref io)):=by rw[<-hl];rfl
 have h2:l[2]?=some (some (.str "run")):=by rw[<-hl];rfl
 have h3:l[3]?=some (some (.bool true)):=by rw[<-hl];rfl
 have h4:l[4]?=some (some (.str ":()")):=by rw[<-hl];rfl
 clear hl;refine M1.kS (i:=0) h0 (ao h1) (by decide) λH2 e2 M2=>?_;refine M2.kS (i:=1) h0 (ao h2) (by decide) λH3 e3 M3=>?_;refine M3.kS (i:=2) h0 (ao h3) (by decide) λH4 e4 M4=>?_;refine M4.kS (i:=3) (e:=Z .none) h0 rfl (by decide) λH5 e5 M5=>?_;refine M5.kS (i:=4) (e:=Z (.str "#")) h0 rfl (by decide) λH6 e6 M6=>?_;refine M6.kS (i:=5) (e:=Z (.str ("abcdfeghijklmnopqrstuvwxyzABCDEFGHIJKLMNOPQRSTUVWXYZ0123456789_" : Str))) h0 rfl (by decide) λH7 e7 M7=>?_;obtain⟨wq,hq⟩:∃w:Str,("abcdfeghijklmnopqrstuvwxyzABCDEFGHIJKLMNOPQRSTUVWXYZ0123456789_" : Str)++("ßàáâãäåæçèéêëìíîïðñòóôõöøùúûüýþÿÀÁÂÃÄÅÆÇÈÉÊËÌÍÎÏÐÑÒÓÔÕÖØÙÚÛÜÝÞ" : Str)=w:=⟨_,rfl⟩
 have lw:wq.length+("~-./*?=" : Str).length<=ax:=by rw[<-hq];decide +kernel
 have ct:wq++("~-./*?=" : Str)=l5:=by rw[<-hq];exact Br
 refine M7.aug (i:=5) hq h0 (by decide) rfl (by decide +kernel) λH8 e8 M8=>?_;replace M8:Mk H0 aZ m [some (.ref io),some (.str "run"),some (.bool true),some .none,some (.str "#"),some (.str wq),none,none,none,none,none,none,none,none,none,none,none,none,none,none,none,none,none] _ H8:=M8;refine M8.kS (i:=6) (e:=Z (.str " \t\r\n")) h0 rfl (by decide) λH9 e9 M9=>?_;refine M9.kS (i:=7) (e:=Z (.bool false)) h0 rfl (by decide) λHa ea Ma=>?_;refine Ma.kS (i:=8) (e:=Z (.str "'\"")) h0 rfl (by decide) λHb eb Mb=>?_;refine Mb.kS (i:=9) (e:=Z (.str "\\")) h0 rfl (by decide) λHc ec Mc=>?_;refine Mc.kS (i:=10) (e:=Z (.str "\"")) h0 rfl (by decide) λHd ed Md=>?_;replace Md:Mk H0 aZ m [some (.ref io),some (.str "run"),some (.bool true),some .none,some (.str "#"),some (.str wq),some (.str " \t\r\n"),some (.bool false),some (.str "'\""),some (.str "\\"),some (.str "\""),none,none,none,none,none,none,none,none,none,none,none,none] _ Hd:=Md;refine Md.kS (i:=11) (e:=Z (.str " ")) h0 rfl (by decide) λHe ee Me=>?_;refine Me.d8 (i:=12) h0 (by decide) λHf p1 ef Mf q1 w1=>?_;refine Mf.kS (i:=13) (e:=Z (.int 1)) h0 rfl (by decide) λHg eg Mg=>?_;refine Mg.kS (i:=14) (e:=Z (.int 0)) h0 rfl (by decide) λHh eh Mh=>?_;refine Mh.kS (i:=15) (e:=Z (.str "")) h0 rfl (by decide) λHi ei Mi=>?_;replace Mi:Mk H0 aZ m [some (.ref io),some (.str "run"),some (.bool true),some .none,some (.str "#"),some (.str wq),some (.str " \t\r\n"),some (.bool false),some (.str "'\""),some (.str "\\"),some (.str "\""),some (.str " "),some (.ref p1),some (.int 1),some (.int 0),some (.str ""),none,none,none,none,none,none,none] _ Hi:=Mi
 refine Mi.d8 (i:=16) h0 (by decide) λHj p2 ej Mj q2 w2=>?_;refine Mj.kS (i:=17) (e:=Z .none) h0 rfl (by decide) λHk ek Mk'=>?_;refine Mk'.kS (i:=18) h0 (ao h4) (by decide) λHl el Ml=>?_;refine Ml.d8 (i:=19) h0 (by decide) λHm p3 em Mm q3 w3=>?_;replace Mm:Mk H0 aZ m [some (.ref io),some (.str "run"),some (.bool true),some .none,some (.str "#"),some (.str wq),some (.str " \t\r\n"),some (.bool false),some (.str "'\""),some (.str "\\"),some (.str "\""),some (.str " "),some (.ref p1),some (.int 1),some (.int 0),some (.str ""),some (.ref p2),some .none,some (.str ":()"),some (.ref p3),none,none,none] _ Hm:=Mm;refine Mm.aug (i:=5) ct h0 (by decide) rfl lw λHn en Mn=>?_;refine I9 (k:=k) Mn h0 h4 rfl Gs rfl λHo eo Mo=>?_;refine kq0 Ho (l.set 5 none) io p1 p2 p3 ?_ Mo ?_ ?_
 ·refine ag s4 (ag ((fU (aS (ao h1) rfl rfl)).trans (ag e2 (ag e3 rfl))) (ag e4 (ag ((fU (hY (ao h3) rfl)).trans (ag e5 rfl)) (ag e6 (ag e7 (ag ((fU (hY (fP (v:=.bool true) h0 (M7.get rfl rfl)) rfl)).trans (ag e8 rfl)) ?_))))))
  refine ag e9 (ag ea (ag eb (ag ec (ag ed (ag ee (ag ef (ag eg (ag eh (ag ei (ag ej (ag ek ?_)))))))))));refine ag (σ':=⟨Hk,l⟩) ((dW (not_of (r:=true) (hY (ao h4) rfl))).trans ((cO (aS (ao h4) rfl rfl)).trans rfl)) (ag el (ag ((fU (hY (ao h4) rfl)).trans (ag em (ag en eo))) rfl))
 ·have:=(Ml.fix (p1,.d8 []) (by simp)).2.1
  have:=(q0b.mp this).1;simp only at this;lia
 ·have:=(Ml.fix (p2,.d8 []) (by simp)).2.1
  have:=(q0b.mp this).1;simp only at this;lia
end
structure zh(n:Nat)(p:Tk):Prop where
 st:p.1=.sp\/(p.1=.no/\p.2.2=[])
 sum:p.2.1.length+p.2.2.length<=n
theorem q7:∀(s:List Nat)(t:Str),zh (t.length+s.length) (gr t s)
 |[],t=>⟨.inr ⟨rfl,rfl⟩,q0c _⟩
 |c::r,t=>by
  unfold gr;split
  ·exact⟨.inl rfl,by simp⟩
  ·split
   ·have h:=q7 r (t++ch c)
    refine⟨h.st,q0d h.sum ?_⟩;rw[lG];simp;lia
   ·exact⟨.inl rfl,q0c _⟩
theorem q6:∀(s:List Nat)(t:Str),zh (t.length+s.length) (runC t s)
 |[],t=>⟨.inr ⟨rfl,rfl⟩,q0c _⟩
 |c::r,t=>by
  unfold runC;split
  ·exact⟨.inl rfl,by simp⟩
  ·split
   ·have h:=q6 r (t++ch c)
    refine⟨h.st,q0d h.sum ?_⟩;rw[lG];simp;lia
   ·exact⟨.inl rfl,q0c _⟩
theorem xR:∀(s:List Nat),zh s.length (dB s)
 |[]=>⟨.inr ⟨rfl,rfl⟩,q0c _⟩
 |c::r=>by
  have h1:(ch c).length=1:=rfl;unfold dB;split
  ·have h:=xR r;exact⟨h.st,q0d h.sum (by simp)⟩
  ·split
   ·have h:=q7 r (ch c);exact⟨h.st,q0d h.sum (by rw[h1];simp;lia)⟩
   ·split
    ·have h:=q6 r (ch c);exact⟨h.st,q0d h.sum (by rw[h1];simp;lia)⟩
    ·exact⟨.inl rfl,by rw[h1];simp;lia⟩
theorem xS{st:LS}{s:List Nat}(h:st=.sp\/(st=.no/\s=[])):zh s.length (eu st s):=by
 rcases h with rfl | ⟨rfl,rfl⟩
 ·exact xR s
 ·exact⟨.inr ⟨rfl,rfl⟩,q0c _⟩
noncomputable def cS(t:Str):List Str:=if oH (t.cps.getD 0 0) then t.cps.toList.map ch else[t]
noncomputable def ia:Nat->Str->LS->List Nat->List Str
 |0,_,_,_=>[]
 |f+1,t,st,s=>if t.length=0 then[] else cS t++ia f (eu st s).2.1 (eu st s).1 (eu st s).2.2
section
variable{L n k:Nat}{H:List O}{m mk q:Nat}{A:Lx}{v:V}
theorem LL(h1:H[m1]?=some (.list xs))(h2:H[m2]?=some (.list ys))(hl:xs.length+ys.length<=ax):dN [] (.ref m1) (.ref m2) H=some (.ref m1,H.set m1 (.list (xs++ys))):=by unfold dN;simp only[vI,vS,vR,ie,Option.bind_some,b9,h1,h2,jS];rw[q1k ⟨by simp,hl⟩]
theorem bR.app{st tk:V}{s:List Nat}(R:bR H A st tk s)(o:O):bR (H++[o]) A st tk s:=by refine cps λPq kq=>?_;obtain⟨ln,x,pos,pb,a,e⟩:=R;refine kq ?_;exact⟨ln,x,pos,pb,⟨ar a.ins,ar a.str,ar a.pbk,ar a.q1,ar a.q2,a.n1,a.n2,a.hx,a.hp,a.hb,a.al⟩,e⟩
theorem bR.out{st tk:V}{s:List Nat}{o:O}(R:bR H A st tk s)(h1:q≠A.m)(h2:q≠A.io)(h3:q≠A.p1)(h4:q≠A.p2)(h5:q≠A.p3):bR (H.set q o) A st tk s:=by refine cps λPq kq=>?_;obtain⟨ln,x,pos,pb,a,e⟩:=R;refine kq ?_;exact⟨ln,x,pos,pb,⟨ay (Ne.symm h1) a.ins,ay (Ne.symm h2) a.str,ay (Ne.symm h5) a.pbk,ay (Ne.symm h3) a.q1,ay (Ne.symm h4) a.q2,a.n1,a.n2,a.hx,a.hp,a.hb,a.al⟩,e⟩
theorem bR.apart{st tk:V}{s:List Nat}{vs:List V}(R:bR H A st tk s)(h:H[q]?=some (.list vs)):q≠A.m/\q≠A.io/\q≠A.p1/\q≠A.p2/\q≠A.p3:=by
 obtain⟨ln,x,pos,pb,a,e⟩:=R;refine⟨λe=>?_,λe=>?_,λe=>?_,λe=>?_,λe=>?_⟩<;>subst e
 ·rw[a.ins] at h;cases h
 ·rw[a.str] at h;cases h
 ·rw[a.q1] at h;cases h
 ·rw[a.q2] at h;cases h
 ·rw[a.pbk] at h;cases h
noncomputable abbrev ML(x:V)(A:Lx)(mk:Nat)(v:V):List (Option V):=[some x,some (.ref A.m),some (.ref mk),some v,none,none]
theorem Wo{α:Type}{t:M Bool}{B C:M α}{σ σ':St}(h:t σ=some (true,σ')):(Y t λt=>if t then B else C) σ=B σ':=by(refine(ai h).trans ?_);rfl
theorem Wp{α:Type}{t:M Bool}{B C:M α}{σ σ':St}(h:t σ=some (false,σ')):(Y t λt=>if t then B else C) σ=C σ':=by(refine(ai h).trans ?_);rfl
theorem Ai{st:V}{s:List Nat}{ms:List Str}{t:Str}{x:V}{c:Nat}(R:bR H A st (.str "") s)(hm:H[mk]?=some (.list (ms.map V.str)))(ht:t.cps[0]?=some c)(hl:ms.length+t.length<=2000)(hc:c∈fB):∃H',xM L n k ⟨H,ML x A mk (.str t)⟩=some (.next,⟨H',ML x A mk (.str t)⟩)/\bR H' A st (.str "") s/\H'[mk]?=some (.list ((ms++cS t).map V.str))/\H.length<=H'.length/\∀j,j<H.length->j≠mk->H'[j]?=H[j]? :=by
 have hz:ax=1048576:=rfl;have C:=rS hc;have mx:t.cps.size=t.length:=rfl;have h0:0<t.cps.size:=(Array.getElem?_eq_some_iff.mp ht).1;have hgd:t.cps.getD 0 0=c:=by simp[Array.getD_eq_getD_getElem?,ht]
 have i1:df H (.str t) (.int 0)=some (.str (ch c)):=by
  show(if t.length<=ax then((seqIndex? 0 t.length).bind (t.cps[·]?)).map λc=>V.str ⟨#[c]⟩ else none)=_;rw[q1k (by lia)];have:seqIndex? 0 t.length=some 0:=by unfold seqIndex?;simp;lia
  rw[this,Option.bind_some,ht];rfl
 have t1:(Y (Y (af 3) λa=>Y (Z (.int 0)) λb=>av a b) λa=>Y (Z (.str ":()")) λb=>aF .In a b) ⟨H,ML x A mk (.str t)⟩=some (oH c,⟨H,ML x A mk (.str t)⟩):=by refine aS (a:=.str (ch c)) ?_ rfl (by rw[uW,C.pun]);rw[ai (ao (v:=.str t) rfl),aG,aX,i1];rfl
 refine cps λPq kq=>?_;obtain⟨a1,a2,a3,a4,a5⟩:=R.apart hm;have fin:∀{e:M V}{o:List Str},e ⟨H,ML x A mk (.str t)⟩=some (.ref H.length,⟨H++[.list (o.map V.str)],ML x A mk (.str t)⟩)->o=cS t->o.length<=t.length->
  ∃H',Y e (λb=>Y (au (dN [] (.ref mk) b)) λv=>Y (aE 2 v) λ_=>Z Fl.next) ⟨H,ML x A mk (.str t)⟩=some (.next,⟨H',ML x A mk (.str t)⟩)/\bR H' A st (.str "") s/\H'[mk]?=some (.list ((ms++cS t).map V.str))/\H.length<=H'.length/\∀j,j<H.length->j≠mk->H'[j]?=H[j]? :=by
  intro e o he ho YF;subst ho;refine⟨(H++[O.list ((cS t).map V.str)]).set mk (.list ((ms++cS t).map V.str)),?_,(R.app _).out a1 a2 a3 a4 a5,bx (ar hm),by simp,λj hj hn=>by rw[q0j (Ne.symm hn),q0e hj]⟩;rw[ai he,aY,LL (ar hm) (bX _) (by simp;lia),List.map_append];rfl
 refine kq ?_;show ∃H',Y (af 2) _ _=_/\_;rw[ai (ao (v:=.ref mk) rfl)];by_cases hp:oH c=true
 ·rw[hp] at t1
  refine fin (o:=t.cps.toList.map ch) ((Wo t1).trans ?_) (by unfold cS;rw[hgd,q1k hp]) (by simp[mx]);rw[ah,ai (ao (v:=.str t) rfl),aj,ez];have:blt .list [.str t] H=some (.ref H.length,H++[.list (signsOf t)]):=by show y4 (.str t) H=_;exact q1k (c:=t.cps.size<=ax) (by lia)
  rw[this,List.map_map];rfl
 ·rw[q1r] at hp
  rw[hp] at t1;refine fin (o:=[t]) ((Wp t1).trans ?_) (by unfold cS;rw[hgd,hp];rfl) (by simp;lia);rw[ah,ai (ao (v:=.str t) rfl),aj,ez];rfl
theorem yr(h:t.cps[0]?=some c):(t++ch d).cps[0]?=some c:=by have h0:=(Array.getElem?_eq_some_iff.mp h).1;show(t.cps++#[d])[0]?=some c;rw[Array.getElem?_append_left h0];exact h
theorem li:∀(s:List Nat){t:Str}{c:Nat},t.cps[0]?=some c->(gr t s).2.1.cps[0]?=some c
 |[],_,_,h=>h
 |d::r,t,c,h=>by
  unfold gr;split
  ·exact h
  ·split
   ·exact li r (yr h)
   ·exact h
theorem lh:∀(s:List Nat){t:Str}{c:Nat},t.cps[0]?=some c->(runC t s).2.1.cps[0]?=some c
 |[],_,_,h=>h
 |d::r,t,c,h=>by
  unfold runC;split
  ·exact h
  ·split
   ·exact lh r (yr h)
   ·exact h
theorem qa:∀(s:List Nat),(dB s).2.1.length≠0->(∃c∈s,(dB s).2.1.cps[0]?=some c)/\(dB s).2.2.length<s.length
 |[],h=>q1t rfl h
 |c::r,h=>by
  have h1:(ch c).length=1:=rfl;unfold dB at h ⊢;split
  ·rename_i hS
   rw[q1k hS] at h;obtain⟨⟨d,hd,e⟩,l⟩:=qa r h;exact⟨⟨d,q0k _ hd,e⟩,by simp;lia⟩
  ·rename_i hS
   split
   ·have o:=q7 r (ch c)
    exact⟨⟨c,q0g ..,li r rfl⟩,by
     have hd:(gr (ch c) r).2.1.cps[0]?=some c:=li r rfl;have:=(Array.getElem?_eq_some_iff.mp hd).1;have h2:(gr (ch c) r).2.1.cps.size=(gr (ch c) r).2.1.length:=rfl;have:=o.sum;simp;lia⟩
   ·split
    ·have o:=q6 r (ch c)
     exact⟨⟨c,q0g ..,lh r rfl⟩,by
      have hd:(runC (ch c) r).2.1.cps[0]?=some c:=lh r rfl;have:=(Array.getElem?_eq_some_iff.mp hd).1;have h2:(runC (ch c) r).2.1.cps.size=(runC (ch c) r).2.1.length:=rfl;have:=o.sum;simp;lia⟩
    ·exact⟨⟨c,q0g ..,rfl⟩,by simp⟩
theorem qb{st:LS}{s:List Nat}(JK:st=.sp\/(st=.no/\s=[]))(h:(eu st s).2.1.length≠0):(∃c∈s,(eu st s).2.1.cps[0]?=some c)/\(eu st s).2.2.length<s.length:=by
 rcases JK with rfl | ⟨rfl,rfl⟩
 ·exact qa s h
 ·exact q1t rfl h
inductive F7(L n k m:Nat)(H:List O)(x:V)(A:Lx)(mk:Nat)(t:V)(out:List Str):Prop
 |mk (H':List O) (v:V) (e:bG m (Y (af 3) λa=>Y (Z .none) λb=>aF .IsNot a b) (y3 L n k) ⟨H,ML x A mk t⟩=some (.next,⟨H',ML x A mk v⟩)) (h:H'[mk]?=some (.list (out.map V.str))) (l:H.length<=H'.length) (k1:∀j,j<H.length->j≠mk->j≠A.m->j≠A.io->j≠A.p3->H'[j]?=H[j]?):F7 L n k m H x A mk t out
theorem ow:∀(m:Nat){H:List O}{t:Str}{st:LS}{s:List Nat}{ms:List Str},s.length+1<m->1000<L->(st=.sp\/(st=.no/\s=[]))->bR H A st.v (.str "") s->H[mk]?=some (.list (ms.map V.str))->ms.length+t.length+s.length<=900->(t.length≠0->∃c∈fB,t.cps[0]?=some c)->F7 L n k m H x A mk (nP t) (ms++ia m t st s)
 |0,_,_,_,_,_,h,_,_,_,_,_,_=>q1t h (q2f _)
 |m+1,H,t,st,s,ms,hm,hL,JK,R,JL,hl,hal=>by
  by_cases h0:t.length=0
  ·have e:nP t=.none:=q1k h0
   rw[e];refine⟨H,.none,Gu (aS (ao (v:=.none) rfl) rfl rfl),?_,q0c _,λ_ _ _ _ _ _=>rfl⟩;unfold ia;rw[q1k h0,q0q];exact JL
  ·have e:nP t=.str t:=q1l h0
   rw[e];refine cps λPq kq=>?_;obtain⟨c,hc,ht⟩:=hal h0;obtain⟨H1,e1,R1,m1,l1,k1⟩:=Ai (L:=L) (n:=n) (k:=k) (x:=x) R JL ht (by lia) hc;obtain⟨H2,e2,R2,K2⟩:=uj (L:=L) (n:=n) (k:=k+1) hL JK R1 (by lia);have o:=xS JK;obtain⟨a1,a2,a3,a4,a5⟩:=R1.apart m1;have hsl:(cS t).length<=t.length:=by
    have mx:t.cps.size=t.length:=rfl;unfold cS;split
    ·simp[mx]
    ·simp;lia
   have al:=R.al;have m2:H2[mk]?=some (.list ((ms++cS t).map V.str)):=by rw[K2.2 mk a1 a2 a5];exact m1
   have i1:eB 743 (.ref A.m) H1=true:=by obtain⟨ln,y,pos,pb,a,_⟩:=R1;exact isIn a.ins
   have e3:qT L n k ⟨H1,ML x A mk (.str t)⟩=some (.next,⟨H2,ML x A mk (nP (eu st s).2.1)⟩):=by clear e1 R1 R2 R hal al;unfold qT;simp only[bj,↓aR,↓aq,↓uV,↓Nh,↓aC,dG,↓aj,↓reduceIte, *]
   refine kq ?_;by_cases h2:(eu st s).2.1.length=0
   ·-- the last token
    have Nu:∃m',m=m'+1:=⟨m-1,by lia⟩
    refine cps λPq kq=>?_;obtain⟨m',rfl⟩:=Nu;have en:nP (eu st s).2.1=.none:=q1k h2;rw[en] at e3;refine kq ?_;refine⟨H2,.none,m6 (.inl rfl) (aS (ao (v:=.str t) rfl) rfl rfl) (ag e1 (ag e3 rfl)) (Gu (aS (ao (v:=.none) rfl) rfl rfl)),?_,by rw[K2.1];exact l1,λj h1 h2 h3 h4 h5=>(K2.2 j h3 h4 h5).trans (k1 j h1 h2)⟩;rw[m2];unfold ia;rw[q1l h0];unfold ia;rw[q1k h2,q0q]
   ·obtain⟨⟨d,hd,he⟩,fR⟩:=qb JK h2
    refine cps λPq kq=>?_;obtain⟨H3,v,e4,m3,l3,k3⟩:=ow (x:=x) m (H:=H2) (t:=(eu st s).2.1) (by lia) hL o.st R2 m2 (by have:=o.sum;simp only[List.length_append];lia) (λ_=>⟨d,al d hd,he⟩);refine kq ?_;refine⟨H3,v,m6 (.inl rfl) (aS (ao (v:=.str t) rfl) rfl rfl) (ag e1 (ag e3 rfl)) e4,?_,by have:=K2.1;lia,λj h1 h2 h3 h4 h5=>(k3 j (by have:=K2.1;lia) h2 h3 h4 h5).trans ((K2.2 j h3 h4 h5).trans (k1 j h1 h2))⟩;rw[m3,q0i];have:ia (m+1) t st s=cS t++ia m (eu st s).2.1 (eu st s).1 (eu st s).2.2:=by show(if t.length=0 then[] else _)=_;rw[q1l h0]
    rw[this]
end
noncomputable def rq(L:Nat)(s:List Nat):List Str:=ia L (dB s).2.1 (dB s).1 (dB s).2.2
section
variable{L n k:Nat}{H:List O}
theorem we(hL:1000<L)(hx:x.length<=890)(al:∀c∈x.cps.toList,c∈fB):∀{G:Prop},(∀H' mk,rW L n k [.str x] H=some (.ref mk,H')->H'[mk]?=some (.list ((rq L x.cps.toList).map V.str))->H.length<=H'.length->(∀j,j<H.length->H'[j]?=H[j]?)->G)->G:=by
 intro Gq kq0;have m0:Mk H aZ H.length bg [] (H++[.inst aZ bg]):=⟨bX _,by simp,⟨by simp,λj hj=>q0e hj⟩,q0c _,.inl rfl,rfl⟩
 refine cps λPq kq=>?_;refine Ht (L:=L) (n:=n+8) (k:=k) (x:=x) m0 λH1 l1 io p1 p2 p3 e1 M n1 n2=>?_;have c1:=E3 (v0:=.ref H.length) (v1:=.str x) (v2:=.str "run") (v3:=.bool true) (v4:=.str ":()") e1;have nw:v6 743 (Fk L (n+8) k) [.str x,.str "run",.bool true,.str ":()"] H=some (.ref H.length,H1):=by unfold v6;rw[show(V.ref H.length::[V.str x,.str "run",.bool true,.str ":()"])=[.ref H.length,.str x,.str "run",.bool true,.str ":()"] from rfl];have:Fk L (n+8) k [.ref H.length,.str x,.str "run",.bool true,.str ":()"] (H++[.inst 743 bg])=some (.none,H1):=c1;rw[this]
 have R0:bR H1 ⟨H.length,io,p1,p2,p3⟩ (.str " ") (.str "") x.cps.toList:=
  ⟨1,x,0,[],⟨M.ins,(M.fix (io,_) (by simp)).2.1,(M.fix (p3,.d8 []) (by simp)).2.1,(M.fix (p1,.d8 []) (by simp)).2.1,(M.fix (p2,.d8 []) (by simp)).2.1,n1,n2,by lia,Nat.zero_le _,by simp,by simpa using al⟩,by simp⟩
 have s1:qW L n k ⟨H,[some (.str x),none,none,none,none,none]⟩=some (.next,⟨H1++[.list []],[some (.str x),some (.ref H.length),some (.ref H1.length),none,none,none]⟩):=by clear c1 e1;unfold qW;simp only[bj,↓aG,↓aq,↓mn,↓aC,cU,YA,↓sG,↓aj,↓ah,Option.bind_some,dL, *];rfl
 have R1:=R0.app (.list []);have hxl:x.cps.toList.length=x.length:=by simp[Str.length]
 obtain⟨H2,e2,R2,K2⟩:=uj (L:=L) (n:=n+3) (k:=k+1) (st:=.sp) hL (.inl rfl) R1 (by lia);have mm:(H1++[O.list []])[H1.length]?=some (.list []):=bX _;obtain⟨a1,a2,a3,a4,a5⟩:=R1.apart mm;have m2:H2[H1.length]?=some (.list (([]:List Str).map V.str)):=by rw[K2.2 _ a1 a2 a5];exact mm
 have i1:eB 743 (.ref H.length) (H1++[O.list []])=true:=isIn (ar M.ins);have s2:qU L n k ⟨H1++[.list []],[some (.str x),some (.ref H.length),some (.ref H1.length),none,none,none]⟩=some (.next,⟨H2,[some (.str x),some (.ref H.length),some (.ref H1.length),some (nP (eu .sp x.cps.toList).2.1),none,none]⟩):=by clear s1 c1 e1;unfold qU;simp only[bj,↓aR,↓aq,↓uV,↓Nh,↓aC,dG,↓aj,↓reduceIte, *]
 have o:=xS (st:=.sp) (s:=x.cps.toList) (.inl rfl);obtain⟨H3,v,e3,m3,l3,k3⟩:=ow (L:=L) (n:=n) (k:=k) (A:=⟨H.length,io,p1,p2,p3⟩) (mk:=H1.length) (x:=.str x) L (ms:=[]) (t:=(eu .sp x.cps.toList).2.1) (by have:=o.sum;lia) hL o.st R2 m2 (by have:=o.sum;simp;lia)
  (λh=>let⟨⟨c,hc,e⟩,_⟩:=qb (st:=.sp) (.inl rfl) h;⟨c,al c hc,e⟩)
 have lo1:=M.low.1;refine kq ?_;refine kq0 H3 H1.length ?_ (by rw[m3];rfl) (by have:=K2.1;simp at this;lia) (λj hj=>?_)
 ·refine wI (fl:=.ret _) (l':=ML (.str x) ⟨H.length,io,p1,p2,p3⟩ H1.length v) ?_
  exact ag s1 (ag s2 (ag e3 (bl rfl)))
 ·have f1:=(M.fix (io,.inst aL (mL x 0)) (by simp)).2.2
  have f2:=(M.fix (p3,.d8 []) (by simp)).2.2;simp only at f1 f2;have h1:j≠io:=by lia
  have h2:j≠p3:=by lia
  have h3:j≠H.length:=by lia
  rw[k3 j (by have:=K2.1;simp at this;lia) (by lia) h3 h1 h2,K2.2 j h3 h1 h2,q0e (by lia)];exact M.low.2 j hj
end
section
variable{β:Type}
noncomputable def fF(es:List (Str×β))(k:Str)(v:β):List (Str×β):=if es.any (λe=>e.1=k) then es.map (λe=>if e.1=k then(e.1,v) else e) else es++[(k,v)]
noncomputable def aO(f:β->V)(es:List (Str×β)):List (Str×V):=es.map λe=>(e.1,f e.2)
theorem iJ(f:β->V)(es:List (Str×β))(k:Str)(v:β):vV (aO f es) k (f v)=aO f (fF es k v):=by
 unfold vV fF aO;have:(es.map λe=>(e.1,f e.2)).any (λe=>decide (e.1=k))=es.any (λe=>decide (e.1=k)):=by rw[List.any_map];rfl
 rw[this];split
 ·simp only[List.map_map,List.map_map]
  apply List.map_congr_left;intro e _;simp only[Function.comp];split<;>rfl
 ·simp
theorem be(f:β->V):∀(es:List (Str×β)) (k:Str),(aO f es).lookup k=(es.lookup k).map f
 |[],k=>rfl
 |(a,b)::r,k=>by
  show List.lookup k ((a,f b)::aO f r)=_;simp only[List.lookup_cons,List.lookup_cons];cases k==a with
  |true=>rfl
  |false=>exact be f r k
theorem jQ:∀(es:List (Str×β)) (k:Str),es.any (λe=>decide (e.1=k))=(es.lookup k).isSome
 |[],k=>rfl
 |(a,b)::r,k=>by
  simp only[List.any_cons,List.lookup_cons];by_cases h:a=k
  ·subst h;simp
  ·have:(k==a)=false:=q2d.mpr (Ne.symm h)
   simp only[this,jQ r k];simp[h]
theorem jH:∀(es:List (Str×β)) (k j:Str) (v:β),es.lookup k=none->(es++[(k,v)]).lookup j=if j=k then some v else es.lookup j
 |[],k,j,v,_=>by
  simp only[List.nil_append,List.lookup_cons,List.lookup_nil];by_cases h:j=k
  ·subst h;simp
  ·have:(j==k)=false:=q2d.mpr h
   rw[this];simp[h]
 |(a,b)::r,k,j,v,h=>by
  simp only[List.cons_append,List.lookup_cons,List.lookup_cons];rw[List.lookup_cons] at h;have hk:(k==a)=false:=by
   cases e:k==a with
   |false=>rfl
   |true=>rw[e] at h;cases h
  rw[hk] at h;cases e:j==a with
  |true=>
   have:j≠k:=λq=>by rw[q,hk] at e;cases e
   rw[q1l this]
  |false=>exact jH r k j v h
theorem jF:∀(es:List (Str×β)) (k j:Str) (v:β),(es.map (λe=>if e.1=k then(e.1,v) else e)).lookup j=if j=k then(es.lookup j).map (λ_=>v) else es.lookup j
 |[],k,j,v=>by simp
 |(a,b)::r,k,j,v=>by
  simp only[List.map_cons,List.lookup_cons];by_cases h:a=k
  ·subst h
   simp only[if_true];simp only[List.lookup_cons,jF r a j v];cases e:j==a with
   |true=>simp[eq_of_beq e]
   |false=>
    have:j≠a:=λq=>by rw[q] at e;simp at e
    simp[this]
  ·simp only[h,if_false]
   simp only[List.lookup_cons,jF r k j v];cases e:j==a with
   |true=>
    have:j≠k:=λq=>h ((eq_of_beq e).symm.trans q);simp[this]
   |false=>rfl
theorem g9(es:List (Str×β))(k j:Str)(v:β):(fF es k v).lookup j=if j=k then some v else es.lookup j:=by
 unfold fF;rw[jQ];split
 ·rename_i h
  rw[jF];split
  ·rename_i e;subst e
   cases q:es.lookup j with
   |none=>rw[q] at h;cases h
   |some u=>rfl
  ·rfl
 ·rename_i h
  have:es.lookup k=none:=by
   cases q:es.lookup k with
   |none=>rfl
   |some u=>rw[q] at h;exact q1t rfl h
  exact jH es k j v this
theorem DV(es:List (Str×β))(k:Str)(v:β):(es.map (λe=>if e.1=k then(e.1,v) else e)).map (·.1)=es.map (·.1):=by rw[List.map_map];apply List.map_congr_left;intro e _;simp only[Function.comp];split<;>rfl
theorem fc:∀(es:List (Str×β)) (k:Str),k∈es.map (·.1)↔(es.lookup k).isSome=true
 |[],k=>by simp
 |(a,b)::r,k=>by
  rw[q1p,q0m,List.lookup_cons,fc r k];cases e:k==a with
  |true=>simp[eq_of_beq e]
  |false=>
   have:k≠a:=λq=>by rw[q] at e;simp at e
   simp[this]
theorem qm(h:(es.map (·.1)).Nodup)(k:Str)(v:β):((fF es k v).map (·.1)).Nodup:=by
 unfold fF;rw[jQ];split
 ·rw[DV];exact h
 ·rename_i q
  rw[q1o,List.nodup_append];refine⟨h,by simp,λa ha b hb=>?_⟩;simp only[List.map_cons,List.map_nil,q2e] at hb;subst hb;intro e;subst e;exact q ((fc es a).mp ha)
structure dV(es:List (Str×β))(g:Str->Option β):Prop where
 nd:(es.map (·.1)).Nodup
 get:∀k,es.lookup k=g k
theorem dV.put(h:dV es g)(k:Str)(v:β):dV (fF es k v) (λj=>if j=k then some v else g j):=⟨qm h.nd k v,λj=>by rw[g9,h.get]⟩
theorem dV.nil:dV ([]:List (Str×β)) (λ_=>none):=⟨by simp,λ_=>rfl⟩
theorem dV.ext(h:dV es g)(e:∀k,g k=g' k):dV es g':=⟨h.nd,λk=>(h.get k).trans (e k)⟩
theorem mq{es:List (Str×β)}(nd:(es.map (·.1)).Nodup){i:Nat}{e:Str×β}(h:es[i]?=some e)(j:Str):(es.take (i+1)).lookup j=if j=e.1 then some e.2 else(es.take i).lookup j:=by
 have hn:(es.take i).lookup e.1=none:=by
  cases q:(es.take i).lookup e.1 with
  |none=>rfl
  |some u=>
   exfalso;have h1:e.1∈(es.take i).map (·.1):=(fc _ _).mpr (by rw[q];rfl);have h2:es.take (i+1)=es.take i++[e]:=by simp only[List.take_add_one,h];rfl
   have h3:((es.take (i+1)).map (·.1)).Nodup:=by rw[List.map_take];exact nd.sublist (List.take_sublist ..)
   rw[h2,q1o,List.nodup_append] at h3;exact h3.2.2 _ h1 e.1 (by simp) rfl
 have h2:es.take (i+1)=es.take i++[(e.1,e.2)]:=by simp only[List.take_add_one,h];rfl
 simp only[h2,jH _ _ _ _ hn]
end
noncomputable abbrev Q4:=Int×Int×Int×Int
noncomputable def qV(q:Q4):V:=.tup [.int q.1,.int q.2.1,.int q.2.2.1,.int q.2.2.2]
noncomputable def fg(a b:Q4):Q4:=(a.1+b.1,a.2.1+b.2.1,a.2.2.1+b.2.2.1,a.2.2.2+b.2.2.2)
noncomputable def fO(t s:Option Q4):Option Q4:=match s,t with
 |none,t=>t
 |some q,none=>some q
 |some q,some p=>some (fg q p)
inductive bW(m:Nat)(H:List O)(d:Nat)(g:Str->Option Q4):Prop
 |mk (es:List (Str×Q4)) (a:H[d]?=some (.dict (aO qV es))) (b:dV es g) (c:es.length<=m):bW m H d g
section
variable{L n k:Nat}{H:List O}
theorem bW.app(h:bW m H d g)(J:List O):bW m (H++J) d g:=let⟨es,a,b,c⟩:=h;⟨es,ar a,b,c⟩
theorem GD(a b:Q4)(σ:St):kY (qV a) (qV b) σ=some (qV (fg a b),σ):=rfl
theorem ub:mR H (.items d (aO qV es)) i=some (if i<es.length then some (.tup [.str (es.getD i ("",0,0,0,0)).1,qV (es.getD i ("",0,0,0,0)).2]) else none):=by
 show some (((aO qV es)[i]?).map _)=_;congr 1;unfold aO;rw[q0y];split
 ·rename_i h;rw[q0h h];simp[h]
 ·rename_i h;rw[List.getElem?_eq_none_iff.mpr (Nat.not_lt.mp h)];rfl
theorem i7{z:List Nat}{m:Nat}{es:List (Str×V)}{k:Str}{u:V}(h:H[m]?=some (.dict es))(hz:m∉z)(hl:es.length<=ax):a8 z (.ref m) (.str k) u H=some ((),H.set m (.dict (vV es k u))):=by show(dm H m).bind (λes=>if m∉z/\es.length<=ax then some ((),H.set m (.dict (vV es k u))) else none)=_;rw[yK h];exact q1k ⟨hz,hl⟩
theorem Cl:(H++[o]).set H.length o'=H++[o']:=by rw[List.set_append_right _ _ (q0c _),Nat.sub_self];rfl
theorem qv(hn:nm=false)(h:mi σ=some (.items d es,σ1))(h2:rH L ma (mb [d]) (.items d es) 0 σ1=r):lP L nm mi ma mb [] σ=r:=by
 subst hn;unfold lP
 (refine(ai h).trans ?_);exact h2
theorem ua(h:H[d]?=some (.dict es)):oD (.ref d) ⟨H,l⟩=some (.items d es,⟨H,l⟩):=by refine(nY _).trans ?_;show((dm H d).map λes=>It.items d es).bind _=_;rw[yK h];rfl
theorem ki{β:Type}(es:List (Str×β))(k:Str)(v:β):(fF es k v).length<=es.length+1:=by unfold fF;split<;>simp
noncomputable abbrev LC(td sd c:Nat)(a b:Option V):List (Option V):=[some (.ref td),some (.ref sd),some (.ref c),a,b,none,none,none]
inductive uR(H:List O)(td sd:Nat)(g:Str->Option Q4)(m:Nat):St->Prop
 |mk (es:List (Str×Q4)) (a b:Option V) (B:dV es g) (hl:es.length<=m):uR H td sd g m ⟨H++[.dict (aO qV es)],LC td sd H.length a b⟩
theorem yS{z:Nat}{acc:List (Str×Q4)}(hz:z<H.length)(hl:acc.length<=900)(k:Str)(v:Q4):a8 [z] (.ref H.length) (.str k) (qV v) (H++[.dict (aO qV acc)])=some ((),H++[.dict (aO qV (fF acc k v))]):=by have hn:ax=1048576:=rfl;have:=i7 (H:=H++[.dict (aO qV acc)]) (z:=[z]) (m:=H.length) (k:=k) (u:=qV v) (bX _) (by simp;lia) (by simp[aO];lia);rw[iJ,Cl] at this;exact this
theorem Ff(x:Str×Q4)(ht:td<H.length)(hl:acc.length<=900):y5 L n k [td] ⟨H++[.dict (aO qV acc)],LC td sd H.length (some (.str x.1)) (some (qV x.2))⟩=some (.next,⟨H++[.dict (aO qV (fF acc x.1 x.2))],LC td sd H.length (some (.str x.1)) (some (qV x.2))⟩):=by have sd:=yS ht hl x.1 x.2;refine ag ?_ rfl;unfold MW;simp only[bj,↓aR,↓lD,↓pG,↓v7,↓aC, *]
theorem RD(x:Str×Q4)(hs:sd<H.length)(hl:acc.length<=900)(lk:acc.lookup x.1=o)(hv:fO o (some x.2)=some v):o7 L n k [sd] ⟨H++[.dict (aO qV acc)],LC td sd H.length (some (.str x.1)) (some (qV x.2))⟩=some (.next,⟨H++[.dict (aO qV (fF acc x.1 v))],LC td sd H.length (some (.str x.1)) (some (qV x.2))⟩):=by
 have st:=yS hs hl x.1 v;have Tq:bC .In (H++[.dict (aO qV acc)]) (.str x.1) (.ref H.length)=some o.isSome:=by show ug 8 (H++[O.dict (aO qV acc)]) (.str x.1) (.ref H.length)=_;unfold ug;simp only[vS,vT,vR,ie,jw,Option.bind_some,b9,bX,jS,dm,Option.map_some,be,lk,Option.isSome_map]
 have it:df (H++[.dict (aO qV acc)]) (.ref H.length) (.str x.1)=o.map qV:=by rw[DZ,bX];exact(be ..).trans (q1s (Option.map qV) lk)
 generalize H++[O.dict (aO qV (fF acc x.1 v))] = Hb at st ⊢;generalize H++[O.dict (aO qV acc)] = Ha at st Tq it ⊢;generalize H.length=c at st Tq it ⊢;have Zi:=aS (H:=Ha) (l:=LC td sd c (some (.str x.1)) (some (qV x.2))) (op:=.In) (ao (i:=3) (v:=.str x.1) rfl) (ao (i:=2) (v:=.ref c) rfl) Tq;cases o with
 |none=>
  obtain rfl:x.2=v:=q0a hv;refine(cO Zi).trans (ag ?_ rfl);clear Zi Tq it lk hv hs;unfold CT;simp only[bj,↓aR,↓lD,↓pG,↓v7,↓aC, *]
 |some p=>
  obtain rfl:fg x.2 p=v:=q0a hv;have ta:=GD x.2 p;refine(f7 Zi).trans ((f7 (rfl:(Y (Y (an [af 4,Z (.top (.type "tuple"))]) λvs=>au (blt .isinstance vs)) aD) _=_)).trans (ag ?_ rfl));refine fe (a:=qV (fg x.2 p)) ((ai (ao (v:=qV x.2) rfl)).trans ((q1j (aq ..) _).trans ((ai (ao (v:=.ref c) rfl)).trans ((q1j (aq ..) _).trans ((ai (ao (v:=.str x.1) rfl)).trans ((o1 ..).trans ((q1s (Option.bind · _) it).trans (ta _)))))))) ?_;exact(ai (ao (v:=.ref c) rfl)).trans ((ai (ao (v:=.str x.1) rfl)).trans ((aY ..).trans (q1s (Option.bind · _) st)))
theorem BU{es:List (Str×Q4)}{i:Nat}(hi:i<es.length)(nd:(es.map (·.1)).Nodup):(es.take i).lookup es[i].1=none:=by
 cases q:(es.take i).lookup es[i].1 with
 |none=>rfl
 |some u=>
  exfalso;have h1:es[i].1∈(es.take i).map (·.1):=(fc _ _).mpr (by rw[q];rfl);have h2:es.take (i+1)=es.take i++[es[i]]:=by rw[List.take_add_one,q0h hi];rfl
  have h3:((es.take (i+1)).map (·.1)).Nodup:=by rw[List.map_take];exact nd.sublist (List.take_sublist ..)
  rw[h2,q1o,List.nodup_append] at h3;exact h3.2.2 _ h1 es[i].1 (by simp) rfl
abbrev AZ:V->M Unit:=λv=>Y (aW 2 v) λvs=>bD [aE 3,aE 4] vs
abbrev AW(es:List (Str×Q4))(i:Nat):V:=.tup [.str (es.getD i ("",0,0,0,0)).1,qV (es.getD i ("",0,0,0,0)).2]
theorem yT(hi:i<es.length):AW es i=.tup [.str es[i].1,qV es[i].2]:=by
 have hg:es.getD i ("",0,0,0,0)=es[i]:=by simp[hi]
 unfold AW;rw[hg]
theorem yV(x:Str×Q4):AZ (.tup [.str x.1,qV x.2]) ⟨H,LC td sd c a b⟩=some ((),⟨H,LC td sd c (some (.str x.1)) (some (qV x.2))⟩):=rfl
theorem AV{td sd i:Nat}{et:List (Str×Q4)}{σ:St}(ht:td<H.length)(hl:et.length<=500)(nd:(et.map (·.1)).Nodup)(hi:i<et.length)(I:uR H td sd (λj=>(et.take i).lookup j) i σ):NK (AZ (AW et i)) (y5 L n k [td]) (uR H td sd (λj=>(et.take (i+1)).lookup j) (i+1)) σ:=by
 rw[yT hi];cases I with
 |mk acc a b B hl=>exact⟨_,.next,_,yV et[i],Ff et[i] ht (by lia),.inl rfl,fF acc et[i].1 et[i].2,_,_,(B.put _ _).ext λj=>(mq nd (q0h hi) j).symm,q0d (ki ..) (Nat.succ_le_succ hl)⟩
theorem AU{td sd i m:Nat}{es:List (Str×Q4)}{gt:Str->Option Q4}{σ:St}(hs:sd<H.length)(hl:m+es.length<=900)(nd:(es.map (·.1)).Nodup)(hi:i<es.length)(I:uR H td sd (λj=>fO (gt j) ((es.take i).lookup j)) (m+i) σ):NK (AZ (AW es i)) (o7 L n k [sd]) (uR H td sd (λj=>fO (gt j) ((es.take (i+1)).lookup j)) (m+(i+1))) σ:=by
 rw[yT hi];cases I with
 |mk acc a b B hl=>
  have lk:acc.lookup es[i].1=gt es[i].1:=by rw[B.get,BU hi nd];rfl
  have new:∀{v:Q4},fO (gt es[i].1) (some es[i].2)=some v->dV (fF acc es[i].1 v) (λj=>fO (gt j) ((es.take (i+1)).lookup j)):=λ{v} hv=>(B.put _ _).ext λj=>by
   rw[mq nd (q0h hi) j];by_cases hj:j=es[i].1
   ·rw[q1k hj,q1k hj,hj];exact hv.symm
   ·rw[q1l hj,q1l hj]
  have fin:∀v,fO (gt es[i].1) (some es[i].2)=some v->NK (AZ (.tup [.str es[i].1,qV es[i].2])) (o7 L n k [sd]) (uR H td sd (λj=>fO (gt j) ((es.take (i+1)).lookup j)) (m+(i+1))) ⟨H++[.dict (aO qV acc)],LC td sd H.length a b⟩:=λv hv=>
   ⟨_,.next,_,yV es[i],RD es[i] hs (by lia) lk hv,.inl rfl,⟨fF acc es[i].1 v,_,_,new hv,q0d (ki ..) (Nat.succ_le_succ hl)⟩⟩
  cases hgt:gt es[i].1 with
  |none=>exact fin es[i].2 (by rw[hgt];rfl)
  |some p=>exact fin (fg es[i].2 p) (by rw[hgt];rfl)
theorem Fg(hL:1000<L)(hm:m1+m2<=500)(ht:bW m1 H td gt)(hs:bW m2 H sd gs):∃es:List (Str×Q4),KA L n k [.ref td,.ref sd] H=some (.ref H.length,H++[.dict (aO qV es)])/\dV es (λj=>fO (gt j) (gs j))/\es.length<=m1+m2:=by
 obtain⟨et,t1,t2,t3⟩:=ht;obtain⟨es,s1,s2,s3⟩:=hs;have ltd:=(q0b.mp t1).1;have lsd:=(q0b.mp s1).1;obtain⟨σ1,e1,I1⟩:=eD (a:=AZ) (b:=y5 L n k [td]) (it:=.items td (aO qV et)) (I:=λi=>uR H td sd (λj=>(et.take i).lookup j) i) (item:=AW et) (λi σ _=>ub) (λi σ hi I=>AV ltd (by lia) t2.nd hi I)
  et.length 0 L ⟨H++[.dict []],LC td sd H.length none none⟩ (by lia) (by lia) ⟨[],none,none,dV.nil.ext λj=>by simp,q0c _⟩
 rw[List.take_length] at I1;cases I1 with
 |mk acc a b B1 jL=>
 have B1:dV acc gt:=B1.ext t2.get;obtain⟨σ2,e2,I2⟩:=eD (a:=AZ) (b:=o7 L n k [sd]) (it:=.items sd (aO qV es)) (I:=λi=>uR H td sd (λj=>fO (gt j) ((es.take i).lookup j)) (et.length+i)) (item:=AW es) (λi σ _=>ub) (λi σ hi I=>AU (gt:=gt) (m:=et.length) lsd (by lia) s2.nd hi I)
  es.length 0 L ⟨H++[.dict (aO qV acc)],LC td sd H.length a b⟩ (by lia) (by lia) ⟨acc,a,b,B1.ext λj=>rfl,jL⟩
 rw[List.take_length] at I2;cases I2 with
 |mk a0K a2 b2 B2 sq=>
 refine⟨a0K,?_,B2.ext λj=>by rw[s2.get],by lia⟩;exact Fc (fl:=.ret _) (l':=LC td sd H.length a2 b2) (ag (σ':=⟨H++[.dict []],LC td sd H.length none none⟩) rfl (ag (qv rfl ((ai (ao (v:=.ref td) rfl)).trans (ua (ar t1))) e1) (ag (qv rfl ((ai (ao (v:=.ref sd) rfl)).trans (ua (ar s1))) e2) (bl rfl))))
end
noncomputable abbrev TF:=Str->Option Q4
noncomputable abbrev TG:=Str->Option (Q4×TF)
noncomputable def a9(p:Q4×Nat):V:=.tup [.int p.1.1,.int p.1.2.1,.int p.1.2.2.1,.int p.1.2.2.2,.ref p.2]
theorem uK(hL:1000<L)(hm:m1+m2<=500)(ht:bW m1 H td gt)(hs:bW m2 H sd gs):∃es:List (Str×Q4),Fq L n k [a9 (t,td),a9 (s,sd)] H=some (a9 (fg s t,H.length),H++[.dict (aO qV es)])/\dV es (λj=>fO (gt j) (gs j))/\es.length<=m1+m2:=by refine cps λPq kq=>?_;obtain⟨es,e,B,hl⟩:=Fg (L:=L) (n:=n) (k:=k) hL hm ht hs;refine kq ?_;refine⟨es,?_,B,hl⟩;refine Fd (fl:=.ret _) (l':=[some (a9 (t,td)),some (a9 (s,sd)),some (.int s.1),some (.int s.2.1),some (.int s.2.2.1),some (.int s.2.2.2),some (.ref sd),some (.int t.1),some (.int t.2.1),some (.int t.2.2.1),some (.int t.2.2.2),some (.ref td),none]) ?_;refine ag (σ':=⟨H,[some (a9 (t,td)),some (a9 (s,sd)),some (.int s.1),some (.int s.2.1),some (.int s.2.2.1),some (.int s.2.2.2),some (.ref sd),none,none,none,none,none,none]⟩) rfl (ag (σ':=⟨H,[some (a9 (t,td)),some (a9 (s,sd)),some (.int s.1),some (.int s.2.1),some (.int s.2.2.1),some (.int s.2.2.2),some (.ref sd),some (.int t.1),some (.int t.2.1),some (.int t.2.2.1),some (.int t.2.2.2),some (.ref td),none]⟩) rfl (bl ?_));unfold MX;simp only[bj,↓aR,↓aq,↓lD,↓pG,↓v7,↓Jl,↓V5,↓Jk,↓ZC,↓ml9,↓ZE,↓ZD,↓aC,add_int,↓GE,↓aj,↓ah, *];rfl
structure EF where
 key:Str
 own:Int
 below:Int
noncomputable def EF.obj(f:EF):O:=.list [.str f.key,.int f.own,.int f.below]
inductive TabAt(x y m:Nat)(H:List O)(tr:Nat)(g:TG):Prop
 |mk (es:List (Str×(Q4×Nat))) (h1:H[tr]?=some (.dict (aO a9 es))) (h2:(es.map (·.1)).Nodup) (h3:es.length<=m) (h4:(∀k,es.lookup k=none->g k=none)) (h5:∀k q d,es.lookup k=some (q,d)->d≠x/\d≠y/\∃c,g k=some (q,c)/\bW m H d c):TabAt x y m H tr g
structure cW(m:Nat)(H:List O)(ts ta tb lr:Nat)(rs:List Nat)(fs:List EF)(ga gb:TG):Prop where
 tabs:H[ts]?=some (.list [.ref ta,.ref tb])
 lst:H[lr]?=some (.list (rs.map V.ref).reverse)
 frs:mH EF.obj H rs fs
 a:TabAt ta tb m H ta ga
 b:TabAt ta tb m H tb gb
 nd:(ts::lr::rs).Nodup
 ab:ta≠tb
section
variable{m:Nat}{H:List O}{ts ta tb lr x y tr q f:Nat}{rs:List Nat}{fs:List EF}{F F':EF}{ga gb g:TG}
theorem bW.set(h:bW m H d c)(hq:d≠q):bW m (H.set q o) d c:=let⟨es,a,b,c⟩:=h;⟨es,ay hq a,b,c⟩
theorem bW.ne(h:bW m H d c)(hq:H[q]?=some (.list vs)):d≠q:=λe=>by
 obtain⟨es,a,_⟩:=h;rw[e,hq] at a;cases a
theorem TabAt.app(h:TabAt x y m H tr g)(J:List O):TabAt x y m (H++J) tr g:=by refine cps λPq kq=>?_;obtain⟨es,a,b,c,d,e⟩:=h;refine kq ?_;exact⟨es,ar a,b,c,d,λk q d' hk=>let⟨u,v,w,z,r⟩:=e k q d' hk;⟨u,v,w,z,r.app J⟩⟩
theorem TabAt.sU(h:TabAt x y m H tr g)(hq:H[q]?=some (.list vs)):TabAt x y m (H.set q o) tr g:=by refine cps λPq kq=>?_;obtain⟨es,a,b,c,d,e⟩:=h;refine kq ?_;refine⟨es,ay (λe=>by rw[e,hq] at a;cases a) a,b,c,d,λk q' d' hk=>?_⟩;refine cps λPq kq=>?_;obtain⟨u,v,w,z,r⟩:=e k q' d' hk;refine kq ?_;exact⟨u,v,w,z,r.set (r.ne hq)⟩
theorem TabAt.vz(h:TabAt x y m H tr g)(hq:q=x\/q=y)(ht:tr≠q):TabAt x y m (H.set q o) tr g:=by obtain⟨es,a,b,c,d,e⟩:=h;refine⟨es,ay ht a,b,c,d,λk q' d' hk=>?_⟩;obtain⟨u,v,w,z,r⟩:=e k q' d' hk;exact⟨u,v,w,z,r.set (by rcases hq with rfl | rfl;exact u;exact v)⟩
theorem TabAt.swap(h:TabAt x y m H tr g):TabAt y x m H tr g:=by refine cps λPq kq=>?_;obtain⟨es,a,b,c,d,e⟩:=h;refine kq ?_;exact⟨es,a,b,c,d,λk q d' hk=>let⟨u,v,r⟩:=e k q d' hk;⟨v,u,r⟩⟩
theorem bW.mono(h:bW m H d c)(hm:m<=m'):bW m' H d c:=let⟨es,a,b,l⟩:=h;⟨es,a,b,q0d l hm⟩
theorem TabAt.mono(h:TabAt x y m H tr g)(hm:m<=m'):TabAt x y m' H tr g:=by obtain⟨es,a,b,c,d,e⟩:=h;exact⟨es,a,b,q0d c hm,d,λk q d' hk=>let⟨u,v,w,z,r⟩:=e k q d' hk;⟨u,v,w,z,r.mono hm⟩⟩
theorem TabAt.put(h:TabAt x y m H tr g)(ht:tr=x\/tr=y)(hd:bW (m+1) H d c)(h1:d≠x)(h2:d≠y):∃es:List (Str×(Q4×Nat)),H[tr]?=some (.dict (aO a9 es))/\es.length<=m/\TabAt x y (m+1) (H.set tr (.dict (aO a9 (fF es k (p,d))))) tr (λj=>if j=k then some (p,c) else g j):=by
 obtain⟨es,a,b,cc,dd,e⟩:=h;have Ra:d≠tr:=by rcases ht with rfl | rfl<;>assumption
 refine⟨es,a,cc,⟨fF es k (p,d),bx a,qm b _ _,q0d (ki ..) (by lia),λj hj=>?_,λj q' d' hj=>?_⟩⟩
 ·rw[g9] at hj
  by_cases Wz:j=k
  ·rw[q1k Wz] at hj;cases hj
  ·rw[q1l Wz] at hj ⊢;exact dd j hj
 ·rw[g9] at hj
  by_cases Wz:j=k
  ·rw[q1k Wz] at hj ⊢
   cases hj
   exact⟨h1,h2,c,rfl,hd.set Ra⟩
  ·rw[q1l Wz] at hj ⊢
   obtain⟨u,v,w,z,r⟩:=e j q' d' hj;exact⟨u,v,w,z,(r.mono (q2g m)).set (by rcases ht with rfl | rfl<;>assumption)⟩
theorem cW.app(R:cW m H ts ta tb lr rs fs ga gb)(J:List O):cW m (H++J) ts ta tb lr rs fs ga gb:=⟨ar R.tabs,ar R.lst,R.frs.keep λ_ _ _ h=>ar h,R.a.app J,R.b.app J,R.nd,R.ab⟩
theorem cW.ne(R:cW m H ts ta tb lr (f::rs) (F::fs) ga gb):ts≠lr/\f≠ts/\f≠lr/\∀r∈rs,r≠f/\r≠ts/\r≠lr:=by have h:=R.nd;simp only[List.nodup_cons,List.mem_cons,not_or] at h;refine cps λPq kq=>?_;obtain⟨⟨h1,h2,h3⟩,⟨h4,h5⟩,h6,h7⟩:=h;refine kq ?_;exact⟨h1,Ne.symm h2,Ne.symm h4,λr hr=>⟨λe=>h6 (e▸hr),λe=>h3 (e▸hr),λe=>h5 (e▸hr)⟩⟩
theorem cW.pop(R:cW m H ts ta tb lr (f::rs) (F::fs) ga gb):cW m (H.set lr (.list (rs.map V.ref).reverse)) ts ta tb lr rs fs ga gb:=by refine cps λPq kq=>?_;obtain⟨a,b,c,d⟩:=R.ne;refine kq ?_;refine⟨ay a R.tabs,bx R.lst,R.frs.2.keep λr hr _ h=>ay (d r hr).2.2 h,R.a.sU R.lst,R.b.sU R.lst,?_,R.ab⟩;have h:=R.nd;simp only[List.nodup_cons,List.mem_cons,not_or] at h ⊢;exact⟨⟨h.1.1,h.1.2.2⟩,h.2.1.2,h.2.2.2⟩
theorem cW.top(R:cW m H ts ta tb lr (f::rs) (F::fs) ga gb)(F':EF):cW m (H.set f F'.obj) ts ta tb lr (f::rs) (F'::fs) ga gb:=by refine cps λPq kq=>?_;obtain⟨a,b,c,d⟩:=R.ne;refine kq ?_;exact⟨ay (Ne.symm b) R.tabs,ay (Ne.symm c) R.lst,⟨bx R.frs.1,R.frs.2.keep λr hr _ h=>ay (d r hr).1 h⟩,R.a.sU R.frs.1,R.b.sU R.frs.1,R.nd,R.ab⟩
theorem cW.swap(R:cW m H ts ta tb lr rs fs ga gb):cW m (H.set ts (.list [.ref tb,.ref ta])) ts tb ta lr rs fs gb ga:=by have h:=R.nd;simp only[List.nodup_cons,List.mem_cons,not_or] at h;exact⟨bx R.tabs,ay (Ne.symm h.1.1) R.lst,R.frs.keep λr hr _ hh=>ay (λe=>h.1.2 (e▸hr)) hh,(R.b.sU R.tabs).swap,(R.a.sU R.tabs).swap,R.nd,Ne.symm R.ab⟩
theorem mH.kind:∀{rs:List Nat}{fs:List EF},mH EF.obj H rs fs->∀r∈rs,∃vs,H[r]?=some (.list vs)
 |r::rs,F::fs,h,z,hz=>by
  rcases q0m.mp hz with rfl | hz
  ·exact⟨_,h.1⟩
  ·exact h.2.kind z hz
theorem cW.tab(R:cW m H ts ta tb lr rs fs ga gb)(hd:bW (m+1) H d c)(h1:d≠ta)(h2:d≠tb):∃es:List (Str×(Q4×Nat)),H[ta]?=some (.dict (aO a9 es))/\es.length<=m/\cW (m+1) (H.set ta (.dict (aO a9 (fF es k (p,d))))) ts ta tb lr rs fs (λj=>if j=k then some (p,c) else ga j) gb:=by
 refine cps λPq kq=>?_;obtain⟨es,e1,e2,T⟩:=R.a.put (.inl rfl) hd h1 h2;have nl:∀{q vs},H[q]?=some (.list vs)->q≠ta:=λh e=>by rw[e,e1] at h;cases h
 refine kq ?_;exact⟨es,e1,e2,⟨ay (nl R.tabs) R.tabs,ay (nl R.lst) R.lst,R.frs.keep λr hr _ h=>ay (by obtain⟨vs,hv⟩:=R.frs.kind r hr;exact nl hv) h,T,(R.b.mono (q2g m)).vz (.inl rfl) (Ne.symm R.ab),R.nd,R.ab⟩⟩
end
section
variable{L:Nat}{H0:List O}{loc l:List (Option V)}{it:It}{N:Nat}{item:Nat->V}{el:Nat->Option V}{z:List Nat}{ix:Nat}{t:Option (M Bool)}{me:M V}
structure wX(H0:List O)(loc:List (Option V))(ix:Nat)(t:Option (M Bool))(me:M V)(v:V)(el:Option V):Prop where
 ok:∀acc J,match el with
  |none=>∃J',xr t ⟨H0++.list acc::J,loc.set ix (some v)⟩=some (false,⟨H0++.list acc::(J++J'),loc.set ix (some v)⟩)
  |some u=>∃J1 J2,xr t ⟨H0++.list acc::J,loc.set ix (some v)⟩=some (true,⟨H0++.list acc::(J++J1),loc.set ix (some v)⟩)/\me ⟨H0++.list acc::(J++J1),loc.set ix (some v)⟩=some (u,⟨H0++.list acc::(J++J1++J2),loc.set ix (some v)⟩)
theorem Hu:(H0++a::J).set H0.length b=H0++b::J:=by rw[List.set_append_right _ _ (q0c _),Nat.sub_self];rfl
theorem kG(hz:H0.length∉z)(hN:N<=2000)(hit:∀acc J i,mR (H0++.list acc::J) it i=some (if i<N then some (item i) else none))(step:∀i,i<N->wX H0 loc ix t me (item i) (el i)):∀m i L acc J l,i+m=N->m<L->acc.length<=i->l.set ix none=loc.set ix none->∃J' l',oV z ix t me H0.length it L i ⟨H0++.list acc::J,l⟩=some ((),⟨H0++.list (acc++(List.range' i m).filterMap el)::J',l'⟩)
 |_,i,0,acc,J,l,_,h,_,_=>q1t h (q2f _)
 |0,i,L+1,acc,J,l,e,h,ha,hl=>by
  refine⟨J,l,?_⟩;show Y (oS it i) _ _=_;rw[drawn,hit,q1l (by lia)];simp;rfl
 |m+1,i,L+1,acc,J,l,e,h,ha,hl=>by
  have hi:i<N:=by lia
  have hls:∀v,l.set ix v=loc.set ix v:=λv=>by
   have:(l.set ix none).set ix v=(loc.set ix none).set ix v:=by rw[hl]
   simpa[List.set_set] using this
  have S:=(step i hi).ok acc J;have e0:List.range' i (m+1)=i::List.range' (i+1) m:=rfl;rw[e0,List.filterMap_cons];show ∃J' l',Y (oS it i) _ _=_;rw[drawn,hit,q1k hi,Option.bind_some];show ∃J' l',Y (aE ix (item i)) _ _=_;have Z0:aE ix (item i) ⟨H0++.list acc::J,l⟩=some ((),⟨H0++.list acc::J,loc.set ix (some (item i))⟩):=by show some ((),(⟨_,l.set ix (some (item i))⟩:St))=_;rw[hls]
  rw[ai Z0];have sq:(loc.set ix (some (item i))).set ix none=loc.set ix none:=by rw[List.set_set]
  cases hel:el i with
  |none=>
   rw[hel] at S;obtain⟨J',S⟩:=S;rw[ai S];exact kG hz hN hit step m (i+1) L acc (J++J') _ (by lia) (by lia) (by lia) sq
  |some u=>
   rw[hel] at S;obtain⟨J1,J2,S1,S2⟩:=S;rw[ai S1];show ∃J' l',Y me _ _=_;rw[ai S2];have ap:nh z .list .append (.ref H0.length) [u] (H0++.list acc::(J++J1++J2))=some (.none,H0++.list (acc++[u])::(J++J1++J2)):=by have:=gn (z:=z) (H:=H0++.list acc::(J++J1++J2)) (m:=H0.length) (vs:=acc) (v:=u) fM hz (by have:ax=1048576:=rfl;lia);rw[Hu] at this;exact this
   rw[aY,ap,Option.bind_some];obtain⟨J',l',r⟩:=kG hz hN hit step m (i+1) L (acc++[u]) (J++J1++J2) _ (by lia) (by lia) (by simp;lia) sq;refine⟨J',l',r.trans ?_⟩;rw[q0i];rfl
theorem rQ{mi:M It}{lf:List (Option V)->List (Option V)}{t:List Nat->Option (M Bool)}{me:List Nat->M V}(hL:N<L)(hN:N<=2000)(hm:mi ⟨H0,l⟩=some (it,⟨H0,l⟩))(hp:gh it=true)(hh:it.hold=[])(hit:∀acc J i,mR (H0++.list acc::J) it i=some (if i<N then some (item i) else none))(step:∀i,i<N->wX H0 (lf l) ix (t []) (me []) (item i) (el i)):∃J,dF L mi lf ix t me [] ⟨H0,l⟩=some (.ref H0.length,⟨H0++.list ((List.range N).filterMap el)::J,l⟩):=by
 obtain⟨J',l',r⟩:=kG (z:=[]) (t:=t []) (me:=me []) (by first | rfl | simp) hN hit step N 0 L [] [] (lf l) (by lia) hL (q0c _) rfl;refine⟨J',?_⟩;unfold dF
 (refine(ai hm).trans ?_)
 simp only[hp,if_true,hh,List.nil_append];rw[List.nil_append] at r;rw[r,List.range_eq_range']
theorem kL{J:List O}{i:Nat}{o a:O}(h:H0[i]?=some o):(H0++a::J)[i]?=some o:=ar h
theorem n0{α:Type}{f:α->V}{g:Nat->Option V}:∀(xs:List α)(s:Nat),(∀i x,xs[i]?=some x->g (s+i)=some (f x))->(List.range' s xs.length).filterMap g=xs.map f
 |[],s,_=>rfl
 |x::xs,s,h=>by
  have e0:List.range' s (x::xs).length=s::List.range' (s+1) xs.length:=rfl;have h0:=h 0 x rfl;rw[e0,List.filterMap_cons,show g s=some (f x) from h0,q1p];show f x::_=_;rw[n0 xs (s+1) λi y hy=>by have:=h (i+1) y (by simpa using hy);rw[show s+1+i=s+(i+1) by lia];exact this]
theorem qe{α:Type}{f:α->V}{g:Nat->Option V}(xs:List α)(h:∀i x,xs[i]?=some x->g i=some (f x)):(List.range xs.length).filterMap g=xs.map f:=by rw[List.range_eq_range'];exact n0 xs 0 λi x hx=>by rw[Nat.zero_add];exact h i x hx
end
noncomputable def bump(fs:List EF)(x:Int):List EF:=match fs with
 |[]=>[]
 |G::r=>{G with below:=G.below+x}::r
noncomputable def bB(fs:List EF)(key:Str):Int:=if fs.any (λf=>f.key==key) then 0 else 1
noncomputable def qD(fs:List EF)(q:Q4):TF:=match fs with
 |[]=>λ_=>none
 |G::_=>λj=>if j=G.key then some q else none
noncomputable def sw:Q4×TF:=((0,0,0,0),λ_=>none)
noncomputable def jo(g:TG)(key:Str)(p:Q4)(c:TF):TG:=λj=>if j=key then some (fg p ((g key).getD sw).1,λi=>fO (((g key).getD sw).2 i) (c i)) else g j
section
variable{L n k m:Nat}{H:List O}{ts ta tb lr f:Nat}{rs:List Nat}{fs:List EF}{F:EF}{ga gb:TG}
theorem V4(a b:Int)(h:a.natAbs<1073741824):bn .Mult (.int a) (.int b) H=some (.int (a*b),H):=by show(if a.natAbs<1073741824 then some (a*b) else none).map _=_;rw[q1k h];rfl
theorem pm{k:Str}:∀ks:List Str,kM (gU 8 H) (.str k) (ks.map V.str)=some (ks.any λx=>x==k)
 |[]=>rfl
 |x::ks=>by
  simp only[List.map_cons,List.any_cons];show(some (x==k)).bind (λb=>(kM (gU 8 H) (.str k) (ks.map V.str)).map λc=>b||c)=_;rw[pm ks];rfl
theorem AC(fs:List EF)(key:Str):bB fs key=0\/bB fs key=1:=by unfold bB;split<;>simp
theorem TabAt.Np(h:TabAt x y m H tr g)(k:∀(j:Nat) es,H[j]?=some (O.dict es)->H'[j]?=some (O.dict es)):TabAt x y m H' tr g:=by obtain⟨es,a,b,c,d,e⟩:=h;exact⟨es,k _ _ a,b,c,d,λj q d' hj=>let⟨u,v,w,z,uY,r1,r2,r3⟩:=e j q d' hj;⟨u,v,w,z,uY,k _ _ r1,r2,r3⟩⟩
noncomputable abbrev LE(ts lr:Nat)(F:EF)(e b c d:Option V):List (Option V):=[some (.ref ts),some (.ref lr),some (.str F.key),some (.int F.own),some (.int F.below),e,b,c,d,none]
noncomputable abbrev LG(ts lr ta:Nat)(F:EF)(fv wh:Int)(cl:Nat):List (Option V):=LE ts lr F (some (.int fv)) (some (.int wh)) (some (.ref cl)) (some (.ref ta))
inductive Yj(L n k m:Nat)(H:List O)(ts ta tb lr f:Nat)(rs:List Nat)(fs:List EF)(F:EF)(fv wh:Int)(ga gb:TG):Prop
 |mk (H':List O) (cl:Nat) (run:∀z,ak (j6 L n k) (ak (iG L n k) (Z .next)) ⟨H',LG ts lr ta F fv wh cl⟩=z->q5 L n k ⟨H,[some (.ref ts),some (.ref lr),none,none,none,none,none,none,none,none]⟩=z)
  (R:cW m H' ts ta tb lr rs (bump fs (F.own+F.below)) ga gb) (C:bW 1 H' cl (qD fs (1,fv,F.own,wh))) (c1:cl≠ta) (c2:cl≠tb) (l1:H.length<=H'.length) (k1:∀j,j<H.length->j≠lr->j∉rs->H'[j]?=H[j]?):Yj L n k m H ts ta tb lr f rs fs F fv wh ga gb
theorem TabAt.lt(h:TabAt x y m H tr g):tr<H.length:=by obtain⟨_,a⟩:=h;exact(q0b.mp a).1
theorem Xb(e1:H[lr]?=some (.list (rs.map V.ref).reverse))(e:rs=f::nX)(hr:nX.length<=100)(hf:(H.set lr (.list (nX.map V.ref).reverse))[f]?=some F.obj):q0 L n k ⟨H,[some (.ref ts),some (.ref lr),none,none,none,none,none,none,none,none]⟩=some (.next,⟨H.set lr (.list (nX.map V.ref).reverse),LE ts lr F none none none none⟩):=by
 have hz:ax=1048576:=rfl;have e1:H[lr]?=some (.list ((nX.map V.ref).reverse++[.ref f])):=by rw[e1,e];simp
 have p1:=xW (z:=[]) e1 (by first | rfl | simp) (by simp[hz];lia);have kd:dy H (.ref lr)=some .list:=by rw[bH,e1];rfl
 have f1:(H.set lr (.list (nX.map V.ref).reverse))[f]?=some (.list [.str F.key,.int F.own,.int F.below]):=hf;clear e1 e hf;unfold q0;simp only[cT,bj,↓aR,↓uV,↓Yx,↓Nh,↓ms4,↓aC,↓b8,cU,w7,DG,↓aj,↓jx,↓iY,↓hU,↓eC,Option.bind_some,jz,↓du,↓reduceIte, *];rfl
theorem Er(A:mH EF.obj H rs fs)(hi:i<rs.length):∃r F,fs.reverse[i]?=some F/\(rs.map V.ref).reverse.getD i .none=.ref r/\H[r]?=some F.obj:=by
 have hl:=A.len;have hi2:i<fs.reverse.length:=by rw[List.length_reverse,<-hl];exact hi
 have hx:fs.reverse[i]?=some fs.reverse[i]:=q0h hi2;obtain⟨r,r1,r2⟩:=A.get ((List.getElem?_reverse (hl▸hi)).symm.trans hx);refine⟨r,_,hx,?_,r2⟩;rw[List.getD_eq_getElem?_getD,List.getElem?_reverse (by rw[q0w];exact hi),q0w,q0y,hl,r1];rfl
theorem EB(hL:1000<L)(hr:rs.length<=100)(lst:H[lr]?=some (.list (rs.map V.ref).reverse))(A:mH EF.obj H rs fs)(h1:l[1]?=some (some (.ref lr))):∃J,dF L (Y (af 1) jq) (λl=>[none,none]) 1 (λ_=>none) (λz=>Y (af 1) λa=>Y (Z (.int 0)) λb=>av a b) [] ⟨H,l⟩=some (.ref H.length,⟨H++.list ((fs.reverse.map EF.key).map V.str)::J,l⟩):=by
 have hz:ax=1048576:=rfl;have e:(List.range rs.length).filterMap (λi=>((fs.reverse[i]?).map λf=>V.str f.key))=(fs.reverse.map EF.key).map V.str:=by have:=qe (f:=λf:EF=>V.str f.key) (g:=λi=>((fs.reverse[i]?).map λf=>V.str f.key)) fs.reverse (λi x hx=>by rw[hx];rfl);rw[List.length_reverse,<-A.len] at this;rw[this,List.map_map];rfl
 rw[<-e];refine rQ (it:=.lst lr) (N:=rs.length) (item:=λi=>(rs.map V.ref).reverse.getD i .none) (by lia) (by lia) ?_ rfl rfl (λacc J i=>?_) λi hi=>⟨λacc J=>?_⟩
 ·rw[ai (ao h1),fY,dr lst (by simp;lia)];rfl
 ·have:=jc (i:=i) (kL (J:=J) (a:=.list acc) lst) .none
  simpa using this
 ·obtain⟨r,F,e1,e2,e3⟩:=Er A hi
  rw[e1,e2];refine⟨[],[],by rw[q0q];rfl,?_⟩;rw[q0q,q0q,ai (ao (v:=.ref r) rfl),aG,aX,aJ,kL e3];rfl
theorem Xa(nk:H2[H.length]?=some (.list ((fs.reverse.map EF.key).map V.str)))(cp:dF L (Y (af 1) jq) (λl=>[none,none]) 1 (λ_=>none) (λz=>Y (af 1) λa=>Y (Z (.int 0)) λb=>av a b) [] ⟨H,LE ts lr F none none none none⟩=some (.ref H.length,⟨H2,LE ts lr F none none none none⟩)):xP L n k ⟨H,LE ts lr F none none none none⟩=some (.next,⟨H2,LE ts lr F (some (.int (bB fs F.key))) none none none⟩):=by
 have Tq:bC .In H2 (.str F.key) (.ref H.length)=some (fs.any λf=>f.key==F.key):=by show ug 8 H2 (.str F.key) (.ref H.length)=_;unfold ug;simp only[vS,vT,vR,ie,jw,Option.bind_some,b9,nk,jS];rw[pm,List.any_map,List.any_reverse];rfl
 have te:(Y (af 2) λa=>Y (dF L (Y (af 1) jq) (λl=>[none,none]) 1 (λ_=>none) (λz=>Y (af 1) λa=>Y (Z (.int 0)) λb=>av a b) []) λb=>aF .In a b) ⟨H,LE ts lr F none none none none⟩=some (fs.any (λf=>f.key==F.key),⟨H2,LE ts lr F none none none none⟩):=
  (ai (ao (v:=.str F.key) rfl)).trans ((ai cp).trans ((eR ..).trans (q1s (Option.bind · _) Tq)))
 unfold bB;cases hb:fs.any (λf=>f.key==F.key) with
 |true=>exact(ai ((Wo (hb▸te)).trans rfl)).trans rfl
 |false=>exact(ai ((Wp (hb▸te)).trans rfl)).trans rfl
theorem W9(JN:fv=0\/fv=1)(t:H[ts]?=some (.list [.ref ta,.ref tb])):qZ L n k ⟨H,LE ts lr F (some (.int fv)) none none none⟩=some (.next,⟨H++[.dict []],LG ts lr ta F fv (fv*(F.own+F.below)) H.length⟩):=by
 have mu:=V4 (H:=H) fv (F.own+F.below) (by rcases JN with rfl | rfl<;>decide);have t3:ud 0 (H++[O.dict []])[ts]?=some (.ref ta):=by rw[ar t];rfl
 unfold qZ;simp only[cT,bj,↓aG,↓aq,↓mn,↓pG,↓v7,↓Jl,↓bP,↓aC,cU,rP,add_int,↓vc,↓aj,↓ah,Option.bind_some,aJ,dL, *];rfl
theorem Rt(h:H[lr]?=some (.list (rs.map V.ref).reverse))(h1:l[1]?=some (some (.ref lr))):(Y (af 1) λa=>Y (Y (an []) λvs=>au (bt vs)) λb=>aF .NotEq a b) ⟨H,l⟩=some (!rs.isEmpty,⟨H++[.list []],l⟩):=by
 have ne:Nf 8 (H++[O.list []]) (.ref lr) (.ref H.length)=some (!rs.isEmpty):=by
  unfold Nf;simp only[vR,b9,ar (J:=[O.list []]) h,bX,jS,Option.bind_some];cases rs with
  |nil=>rfl
  |cons r rs=>simp
 have q:(Y (an []) λvs=>au (bt vs)) ⟨H,l⟩=some (.ref H.length,⟨H++[.list []],l⟩):=rfl;exact(ai (ao h1)).trans ((ai q).trans ((eR ..).trans (q1s (Option.bind · _) ne)))
theorem uv(h:H[lr]?=some (.list ((g::rs).map V.ref).reverse))(hr:rs.length<=100):ud (-1) H[lr]?=some (.ref g):=by have hz:ax=1048576:=rfl;rw[h,di _ _ (by simp;lia),List.map_cons,List.reverse_cons,iQ]
theorem W8{g cl:Nat}{G:EF}{fv wh:Int}(h:H[lr]?=some (.list ((g::rs).map V.ref).reverse))(hr:rs.length<=100)(g4:H[g]?=some G.obj):qY L n k ⟨H,LG ts lr ta F fv wh cl⟩=some (.next,⟨H.set g (EF.obj {G with below:=G.below+(F.own+F.below)}),LG ts lr ta F fv wh cl⟩):=by
 have q1:=uv h hr;have q2:ud 2 H[g]?=some (.int G.below):=by rw[g4];rfl
 have q3:a8 [] (.ref g) (.int 2) (.int (G.below+(F.own+F.below))) H=some ((),H.set g (.list [.str G.key,.int G.own,.int (G.below+(F.own+F.below))])):=xF [] g 2 [.str G.key,.int G.own,.int G.below] _ g4 (by first | rfl | simp) (by first | rfl | simp) (Nat.le_of_ble_eq_true rfl);have q4:∀a b:Int,dN [] (.int a) (.int b) H=some (.int (a+b),H):=λ_ _=>rfl;clear g4 h;unfold qY;simp only[cT,bj,↓aG,↓aR,↓aq,↓uV,↓pG,↓v7,↓bP,↓aC,↓fL,add_int,aJ, *];rfl
theorem W7{g cl:Nat}{G:EF}{fv wh:Int}(h:H[lr]?=some (.list ((g::rs).map V.ref).reverse))(hr:rs.length<=100)(g5:H[g]?=some G.obj)(d5:H[cl]?=some (.dict [])):qX L n k ⟨H,LG ts lr ta F fv wh cl⟩=some (.next,⟨H.set cl (.dict (aO qV [(G.key,(1,fv,F.own,wh))])),LG ts lr ta F fv wh cl⟩):=by
 have q1:=uv h hr;have q2:ud 0 H[g]?=some (.str G.key):=by rw[g5];rfl
 have q3:=i7 (z:=[]) (k:=G.key) (u:=qV (1,fv,F.own,wh)) d5 (by first | rfl | simp) (by first | rfl | simp);unfold qV at q3;clear g5 h d5;unfold qX;simp only[cT,bj,↓aG,↓aR,↓aq,↓uV,↓pG,↓Jl,↓V5,↓Jk,↓bP,↓aC,↓fL,↓T3,↓aj,↓ah,aJ, *];rfl
inductive Yi(L n k m:Nat)(H:List O)(ts ta tb lr:Nat)(rs:List Nat)(fs:List EF)(F:EF)(fv wh:Int)(ga gb:TG):Prop
 |mk (H2:List O) (run:∀r z,xO L n k ⟨H2++[.dict []],LG ts lr ta F fv wh H2.length⟩=some (.next,r)->ak (j6 L n k) (ak (iG L n k) (Z .next)) r=z->q5 L n k ⟨H,[some (.ref ts),some (.ref lr),none,none,none,none,none,none,none,none]⟩=z)
  (R:cW m H2 ts ta tb lr rs fs ga gb) (l1:H.length<=H2.length) (k1:∀j,j<H.length->j≠lr->H2[j]?=H[j]?):Yi L n k m H ts ta tb lr rs fs F fv wh ga gb
theorem J7(hL:1000<L)(R:cW m H ts ta tb lr (f::rs) (F::fs) ga gb)(hr:rs.length<=100):Yi L n k m H ts ta tb lr rs fs F (bB fs F.key) (bB fs F.key*(F.own+F.below)) ga gb:=by
 have n3:=R.ne.2.2.1;have R1:=R.pop;have s1:=Xb (L:=L) (n:=n) (k:=k) (ts:=ts) (F:=F) R.lst rfl hr (ay n3 R.frs.1);have k1:∀j,j<H.length->j≠lr->(H.set lr (.list (rs.map V.ref).reverse))[j]?=H[j]? :=λj _ hj=>q0j (Ne.symm hj);have l1:(H.set lr (.list (rs.map V.ref).reverse)).length=H.length:=q1n;generalize H.set lr (.list (rs.map V.ref).reverse)=H1 at R1 s1 k1 l1;clear R n3;obtain⟨J,cp⟩:=EB hL hr R1.lst R1.frs (l:=LE ts lr F none none none none) rfl;have s2:=Xa (n:=n) (k:=k) fM cp;have R2:=R1.app (.list ((fs.reverse.map EF.key).map V.str)::J);have k2:∀j,j<H1.length->(H1++.list ((fs.reverse.map EF.key).map V.str)::J)[j]?=H1[j]? :=λj hj=>q0e hj;have l2:H1.length<=(H1++O.list ((fs.reverse.map EF.key).map V.str)::J).length:=by simp
 clear cp R1;generalize H1++O.list ((fs.reverse.map EF.key).map V.str)::J=H2 at R2 k2 l2 s2;exact⟨H2,λr z e hz=>ag s1 (ag s2 (ag (W9 (AC fs F.key) R2.tabs) (ag e hz))),R2,by lia,λj hj h1=>(k2 j (by lia)).trans (k1 j hj h1)⟩
theorem J8(hL:1000<L)(R0:cW m H ts ta tb lr (f::rs) (F::fs) ga gb)(hr:rs.length<=100):Yj L n k m H ts ta tb lr f rs fs F (bB fs F.key) (bB fs F.key*(F.own+F.below)) ga gb:=by
 obtain⟨H2,run,R2,l1,k1⟩:=J7 (L:=L) (n:=n) (k:=k) hL R0 hr;clear R0;have c1:=R2.a.lt;have c2:=R2.b.lt;have R3:=R2.app [.dict []];have d3:=bX (H:=H2) (.dict []);have k3:∀j,j<H2.length->(H2++[O.dict []])[j]?=H2[j]? :=λj hj=>q0e hj;generalize H2++[O.dict []] = H3 at run R3 d3 k3;generalize bB fs F.key*(F.own+F.below)=wh at run ⊢;generalize bB fs F.key=fv at run ⊢;have lc:=(q0b.mp d3).1;have te:=Rt (l:=LG ts lr ta F fv wh H2.length) R3.lst rfl;have R4:=R3.app [.list []];have d4:=ar (J:=[O.list []]) d3;have k4:∀j,j<H3.length->(H3++[O.list []])[j]?=H3[j]? :=λj hj=>q0e hj;have l4:(H3++[O.list []]).length=H3.length+1:=by simp
 generalize H3++[O.list []] = H4 at R4 d4 k4 l4 te;have hl:=R4.frs.len;cases rs with
 |nil=>
  cases fs with
  |cons G fs=>simp at hl
  |nil=>exact⟨H4,H2.length,λz hz=>run _ z (dW te) hz,R4,⟨[],d4,dV.nil,by simp⟩,by lia,by lia,by lia,λj hj h1 h2=>(k4 j (by lia)).trans ((k3 j (by lia)).trans (k1 j hj h1))⟩
 |cons g rs=>
  cases fs with
  |nil=>simp at hl
  |cons G fs=>
  have hr:rs.length<=100:=Nat.le_of_succ_le hr;have g4:H4[g]?=some G.obj:=R4.frs.1;have hg2:g≠H2.length:=λe=>by rw[<-e,g4] at d4;cases d4
  have s4:=W8 (L:=L) (n:=n) (k:=k) (ts:=ts) (ta:=ta) (F:=F) (fv:=fv) (wh:=wh) (cl:=H2.length) R4.lst hr g4;have top:=R4.top {G with below:=G.below+(F.own+F.below)};have d5:(H4.set g (EF.obj {G with below:=G.below+(F.own+F.below)}))[H2.length]?=some (.dict []):=ay (Ne.symm hg2) d4;have h5:(H4.set g (EF.obj {G with below:=G.below+(F.own+F.below)})).length=H4.length:=q1n;have k5:∀j,j≠g->(H4.set g (EF.obj {G with below:=G.below+(F.own+F.below)}))[j]?=H4[j]? :=λj hj=>q0j (Ne.symm hj);generalize H4.set g (EF.obj {G with below:=G.below+(F.own+F.below)})=H5 at top d5 s4 h5 k5;have s5:=W7 (L:=L) (n:=n) (k:=k) (ts:=ts) (ta:=ta) (F:=F) (fv:=fv) (wh:=wh) top.lst hr top.frs.1 d5;have st:=λz=>run _ z ((fU te).trans (ag s4 (ag s5 rfl)));have d6:=bx (x:=.dict (aO qV [(G.key,(1,fv,F.own,wh))])) d5;have k6:∀j,j≠H2.length->(H5.set H2.length (.dict (aO qV [(G.key,(1,fv,F.own,wh))])))[j]?=H5[j]? :=λj hj=>q0j (Ne.symm hj);have h6:(H5.set H2.length (.dict (aO qV [(G.key,(1,fv,F.own,wh))]))).length=H5.length:=q1n;clear s4 s5 te run;generalize H5.set H2.length (.dict (aO qV [(G.key,(1,fv,F.own,wh))]))=H6 at st d6 k6 h6;have dd:∀{q:Nat}{vs:List V},H5[q]?=some (.list vs)->H6[q]?=some (.list vs):=λ{q vs} h=>(k6 q λe=>by rw[e,d5] at h;cases h).trans h;have kk:∀(j:Nat) es,H2[j]?=some (O.dict es)->H6[j]?=some (O.dict es):=λj es h=>by
   have hj:=(q0b.mp h).1;have h4:=(k4 j (by lia)).trans ((k3 j hj).trans h);exact(k6 j (by lia)).trans ((k5 j λe=>by rw[e,g4] at h4;cases h4).trans h4)
  refine⟨H6,H2.length,st,⟨dd top.tabs,dd top.lst,top.frs.keep λr hr _ h=>?_,R2.a.Np kk,R2.b.Np kk,top.nd,top.ab⟩,⟨[(G.key,(1,fv,F.own,wh))],d6,dV.nil.put G.key (1,fv,F.own,wh),by simp⟩,by lia,by lia,by lia,λj hj h1 h2=>?_⟩
  ·obtain⟨vs,hv⟩:=top.frs.kind r hr
   rw[hv] at h;exact(dd hv).trans h
  ·exact(k6 j (by lia)).trans ((k5 j λe=>h2 (e▸q0g)).trans ((k4 j (by lia)).trans ((k3 j (by lia)).trans (k1 j hj h1))))
end
section
variable{L n k m:Nat}{H:List O}{ts ta tb lr f:Nat}{rs:List Nat}{fs:List EF}{F:EF}{ga gb:TG}
theorem IW(h:H[m]?=some (.list vs))(hz:m∉z)(hl:vs.length<=ax):nh z .list .reverse (.ref m) [] H=some (.none,H.set m (.list vs.reverse)):=by unfold nh;simp only[vR,Option.bind_some,tO,b9,h,jS];rw[q1k hl];simp only[Option.bind_some];rw[q1l hz];unfold DL;simp
theorem rF(h:H[m]?=some (.dict es)):nh [] .dict .get (.ref m) [.str key,d] H=some ((es.lookup key).getD d,H):=by unfold nh;simp only[vR,Option.bind_some,dm,h];rfl
theorem wy(hL:1000<L)(R0:cW m H ts ta tb lr (f::rs) (F::fs) ga gb)(hr:rs.length<=100)(hm:m<=400):∃H',lU L n k [.ref ts,.ref lr] H=some (.none,H')/\cW (m+1) H' ts tb ta lr rs (bump fs (F.own+F.below)) gb (jo ga F.key (bB fs F.key,1,F.own,bB fs F.key*(F.own+F.below)) (qD fs (1,bB fs F.key,F.own,bB fs F.key*(F.own+F.below))))/\H.length<=H'.length/\∀j,j<H.length->j≠ts->j≠ta->j≠lr->j∉rs->H'[j]?=H[j]? :=by
 have hz:ax=1048576:=rfl;refine cps λPq kq=>?_;obtain⟨H1,cl,ex,R,C,c1,c2,l1,k1⟩:=J8 (L:=L) (n:=n) (k:=k) hL R0 hr;refine kq ?_;generalize bB fs F.key*(F.own+F.below)=wh at ex R C;generalize bB fs F.key=fv at ex R C;refine cps λPq kq=>?_;obtain⟨es,t1,t2,t3,t4,t5⟩:=R.a;have lta:=(q0b.mp t1).1;have ltb:tb<H1.length:=by obtain⟨es,b,_⟩:=R.b;exact(q0b.mp b).1
 have dA:(H1++[O.dict []])[H1.length]?=some (.dict []):=bX _;have RA:=R.app [.dict []];have CA:=C.app [.dict []];have tA:(H1++[O.dict []])[ta]?=some (.dict (aO a9 es)):=ar t1;have lA:(H1++[O.dict []]).length=H1.length+1:=by simp
 refine kq ?_
 -- the row a0S Zm
 refine cps λPq kq=>?_;obtain⟨p0,Z6,WC,hc0⟩:∃p0:Q4×Nat,((aO a9 es).lookup F.key).getD (a9 ((0,0,0,0),H1.length))=a9 p0/\p0.1=((ga F.key).getD sw).1/\bW m (H1++[O.dict []]) p0.2 ((ga F.key).getD sw).2:=by
  rw[be];cases Tx:es.lookup F.key with
  |none=>
   refine⟨((0,0,0,0),H1.length),rfl,?_,?_⟩
   ·rw[t4 _ Tx];rfl
   ·rw[t4 _ Tx];exact⟨[],dA,dV.nil,by simp⟩
  |some p=>
   obtain⟨q,d⟩:=p;obtain⟨_,_,c,e1,e2⟩:=t5 _ _ _ Tx;refine⟨(q,d),rfl,?_,?_⟩
   ·rw[e1];rfl
   ·rw[e1];exact e2.app _
 have gd:=rF (H:=H1++[O.dict []]) (key:=F.key) (d:=a9 ((0,0,0,0),H1.length)) tA;rw[Z6] at gd;obtain⟨uY,a1,a2,a3⟩:=uK (L:=L) (n:=n) (k:=k) (t:=p0.1) (s:=(fv,1,F.own,wh)) (H:=H1++[O.dict []]) hL (by lia) hc0 CA;have RB:=RA.app [.dict (aO qV uY)];have CB:bW (m+1) ((H1++[O.dict []])++[O.dict (aO qV uY)]) (H1++[O.dict []]).length (λj=>fO (((ga F.key).getD sw).2 j) (qD fs (1,fv,F.own,wh) j)):=⟨uY,bX _,a2,a3⟩
 obtain⟨es2,b1,b2,RC⟩:=RB.tab (k:=F.key) (p:=fg (fv,1,F.own,wh) p0.1) CB (by lia) (by lia);have st:=i7 (z:=[]) (k:=F.key) (u:=a9 (fg (fv,1,F.own,wh) p0.1,(H1++[O.dict []]).length)) b1 (by simp) (by simp[aO];lia);rw[iJ] at st;have lB:((H1++[O.dict []])++[O.dict (aO qV uY)]).length=H1.length+2:=by simp
 have kB:∀j,j<H1.length->((H1++[O.dict []])++[O.dict (aO qV uY)])[j]?=H1[j]? :=λj hj=>by rw[q0e (by simp;lia),q0e hj]
 have ndx:dy H1 (.ref ta)=some .dict:=by simp only[bH,t1];rfl
 rw[WC] at RC;refine kq ?_;generalize WN:List.set ((H1++[O.dict []])++[O.dict (aO qV uY)]) ta (O.dict (aO a9 (fF es2 F.key (fg (fv,1,F.own,wh) p0.1,(H1++[O.dict []]).length))))=HC at st;rw[<-WC,WN] at RC;have s9:j6 L n k ⟨H1,[some (.ref ts),some (.ref lr),some (.str F.key),some (.int F.own),some (.int F.below),some (.int fv),some (.int wh),some (.ref cl),some (.ref ta),none]⟩=some (.next,⟨HC,[some (.ref ts),some (.ref lr),some (.str F.key),some (.int F.own),some (.int F.below),some (.int fv),some (.int wh),some (.ref cl),some (.ref ta),none]⟩):=by unfold a9 at gd a1 st;clear ex R C R0 RA RB RC CA CB WN kB k1 t4 t5 a2 hc0 b1 lA lB l1 dA tA t1 WC Z6;unfold j6;simp only[cT,bj,↓aG,↓aR,↓aq,↓lD,↓pG,↓Jl,↓V5,↓Jk,↓ZC,↓aC,↓b8,v8,rP,↓GE,↓aj,↓ah,↓du,↓reduceIte, *]
 have Qp:iG L n k ⟨HC,[some (.ref ts),some (.ref lr),some (.str F.key),some (.int F.own),some (.int F.below),some (.int fv),some (.int wh),some (.ref cl),some (.ref ta),none]⟩=some (.next,⟨HC.set ts (.list [.ref tb,.ref ta]),[some (.ref ts),some (.ref lr),some (.str F.key),some (.int F.own),some (.int F.below),some (.int fv),some (.int wh),some (.ref cl),some (.ref ta),none]⟩):=by
  have q1:=IW (z:=[]) RC.tabs (by simp) (Nat.le_of_ble_eq_true rfl);have q2:dy HC (.ref ts)=some .list:=by simp only[bH,RC.tabs];rfl
  clear ex R C R0 RA RB RC CA CB WN kB k1 t4 t5 a2 hc0 b1 lA lB l1 dA tA t1 WC Z6 s9;unfold iG;simp only[cT,bj,↓aR,↓mn,↓aC,↓b8,QN,↓aj,↓hU,↓eC,↓du,↓reduceIte, *];rfl
 refine⟨_,wJ (fl:=.next) (ex _ (ag s9 (ag Qp rfl))),?_,?_,λj hj h1 h2 h3 h4=>?_⟩
 ·have:=RC.swap
  unfold jo;rw[<-WC];exact this
 ·rw[<-WN];simp;lia
 ·rw[q0j (Ne.symm h1),<-WN,q0j (Ne.symm h2),kB j (by lia)]
  exact k1 j hj h3 h4
end
inductive Op where
 |beg (k c:Int)
 |blt (k c:Int)
 |fin
noncomputable def gk(k:Int):Str:=if k=0 then "0" else if k=1 then "-20" else if k=2 then "300" else "7"
noncomputable def oi:Op->List Str
 |.beg k c=>[bU k,":",gk k,"(",bf c]
 |.blt k c=>((if k=0 then[("{" : Str)] else if k=2 then[("<" : Str)] else[])++[bf c])++(if k=0 then[("}" : Str)] else if k=3 then[(">" : Str)] else[])
 |.fin=>[")"]
noncomputable def Op.ok:Op->Prop
 |.beg k c=>(0<=k/\k<4)/\0<=c/\c<100
 |.blt k c=>(0<=k/\k<4)/\0<=c/\c<100
 |.fin=>True
noncomputable def dY(dZ:List Op):List Str:=dZ.flatMap oi
noncomputable def pH(k:Int):Str:=if k=0 then "a:0()" else if k=1 then "a:-20()" else if k=2 then "b.c:300()" else "~:7()"
noncomputable def rB(k:Int):Str:=if k=0 then "{}" else if k=1 then "" else if k=2 then "<" else ">"
structure su where
 fs:List EF
 ga:TG
 gb:TG
noncomputable def jM(s:su):su:=match s.fs with
 |[]=>s
 |F::fs=>⟨bump fs (F.own+F.below),s.gb,jo s.ga F.key (bB fs F.key,1,F.own,bB fs F.key*(F.own+F.below)) (qD fs (1,bB fs F.key,F.own,bB fs F.key*(F.own+F.below)))⟩
noncomputable def ib(s:su):Op->su
 |.beg k c=>⟨⟨pH k,c,0⟩::s.fs,s.ga,s.gb⟩
 |.blt k c=>jM ⟨⟨rB k,c,0⟩::s.fs,s.ga,s.gb⟩
 |.fin=>jM s
section
variable{L n k m:Nat}{H:List O}{mk p:Nat}{ms:List Str}
theorem gj{i:Nat}{x:Str}(h:H[mk]?=some (.list (ms.map V.str)))(hl:ms.length<=2000)(hx:ms[i]?=some x):ud (i:Int) H[mk]?=some (.str x):=by rw[h,di _ _ (by have:ax=1048576:=rfl;simp;lia),hG,List.getElem?_map,hx];rfl
theorem DI{i:Nat}{x:Str}(h:H[mk]?=some (.list (ms.map V.str)))(hl:ms.length<=2000)(hx:ms[i+2]?=some x):ud ((i:Int)+2) H[mk]?=some (.str x):=gj (i:=i+2) h hl hx
theorem Aj{i:Nat}{x:Str}(h:H[mk]?=some (.list (ms.map V.str)))(hl:ms.length<=2000)(hx:ms[i+4]?=some x):ud ((i:Int)+4) H[mk]?=some (.str x):=gj (i:=i+4) h hl hx
theorem tD(i:Nat):iK (ms.map V.str) (some ((i:Int)+1)) (some ((i:Int)+2))=((ms.drop (i+1)).take 1).map V.str:=by
 have e1:(some ((i:Int)+1)).elim 0 (clipAt (ms.map V.str).length)=min (i+1) ms.length:=by show clipAt _ (((i+1:Nat):Int))=_;rw[clipAt_nat,q0w]
 have e2:(some ((i:Int)+2)).elim (ms.map V.str).length (clipAt (ms.map V.str).length)=min (i+2) ms.length:=by show clipAt _ (((i+2:Nat):Int))=_;rw[clipAt_nat,q0w]
 rw[tF e1 e2,<-List.map_drop,<-List.map_take];congr 1;by_cases h:i+1<ms.length
 ·rw[Nat.min_eq_left (by lia),Nat.min_eq_left (by lia)]
  congr 1;lia
 ·rw[Nat.min_eq_right (by lia),Nat.min_eq_right (by lia),List.drop_of_length_le (q0c _),List.drop_of_length_le (by lia)];simp
theorem mc{i:Nat}(h:H[mk]?=some (.list (ms.map V.str)))(hl:ms.length<=2000):bY (.ref mk) (some ((i:Int)+1)) (some ((i:Int)+2)) H=some (.ref H.length,H++[.list (((ms.drop (i+1)).take 1).map V.str)]):=by have hz:ax=1048576:=rfl;rw[zI _ _ h ⟨by simp;omega,by rw[tD];simp;omega⟩,tD]
theorem oO{a b:Nat}{xs ys:List Str}(h1:H[a]?=some (.list (xs.map V.str)))(h2:H[b]?=some (.list (ys.map V.str)))(hn:a≠b)(j:Nat):gU (j+2) H (.ref a) (.ref b)=some (xs==ys):=by
 have all:∀xs ys:List Str,xs.length=ys.length->gT (gU (j+1) H) (xs.map V.str) (ys.map V.str)=some (xs==ys):=by
  intro xs
  induction xs with
  |nil=>intro ys h;cases ys with
   |nil=>rfl
   |cons _ _=>simp at h
  |cons x xs ih=>intro ys h;cases ys with
   |nil=>simp at h
   |cons y ys=>
    rw[q1p,q1p];show(some (x==y)).bind (λb=>(gT (gU (j+1) H) (xs.map V.str) (ys.map V.str)).map λc=>b&&c)=_;rw[ih ys (by simpa using h)];rfl
 show(if a=b then none else Ny (gU (j+1) H) H a b)=_;rw[q1l hn];unfold Ny;simp only[b9,h1,h2,jS,List.length_map];by_cases hl:xs.length=ys.length
 ·rw[q1k hl,all xs ys hl]
 ·rw[q1l hl]
  congr 1;symm;rw[q2d];exact λe=>hl (by rw[e])
end
noncomputable abbrev SL(mk ts lr i:Nat)(a b:Option V):List (Option V):=[some (.ref mk),some (.ref ts),some (.ref lr),some (.int i),a,b,none,none,none,none]
noncomputable def ndO:O->Bool
 |.dict _=>false
 |_=>true
inductive pM(m:Nat)(H:List O)(ts ta tb lr:Nat)(rs:List Nat)(s:su)(H':List O):Prop
 |mk (GK:_) (GJ:_) (nX:_) (h1:cW m H' ts GK GJ lr nX s.fs s.ga s.gb) (h2:H.length<=H'.length) (h3:∀(j:Nat)(o:O),ndO o=true->H[j]?=some o->j≠ts->j≠lr->j∉rs->H'[j]?=some o/\j∉nX):pM m H ts ta tb lr rs s H'
inductive TR(L n k mk ts lr i:Nat)(a b:Option V)(H:List O)(i':Nat)(T:List O->Prop):Prop
 |mk (H':List O) (a' b':Option V) (e:jh L n k ⟨H,SL mk ts lr i a b⟩=some (.next,⟨H',SL mk ts lr i' a' b'⟩)) (h:T H'):TR L n k mk ts lr i a b H i' T
section
variable{L n k m:Nat}{H:List O}{mk ts ta tb lr i:Nat}{rs:List Nat}{ms:List Str}{a b:Option V}{s:su}{fs:List EF}{F:EF}{ga gb:TG}
theorem cW.push{q:Nat}(R:cW m H ts ta tb lr rs fs ga gb)(hq:q∉ts::lr::rs)(hF:H[q]?=some F.obj):cW m (H.set lr (.list ((q::rs).map V.ref).reverse)) ts ta tb lr (q::rs) (F::fs) ga gb:=by have h:=R.nd;simp only[List.nodup_cons,List.mem_cons,not_or] at h hq;refine cps λPq kq=>?_;obtain⟨⟨h1,h2⟩,h3,h4⟩:=h;obtain⟨q1,q2,q3⟩:=hq;refine kq ?_;refine⟨ay h1 R.tabs,bx R.lst,⟨ay q2 hF,R.frs.keep λr hr _ h=>ay (n:=lr) (λe=>h3 (e▸hr)) h⟩,R.a.sU R.lst,R.b.sU R.lst,?_,R.ab⟩;simp only[List.nodup_cons,List.mem_cons,not_or];exact⟨⟨h1,Ne.symm q1,h2⟩,⟨Ne.symm q2,h3⟩,q3,h4⟩
theorem cW.lt(R:cW m H ts ta tb lr rs fs ga gb)(hq:q∈ts::lr::rs):q<H.length:=by
 rcases q0m.mp hq with rfl | hq
 ·exact(q0b.mp R.tabs).1
 rcases q0m.mp hq with rfl | hq
 ·exact(q0b.mp R.lst).1
 exact R.frs.lt q hq
theorem vk:pX L n k ⟨H,SL mk ts lr i a b⟩=some (.next,⟨H,SL mk ts lr (i+1) a b⟩):=rfl
theorem uu(hL:1000<L)(R:cW m H ts ta tb lr rs s.fs s.ga s.gb)(hf:s.fs≠[])(hr:rs.length<=100)(hm:m<=400):∀{G:Prop},(∀H',lU L n k [.ref ts,.ref lr] H=some (.none,H')->pM (m+1) H ts ta tb lr rs (jM s) H'->G)->G:=by
 intro Gq kq0;obtain⟨fs,ga,gb⟩:=s;have hl:=R.frs.len;cases fs with
 |nil=>exact q1t rfl hf
 |cons F fs=>cases rs with
  |nil=>simp at hl
  |cons f rs=>
   obtain⟨H',e,R',l,kk⟩:=wy (L:=L) (n:=n) (k:=k) hL R (by simp at hr;lia) hm;refine kq0 H' e ⟨tb,ta,rs,R',l,λj o nd hj h1 h2 h3=>?_⟩;simp only[List.mem_cons,not_or] at h3;exact⟨(kk j (q0b.mp hj).1 h1 (λe=>by obtain⟨_,a',_⟩:=R.a;rw[e,a'] at hj;cases hj;cases nd) h2 h3.2).trans hj,h3.2⟩
theorem BE(hL:1000<L)(R:cW m H ts ta tb lr rs s.fs s.ga s.gb)(hf:s.fs≠[])(hr:rs.length<=100)(hm:m<=400)(h:H[mk]?=some (.list (ms.map V.str)))(hl:ms.length<=2000)(hx:ms[i]?=some ")"):TR L n k mk ts lr i a b H (i+1) (pM (m+1) H ts ta tb lr rs (jM s)):=by
 refine cps λPq kq=>?_;refine uu (L:=L) (n:=n+6) (k:=k) hL R hf hr hm λH' e T=>?_;have m0:=gj h hl hx;have t1:(Y (Y (af 0) λa=>Y (af 3) λb=>av a b) λa=>Y (Z (.str ")")) λb=>aF .Eq a b) ⟨H,SL mk ts lr i a b⟩=some (true,⟨H,SL mk ts lr i a b⟩):=by refine aS (a:=.str ")") ?_ rfl rfl;rw[ai (ao (v:=.ref mk) rfl),ai (ao (v:=.int i) rfl),aX,aJ,m0];rfl
 refine kq ?_;refine⟨H',a,b,ag ((fU t1).trans (ag ?_ rfl)) (ag vk rfl),T⟩;clear t1 T;unfold sW;simp only[bj,↓aR,↓aq,↓uV,↓lD,↓aC,↓aj,↓ah, *]
theorem D5{k:Int}(k0:0<=k)(k1:k<4):blt .int [.str (gk k)] H=some (.int (cJ k),H):=by have:(gk k).length<=640/\PySem.intText? (gk k)=some (cJ k):=lO (P:=λk=>(gk k).length<=640/\PySem.intText? (gk k)=some (cJ k)) (by decide +kernel) (by decide +kernel) (by decide +kernel) (by decide +kernel) k0 k1;show A9 (.str (gk k)) H=_;unfold A9;simp only[vI,vS,Option.bind_some];rw[q1k this.1,this.2];rfl
theorem nA(c0:0<=c)(c1:c<100):blt .int [.str (bf c)] H=some (.int c,H):=by have:(bf c).length<=640/\PySem.intText? (bf c)=some c:=dD (P:=λc=>(bf c).length<=640/\PySem.intText? (bf c)=some c) (by decide +kernel) c0 c1;show A9 (.str (bf c)) H=_;unfold A9;simp only[vI,vS,Option.bind_some];rw[q1k this.1,this.2];rfl
theorem GR{k:Int}(k0:0<=k)(k1:k<4){n kk:Nat}:rV L n kk [.tup [.str (bU k),.int (cJ k),.str ""]] H=some (.str (pH k),H):=by
 have q:∃s,cF (cJ k)=some s/\(bU k==("~" : Str)&&(cJ k==0&&true))=false/\(bU k).length<=1000000/\Pct.iq (bU k) s "" = pH k:=
  lO (P:=λk=>∃s,cF (cJ k)=some s/\(bU k==("~" : Str)&&(cJ k==0&&true))=false/\(bU k).length<=1000000/\Pct.iq (bU k) s "" = pH k) ⟨"0",by decide +kernel⟩ ⟨"-20",by decide +kernel⟩ ⟨"300",by decide +kernel⟩ ⟨"7",by decide +kernel⟩ k0 k1
 refine cps λPq kq=>?_;obtain⟨s,e1,e2,e3,e4⟩:=q;refine kq ?_;rw[sP _ _ _ s e1 e2 e3 (by decide),e4]
theorem xZ(h:H[mk]?=some (.list (ms.map V.str)))(hl:ms.length<=2000)(y:Str):∀{G:Prop},(∀H1,(Y (Y (af 0) λa=>Y (cx (some (Y (af 3) λa=>Y (Z (.int 1)) λb=>au (bn .Add a b)))) λi=>Y (cx (some (Y (af 3) λa=>Y (Z (.int 2)) λb=>au (bn .Add a b)))) λj=>au (bY a i j)) λa=>Y (Y (an [Z (.str y)]) λvs=>au (bt vs)) λb=>aF .Eq a b) ⟨H,SL mk ts lr i a b⟩=some (((ms.drop (i+1)).take 1)==[y],⟨H++H1,SL mk ts lr i a b⟩)->G)->G:=by
 intro Gq kq0;have sl:=mc (i:=i) h hl;refine kq0 [.list (((ms.drop (i+1)).take 1).map V.str),.list ([y].map V.str)] ?_;have e1:(Y (af 0) λa=>Y (cx (some (Y (af 3) λa=>Y (Z (.int 1)) λb=>au (bn .Add a b)))) λi=>Y (cx (some (Y (af 3) λa=>Y (Z (.int 2)) λb=>au (bn .Add a b)))) λj=>au (bY a i j)) ⟨H,SL mk ts lr i a b⟩=some (.ref H.length,⟨H++[.list (((ms.drop (i+1)).take 1).map V.str)],SL mk ts lr i a b⟩):=by clear h;simp only[bj,↓aG,↓aq,↓mn,↓pG,↓aC,ez,add_int,↓bV,↓cA,Option.bind_some, *]
 have e2:(Y (an [Z (.str y)]) λvs=>au (bt vs)) ⟨H++[.list (((ms.drop (i+1)).take 1).map V.str)],SL mk ts lr i a b⟩=some (.ref (H++[O.list (((ms.drop (i+1)).take 1).map V.str)]).length,⟨(H++[.list (((ms.drop (i+1)).take 1).map V.str)])++[.list ([y].map V.str)],SL mk ts lr i a b⟩):=rfl;have q:=oO (H:=(H++[.list (((ms.drop (i+1)).take 1).map V.str)])++[.list ([y].map V.str)]) (a:=H.length) (b:=(H++[O.list (((ms.drop (i+1)).take 1).map V.str)]).length) (ar (bX _)) (bX _) (by simp) 6;rw[ai e1,ai e2,eR,show bC .Eq ((H++[O.list (((ms.drop (i+1)).take 1).map V.str)])++[O.list ([y].map V.str)]) (.ref H.length) (.ref (H++[O.list (((ms.drop (i+1)).take 1).map V.str)]).length)=gU (6+2) ((H++[O.list (((ms.drop (i+1)).take 1).map V.str)])++[O.list ([y].map V.str)]) (.ref H.length) (.ref (H++[O.list (((ms.drop (i+1)).take 1).map V.str)]).length) from rfl,q,q0i];rfl
end
section
variable{L n k m:Nat}{H:List O}{mk ts ta tb lr i:Nat}{rs:List Nat}{ms:List Str}{a b:Option V}{s:su}{fs:List EF}{F:EF}{ga gb:TG}
theorem ED(h:ms[i]?=some x):(ms.drop i).take 1=[x]:=by
 have hl:=(q0b.mp h).1;rw[q2m hl];have:ms[i] = x:=by rw[q0h hl] at h;exact q0a h
 rw[this];rfl
theorem sJ(m0:ud (i:Int) H[mk]?=some (.str x)):(Y (Y (af 0) λa=>Y (af 3) λb=>av a b) λa=>Y (Z (.str ")")) λb=>aF .Eq a b) ⟨H,SL mk ts lr i a b⟩=some (x==(")" : Str),⟨H,SL mk ts lr i a b⟩):=by refine aS (a:=.str x) ?_ rfl rfl;rw[ai (ao (v:=.ref mk) rfl),ai (ao (v:=.int i) rfl),aX,aJ,m0];rfl
theorem BF(k0:0<=kd)(k1:kd<4)(c0:0<=c)(c1:c<100)(R:cW m H ts ta tb lr rs s.fs s.ga s.gb)(hr:rs.length<=100)(h:H[mk]?=some (.list (ms.map V.str)))(hl:ms.length<=2000)(h0:ms[i]?=some (bU kd))(h1:ms[i+1]?=some ":")(h2:ms[i+2]?=some (gk kd))(h4:ms[i+4]?=some (bf c)):TR L n k mk ts lr i a b H (i+5) (pM m H ts ta tb lr rs (ib s (.beg kd c))):=by
 have hz:ax=1048576:=rfl;have t1:=sJ (ts:=ts) (lr:=lr) (a:=a) (b:=b) (gj h hl h0);have hf:(bU kd==(")" : Str))=false:=lO (P:=λkd=>(bU kd==(")" : Str))=false) (by decide) (by decide) (by decide) (by decide) k0 k1;rw[hf] at t1;refine xZ (ts:=ts) (lr:=lr) (i:=i) (a:=a) (b:=b) h hl ":" λJ t2=>?_;rw[ED h1] at t2;have RJ:=R.app J;have hJ:(H++J)[mk]?=some (.list (ms.map V.str)):=ar h;have kJ:∀(j:Nat)(o:O),H[j]?=some o->(H++J)[j]?=some o:=λj o hj=>ar hj;have lJ:H.length<=(H++J).length:=by simp
 generalize H++J=H1 at RJ hJ kJ lJ t2;have R2:=RJ.app [EF.obj ⟨pH kd,c,0⟩];have hq:H1.length∉ts::lr::rs:=λhm=>q1c _ (RJ.lt hm);have R3:=R2.push (q:=H1.length) (F:=⟨pH kd,c,0⟩) hq (bX _);have lst:=R2.lst;have ap:=gn (z:=[]) (v:=.ref H1.length) lst (by simp) (by simp;lia);have eq:(rs.map V.ref).reverse++[V.ref H1.length] = ((H1.length::rs).map V.ref).reverse:=by simp
 rw[eq] at ap;have m0:=gj hJ hl h0;have m2:=DI hJ hl h2;have m4:=Aj hJ hl h4;have il:=D5 (H:=H1) k0 k1;have ic:=nA (H:=H1) c0 c1;have sk:=GR (L:=L) (n:=n+16) (kk:=k+2) (H:=H1) k0 k1;have kd1:dy H1 (.ref lr)=some .list:=by simp only[bH,RJ.lst];rfl
 have s4:nV L n k ⟨H1,SL mk ts lr i a b⟩=some (.next,⟨(H1++[EF.obj ⟨pH kd,c,0⟩]).set lr (.list ((H1.length::rs).map V.ref).reverse),SL mk ts lr i a b⟩):=by simp only[EF.obj] at ap;clear t1 t2 R RJ R2 R3 lst h hJ kJ lJ h0 h1 h2 h4 hf eq;unfold nV;simp only[cT,bj,↓aG,↓aR,↓aq,↓mn,↓lD,↓pG,↓bP,↓aC,↓b8,jE,Wb,add_int,↓vc,↓aj,↓ah,aJ,↓du,↓reduceIte, *];rfl
 have rn:∀{r},rs=r->r.length=rs.length:=λe=>by rw[e]
 refine⟨_,a,b,ag ((dW t1).trans ((f7 t2).trans (ag s4 (ag (σ':=⟨_,SL mk ts lr (i+4) a b⟩) rfl rfl)))) (ag vk rfl),⟨ta,tb,H1.length::rs,R3,by simp;lia,λj o nd hj g1 g2 g3=>⟨?_,?_⟩⟩⟩
 ·rw[q0j (Ne.symm g2),q0e (q0b.mp (kJ j o hj)).1];exact kJ j o hj
 ·simp only[List.mem_cons,not_or]
  exact⟨by have:=(q0b.mp hj).1;lia,g3⟩
end
section
variable{L n k m:Nat}{H:List O}{mk ts ta tb lr i:Nat}{rs:List Nat}{ms:List Str}{a b:Option V}{s:su}{fs:List EF}{F:EF}{ga gb:TG}
theorem Jc(m0:ud (i:Int) H[mk]?=some (.str x)):∃J,(Y (Y (af 0) λa=>Y (af 3) λb=>av a b) λa=>Y (Y (an [Z (.str "{"),Z (.str "<")]) λvs=>au (bt vs)) λb=>aF .In a b) ⟨H,SL mk ts lr i a b⟩=some ((("{" : Str)==x)||(("<" : Str)==x),⟨H++J,SL mk ts lr i a b⟩):=by
 refine⟨[.list [.str "{",.str "<"]],?_⟩;have e1:(Y (af 0) λa=>Y (af 3) λb=>av a b) ⟨H,SL mk ts lr i a b⟩=some (.str x,⟨H,SL mk ts lr i a b⟩):=by rw[ai (ao (v:=.ref mk) rfl),ai (ao (v:=.int i) rfl),aX,aJ,m0];rfl
 have e2:(Y (an [Z (.str "{"),Z (.str "<")]) λvs=>au (bt vs)) ⟨H,SL mk ts lr i a b⟩=some (.ref H.length,⟨H++[.list [.str "{",.str "<"]],SL mk ts lr i a b⟩):=rfl;have q:ug 8 (H++[O.list [.str "{",.str "<"]]) (.str x) (.ref H.length)=some ((("{" : Str)==x)||(("<" : Str)==x)):=by unfold ug;simp only[vS,vT,vR,ie,jw,Option.bind_some,b9,bX,jS];have:=pm (H:=H++[O.list [.str "{",.str "<"]]) (k:=x) ["{","<"];rw[show([("{" : Str),("<" : Str)]:List Str).map V.str=[.str "{",.str "<"] from rfl] at this;rw[this];simp
 rw[ai e1,ai e2,eR,show bC .In (H++[O.list [.str "{",.str "<"]]) (.str x) (.ref H.length)=ug 8 (H++[O.list [.str "{",.str "<"]]) (.str x) (.ref H.length) from rfl,q];rfl
theorem ES(h:H[mk]?=some (.list (ms.map V.str)))(hl:ms.length<=2000):∃J,(Y (Y (af 0) λa=>Y (cx (some (Y (af 3) λa=>Y (Z (.int 1)) λb=>au (bn .Add a b)))) λi=>Y (cx (some (Y (af 3) λa=>Y (Z (.int 2)) λb=>au (bn .Add a b)))) λj=>au (bY a i j)) λa=>Y (Y (an [Y (an [Z (.str "}")]) λvs=>au (bt vs),Y (an [Z (.str ">")]) λvs=>au (bt vs)]) λvs=>au (bt vs)) λb=>aF .In a b) ⟨H,SL mk ts lr i a b⟩=some (([("}" : Str)]==(ms.drop (i+1)).take 1)||([(">" : Str)]==(ms.drop (i+1)).take 1),⟨H++J,SL mk ts lr i a b⟩):=by
 have sl:=mc (i:=i) h hl;generalize hw:(ms.drop (i+1)).take 1=w at sl ⊢;clear hw;refine⟨[.list (w.map V.str),.list [.str "}"],.list [.str ">"],.list [.ref (H.length+1),.ref (H.length+2)]],?_⟩;have e1:(Y (af 0) λa=>Y (cx (some (Y (af 3) λa=>Y (Z (.int 1)) λb=>au (bn .Add a b)))) λi=>Y (cx (some (Y (af 3) λa=>Y (Z (.int 2)) λb=>au (bn .Add a b)))) λj=>au (bY a i j)) ⟨H,SL mk ts lr i a b⟩=some (.ref H.length,⟨H++[.list (w.map V.str)],SL mk ts lr i a b⟩):=by clear h;simp only[bj,↓aG,↓aq,↓mn,↓pG,↓aC,ez,add_int,↓bV,↓cA,Option.bind_some, *]
 have l1:(H++[O.list (w.map V.str)]).length=H.length+1:=by simp
 have e2:(Y (an [Y (an [Z (.str "}")]) λvs=>au (bt vs),Y (an [Z (.str ">")]) λvs=>au (bt vs)]) λvs=>au (bt vs)) ⟨H++[.list (w.map V.str)],SL mk ts lr i a b⟩=some (.ref (H.length+3),⟨H++[.list (w.map V.str),.list [.str "}"],.list [.str ">"],.list [.ref (H.length+1),.ref (H.length+2)]],SL mk ts lr i a b⟩):=by have f1:∀(H:List O)(v:V),(Y (an [Z v]) λvs=>au (bt vs)) ⟨H,SL mk ts lr i a b⟩=some (.ref H.length,⟨H++[.list [v]],SL mk ts lr i a b⟩):=λ_ _=>rfl;rw[ah,ai (f1 _ _),ah,ai (f1 _ _),aj];show some ((V.ref _),(⟨_,_⟩:St))=_;simp[List.append_assoc]
 generalize WO:H++[O.list (w.map V.str),.list [.str "}"],.list [.str ">"],.list [.ref (H.length+1),.ref (H.length+2)]] = H4 at e2 ⊢;have g0:H4[H.length]?=some (.list (w.map V.str)):=by rw[<-WO];exact fM
 have g1:H4[H.length+1]?=some (.list ([("}" : Str)].map V.str)):=by rw[<-WO,q2h (by lia)];simp
 have g2:H4[H.length+2]?=some (.list ([(">" : Str)].map V.str)):=by rw[<-WO,q2h (by lia)];simp
 have g3:H4[H.length+3]?=some (.list [.ref (H.length+1),.ref (H.length+2)]):=by rw[<-WO,q2h (by lia)];simp
 clear WO;have q1:=oO g1 g0 (by lia) 6;have q2:=oO g2 g0 (by lia) 6;have q:ug 8 H4 (.ref H.length) (.ref (H.length+3))=some (([("}" : Str)]==w)||([(">" : Str)]==w)):=by unfold ug;simp only[vS,vT,vR,ie,jw,Option.bind_some,b9,g3,jS];show(gU (6+2) H4 (.ref (H.length+1)) (.ref H.length)).bind (λb=>((gU (6+2) H4 (.ref (H.length+2)) (.ref H.length)).bind (λb=>(some false).map λc=>b||c)).map λc=>b||c)=_;rw[q1,q2];simp
 rw[ai e1,ai e2,eR,show bC .In H4 (.ref H.length) (.ref (H.length+3))=ug 8 H4 (.ref H.length) (.ref (H.length+3)) from rfl,q];rfl
end
section
variable{L n k m:Nat}{H:List O}{mk ts ta tb lr i:Nat}{rs:List Nat}{ms:List Str}{a b:Option V}{s:su}{fs:List EF}{F:EF}{ga gb:TG}
theorem Ft(lf:Bool)(m0:ud (i:Int) H[mk]?=some (.str x))(hx:((("{" : Str)==x)||(("<" : Str)==x))=lf):∃J,∀z,ak (i9 L n k) (ak (lg L n k) (ak (gJ L n k) (ak (i8 L n k) (Z .next)))) ⟨H++J,SL mk ts lr (if lf then i+1 else i) (some (.str (if lf then("<" : Str) else ""))) b⟩=z->qE L n k ⟨H,SL mk ts lr i a b⟩=z:=by
 obtain⟨J,t⟩:=Jc (ts:=ts) (lr:=lr) (a:=some (.str "")) (b:=b) m0;rw[hx] at t;refine⟨J,λz kk=>?_⟩;refine ag (σ':=⟨H,SL mk ts lr i (some (.str "")) b⟩) rfl ?_;cases lf with
 |true=>exact ag ((fU t).trans (ag (σ':=⟨H++J,SL mk ts lr (i+1) (some (.str "<")) b⟩) rfl rfl)) kk
 |false=>exact ag ((dW t).trans rfl) kk
theorem EL(c0:0<=c)(c1:c<100)(m0:ud (i:Int) H[mk]?=some (.str (bf c))):i9 L n k ⟨H,SL mk ts lr i a b⟩=some (.next,⟨H,SL mk ts lr i a (some (.int c))⟩):=by have ic:=nA (H:=H) c0 c1;unfold i9;simp only[cT,bj,↓aR,↓aq,↓mn,↓pG,↓ms5,↓bP,↓aC,↓aj,↓ah,aJ, *]
theorem A2(rt:Bool)(h:H[mk]?=some (.list (ms.map V.str)))(hl:ms.length<=2000)(hn:nm.length<=10)(hx:(([("}" : Str)]==(ms.drop (i+1)).take 1)||([(">" : Str)]==(ms.drop (i+1)).take 1))=rt):∃J,lg L n k ⟨H,SL mk ts lr i (some (.str nm)) b⟩=some (.next,⟨H++J,SL mk ts lr (if rt then i+1 else i) (some (.str (if rt then nm++(">" : Str) else nm))) b⟩):=by
 obtain⟨J,t⟩:=ES (ts:=ts) (lr:=lr) (i:=i) (a:=some (.str nm)) (b:=b) h hl;rw[hx] at t;refine⟨J,?_⟩;cases rt with
 |false=>exact(dW t).trans rfl
 |true=>
  refine(fU t).trans (ag ?_ rfl);have ad:=add_str (H:=H++J) nm ">" (by have h1:(PySem.Str.ofString ">").length=1:=rfl;have:ax=1048576:=rfl;lia);clear t h hx;unfold pY;simp only[bj,↓aG,↓aq,↓pG,↓v7,↓aC,cU,add_int,↓sG,↓aj,↓ah,Option.bind_some,dL,↓reduceIte, *];rfl
theorem Fu(hL:1000<L)(R:cW m H ts ta tb lr rs s.fs s.ga s.gb)(hr:rs.length<=99)(hm:m<=400)(hn:nm.length<=20)(hk:fa nm=key):∀{G:Prop},(∀H',ak (gJ L n k) (ak (i8 L n k) (Z .next)) ⟨H,SL mk ts lr i (some (.str nm)) (some (.int c))⟩=some (.next,⟨H',SL mk ts lr i (some (.str nm)) (some (.int c))⟩)->pM (m+1) H ts ta tb lr rs (jM ⟨⟨key,c,0⟩::s.fs,s.ga,s.gb⟩) H'->G)->G:=by
 intro Gq kq0;have hz:ax=1048576:=rfl;subst hk;have R2:=R.app [EF.obj ⟨fa nm,c,0⟩];have hq:H.length∉ts::lr::rs:=λhm=>q1c _ (R.lt hm);have R3:=R2.push (q:=H.length) (F:=⟨fa nm,c,0⟩) hq (bX _);have ap:=gn (z:=[]) (v:=.ref H.length) R2.lst (by simp) (by simp;lia);have eq:(rs.map V.ref).reverse++[V.ref H.length] = ((H.length::rs).map V.ref).reverse:=by simp
 rw[eq] at ap;have sb:=xB (L:=L) (n:=n+12) (k:=k+2) (H:=H) nm (by lia);have kd1:dy H (.ref lr)=some .list:=by simp only[bH,R.lst];rfl
 have Tp:gJ L n k ⟨H,SL mk ts lr i (some (.str nm)) (some (.int c))⟩=some (.next,⟨(H++[EF.obj ⟨fa nm,c,0⟩]).set lr (.list ((H.length::rs).map V.ref).reverse),SL mk ts lr i (some (.str nm)) (some (.int c))⟩):=by simp only[EF.obj] at ap;clear R R2 R3 eq;unfold gJ;simp only[cT,bj,↓aG,↓aR,↓aq,↓lD,↓v7,↓Jl,↓aC,↓b8,jE,Wb,↓vc,↓aj,↓ah,↓du,↓reduceIte, *];rfl
 refine uu (L:=L) (n:=n) (k:=k) (s:=⟨⟨fa nm,c,0⟩::s.fs,s.ga,s.gb⟩) hL R3 (by simp) (by simp;lia) hm λH' e T=>?_;refine kq0 H' (ag Tp (ag ?_ rfl)) ?_
 ·clear T R R2 R3 ap Tp sb eq
  unfold i8;simp only[bj,↓aR,↓aq,↓uV,↓lD,↓aC,↓aj,↓ah, *]
 ·obtain⟨GK,GJ,nX,R',l',k'⟩:=T
  refine⟨GK,GJ,nX,R',by simp at l';lia,λj o nd hj g1 g2 g3=>?_⟩;have lj:=(q0b.mp hj).1;refine k' j o nd ?_ g1 g2 ?_
  ·rw[q0j (Ne.symm g2),q0e lj];exact hj
  ·simp only[List.mem_cons,not_or]
   exact⟨by lia,g3⟩
end
section
variable{L n k m:Nat}{H:List O}{mk ts ta tb lr i:Nat}{rs:List Nat}{ms:List Str}{a b:Option V}{s:su}{fs:List EF}{F:EF}{ga gb:TG}
theorem jW(lf rt:Bool)(hL:1000<L)(R:cW m H ts ta tb lr rs s.fs s.ga s.gb)(hr:rs.length<=99)(hm:m<=400)(h:H[mk]?=some (.list (ms.map V.str)))(hl:ms.length<=2000)(c0:0<=c)(c1:c<100)(h0:ms[i]?=some x)(x1:(x==(")" : Str))=false)(x2:((ms.drop (i+1)).take 1==[(":" : Str)])=false)(x3:((("{" : Str)==x)||(("<" : Str)==x))=lf)(e1:(if lf then i+1 else i)=i1)(h1:ms[i1]?=some (bf c))(x4:(([("}" : Str)]==(ms.drop (i1+1)).take 1)||([(">" : Str)]==(ms.drop (i1+1)).take 1))=rt)(e2:(if rt then i1+1 else i1)=i2)(e3:(if rt then(if lf then("<" : Str) else "")++(">" : Str) else(if lf then("<" : Str) else ""))=nm)(hn:nm.length<=20)(hk:fa nm=key):TR L n k mk ts lr i a b H (i2+1) (pM (m+1) H ts ta tb lr rs (jM ⟨⟨key,c,0⟩::s.fs,s.ga,s.gb⟩)):=by have t1:=sJ (ts:=ts) (lr:=lr) (a:=a) (b:=b) (gj h hl h0);rw[x1] at t1;refine cps λPq kq=>?_;refine xZ (ts:=ts) (lr:=lr) (i:=i) (a:=a) (b:=b) h hl ":" λJ t2=>?_;rw[x2] at t2;have RJ:=R.app J;have hJ:(H++J)[mk]?=some (.list (ms.map V.str)):=ar h;obtain⟨J2,op⟩:=Ft (L:=L) (n:=n) (k:=k) (ts:=ts) (lr:=lr) (a:=a) (b:=b) lf (gj hJ hl h0) x3;have RJ2:=RJ.app J2;have hJ2:((H++J)++J2)[mk]?=some (.list (ms.map V.str)):=ar hJ;rw[e1] at op;have cr:=EL (L:=L) (n:=n) (k:=k) (ts:=ts) (lr:=lr) (a:=some (.str (if lf then("<" : Str) else ""))) (b:=b) c0 c1 (gj hJ2 hl h1);obtain⟨J3,cl⟩:=A2 (L:=L) (n:=n) (k:=k) (ts:=ts) (lr:=lr) (b:=some (.int c)) (nm:=if lf then("<" : Str) else "") rt hJ2 hl (by cases lf<;>decide) x4;rw[e2,e3] at cl;have RJ3:=RJ2.app J3;refine Fu (L:=L) (n:=n) (k:=k) (mk:=mk) (i:=i2) (c:=c) hL RJ3 hr hm hn hk λH' dn T=>?_;refine kq ?_;refine⟨H',some (.str nm),some (.int c),ag ((dW t1).trans ((cO t2).trans (op _ (ag cr (ag cl dn))))) (ag vk rfl),?_⟩;refine cps λPq kq=>?_;obtain⟨GK,GJ,nX,R',l',k'⟩:=T;refine kq ?_;exact⟨GK,GJ,nX,R',by simp at l';lia,λj o nd hj=>k' j o nd (ar (ar (ar hj)))⟩
end
theorem bL{ms:List Str}{i:Nat}{x:Str}{r:List Str}(h:ms.drop i=x::r):ms[i]?=some x/\ms.drop (i+1)=r:=by
 constructor
 ·have:=List.getElem?_drop (xs:=ms) (i:=i) (j:=0)
  rw[h] at this;simpa using this.symm
 ·rw[<-List.drop_drop,h];rfl
def k9(r:List Str):Prop:=(r.take 1==[(":" : Str)])=false/\([("}" : Str)]==r.take 1)=false/\([(">" : Str)]==r.take 1)=false
theorem Cn(h:∀o∈dZ,o.ok):k9 (dY dZ):=by
 cases dZ with
 |nil=>exact⟨by decide,by decide,by decide⟩
 |cons o r=>
  have ho:=h o (q0g ..);unfold dY;rw[List.flatMap_cons];have num:∀c:Int,0<=c->c<100->∀t,k9 (bf c::t):=λc c0 c1 t=>
   dD (P:=λc=>k9 (bf c::t)) (λc=>by
    have:((bf c.val==(":" : Str))=false/\(("}" : Str)==bf c.val)=false/\((">" : Str)==bf c.val)=false):=by
     have all:∀c:Fin 100,((bf c.val==(":" : Str))=false/\(("}" : Str)==bf c.val)=false/\((">" : Str)==bf c.val)=false):=by decide +kernel
     exact all c
    unfold k9;simp only[List.take_succ_cons,List.take_zero];show((bf c.val==(":" : Str))&&true)=false/\((("}" : Str)==bf c.val)&&true)=false/\(((">" : Str)==bf c.val)&&true)=false;simp[this]) c0 c1
  cases o with
  |beg kd c=>
   refine cps λPq kq=>?_;obtain⟨⟨k0,k1⟩,_⟩:=ho;refine kq ?_;exact lO (P:=λkd=>k9 (oi (.beg kd c)++dY r)) (by unfold k9 oi;simp;decide) (by unfold k9 oi;simp;decide) (by unfold k9 oi;simp;decide) (by unfold k9 oi;simp;decide) k0 k1
  |blt kd c=>
   refine cps λPq kq=>?_;obtain⟨⟨k0,k1⟩,c0,c1⟩:=ho;refine kq ?_;exact lO (P:=λkd=>k9 (oi (.blt kd c)++dY r)) (by unfold k9 oi;simp;decide) (num c c0 c1 _) (by unfold k9 oi;simp;decide) (num c c0 c1 _) k0 k1
  |fin=>unfold k9 oi;simp;decide
noncomputable def wY:Nat->List Op->Prop
 |_,[]=>True
 |d,.beg _ _::r=>wY (d+1) r
 |d,.blt _ _::r=>wY d r
 |0,.fin::_=>False
 |d+1,.fin::r=>wY d r
theorem Fs(fs:List EF)(x:Int):(bump fs x).length=fs.length:=by cases fs<;>rfl
theorem kE(s:su):(jM s).fs.length=s.fs.length-1:=by
 obtain⟨fs,ga,gb⟩:=s;cases fs with
 |nil=>rfl
 |cons F fs=>show(bump fs _).length=_;rw[Fs];rfl
section
variable{L n k:Nat}{mk ts lr:Nat}{ms:List Str}
theorem tR(h:H[mk]?=some (.list (ms.map V.str)))(hl:ms.length<=2000):(Y (af 3) λa=>Y (Y (an [af 0]) λvs=>au (blt .len vs)) λb=>aF .Lt a b) ⟨H,SL mk ts lr i a b⟩=some (decide (i<ms.length),⟨H,SL mk ts lr i a b⟩):=by
 have ln:=jb h (by have:ax=1048576:=rfl;simp;lia);refine aS (a:=.int i) (b:=.int ms.length) rfl ?_ ?_
 ·rw[ah,ai (ao (v:=.ref mk) rfl),aj,ez,ln]
  simp
 ·rw[lt_int]
  congr 1;exact decide_eq_decide.mpr (by lia)
inductive Ye(L n k mk ts lr i:Nat)(ms:List Str)(a b:Option V)(H:List O)(d:Nat)(r:List Op)(T:List O->Prop):Prop
 |mk (H':List O) (i':Nat) (a' b':Option V) (e:jh L n k ⟨H,SL mk ts lr i a b⟩=some (.next,⟨H',SL mk ts lr i' a' b'⟩)) (h:T H') (h2:ms.drop i'=dY r) (h3:wY d r):Ye L n k mk ts lr i ms a b H d r T
theorem Dw(hL:1000<L)(ok:∀o'∈o::r,o'.ok)(hb:wY s.fs.length (o::r))(R:cW m H ts ta tb lr rs s.fs s.ga s.gb)(hr:rs.length<=99)(hm:m<=400)(h:H[mk]?=some (.list (ms.map V.str)))(hl:ms.length<=2000)(hd:ms.drop i=dY (o::r)):Ye L n k mk ts lr i ms a b H (ib s o).fs.length r (pM (m+1) H ts ta tb lr rs (ib s o)):=by
 have okr:∀o'∈r,o'.ok:=λo' h=>ok o' (q0k _ h);have oko:=ok o (q0g ..);have sr:=Cn okr;rw[show dY (o::r)=oi o++dY r from rfl] at hd;have mono:∀{H'}{s':su},pM m H ts ta tb lr rs s' H'->pM (m+1) H ts ta tb lr rs s' H':=λT=>by
  obtain⟨GK,GJ,nX,R',l',k'⟩:=T;exact⟨GK,GJ,nX,⟨R'.tabs,R'.lst,R'.frs,R'.a.mono (q2g m),R'.b.mono (q2g m),R'.nd,R'.ab⟩,l',k'⟩
 cases o with
 |beg kd c=>
  refine cps λPq kq=>?_;obtain⟨⟨k0,k1⟩,c0,c1⟩:=oko;obtain⟨h0,d1⟩:=bL hd;obtain⟨h1,d2⟩:=bL d1;obtain⟨h2,d3⟩:=bL d2;obtain⟨h3,d4⟩:=bL d3;obtain⟨h4,d5⟩:=bL d4;obtain⟨H',a',b',e,T⟩:=BF (L:=L) (n:=n) (k:=k) (a:=a) (b:=b) k0 k1 c0 c1 R (by lia) h hl h0 h1 h2 h4;refine kq ?_;exact⟨H',i+5,a',b',e,mono T,d5,hb⟩
 |fin=>
  refine cps λPq kq=>?_;obtain⟨h0,d1⟩:=bL hd;have my:s.fs≠[]:=λe=>by rw[e] at hb;exact hb
  obtain⟨H',a',b',e,T⟩:=BE (L:=L) (n:=n) (k:=k) (a:=a) (b:=b) hL R my (by lia) hm h hl h0;refine kq ?_;refine⟨H',i+1,a',b',e,T,d1,?_⟩;show wY (jM s).fs.length r;rw[kE];cases hs:s.fs with
  |nil=>exact q1t hs my
  |cons F fs=>rw[hs] at hb;exact hb
 |blt kd c=>
  refine cps λPq kq=>?_;obtain⟨⟨k0,k1⟩,c0,c1⟩:=oko;have JO:wY (ib s (.blt kd c)).fs.length r:=by show wY (jM ⟨⟨rB kd,c,0⟩::s.fs,s.ga,s.gb⟩).fs.length r;rw[kE];exact hb
  have nc:(bf c==(")" : Str))=false/\((("{" : Str)==bf c)||(("<" : Str)==bf c))=false/\(bf c==(":" : Str))=false:=by
   have all:∀c:Fin 100,(bf c.val==(")" : Str))=false/\((("{" : Str)==bf c.val)||(("<" : Str)==bf c.val))=false/\(bf c.val==(":" : Str))=false:=by decide +kernel
   exact dD (P:=λc=>(bf c==(")" : Str))=false/\((("{" : Str)==bf c)||(("<" : Str)==bf c))=false/\(bf c==(":" : Str))=false) all c0 c1
  have c4:kd=0\/kd=1\/kd=2\/kd=3:=by lia
  have col:∀j,ms.drop (j+1)=dY r->((ms.drop (j+1)).take 1==[(":" : Str)])=false/\(([("}" : Str)]==(ms.drop (j+1)).take 1)||([(">" : Str)]==(ms.drop (j+1)).take 1))=false:=λj hj=>by
   rw[hj];exact⟨sr.1,by rw[sr.2.1,sr.2.2];rfl⟩
  have col2:∀(j:Nat)(t:List Str),ms.drop (j+1)=bf c::t->((ms.drop (j+1)).take 1==[(":" : Str)])=false:=λj t hj=>by
   rw[hj];show((bf c==(":" : Str))&&true)=false;rw[nc.2.2];rfl
  refine kq ?_;rcases c4 with rfl | rfl | rfl | rfl
  ·obtain⟨h0,d1⟩:=bL hd
   refine cps λPq kq=>?_;obtain⟨h1,d2⟩:=bL d1;obtain⟨h2,d3⟩:=bL d2;obtain⟨H',a',b',e,T⟩:=jW (L:=L) (n:=n) (k:=k) (a:=a) (b:=b) (key:=rB 0) (i1:=i+1) (i2:=i+2) true true hL R hr hm h hl c0 c1 h0 (by decide) (col2 _ _ d1) (by decide) rfl h1 (by rw[d2];rfl) rfl rfl (by decide) (by decide +kernel);refine kq ?_;exact⟨H',_,a',b',e,T,d3,JO⟩
  ·obtain⟨h0,d1⟩:=bL hd
   refine cps λPq kq=>?_;obtain⟨H',a',b',e,T⟩:=jW (L:=L) (n:=n) (k:=k) (a:=a) (b:=b) (key:=rB 1) false false hL R hr hm h hl c0 c1 h0 nc.1 (col _ d1).1 nc.2.1 rfl h0 (col _ d1).2 rfl rfl (by decide) (by decide +kernel);refine kq ?_;exact⟨H',_,a',b',e,T,d1,JO⟩
  ·obtain⟨h0,d1⟩:=bL hd
   refine cps λPq kq=>?_;obtain⟨h1,d2⟩:=bL d1;obtain⟨H',a',b',e,T⟩:=jW (L:=L) (n:=n) (k:=k) (a:=a) (b:=b) (key:=rB 2) true false hL R hr hm h hl c0 c1 h0 (by decide) (col2 _ _ d1) (by decide) rfl h1 (col _ d2).2 rfl rfl (by decide) (by decide +kernel);refine kq ?_;exact⟨H',_,a',b',e,T,d2,JO⟩
  ·obtain⟨h0,d1⟩:=bL hd
   refine cps λPq kq=>?_;obtain⟨h1,d2⟩:=bL d1;obtain⟨H',a',b',e,T⟩:=jW (L:=L) (n:=n) (k:=k) (a:=a) (b:=b) (key:=rB 3) (i1:=i) (i2:=i+1) false true hL R hr hm h hl c0 c1 h0 nc.1 (by rw[d1];rfl) nc.2.1 rfl h0 (by rw[d1];rfl) rfl rfl (by decide) (by decide +kernel);refine kq ?_;exact⟨H',_,a',b',e,T,d2,JO⟩
theorem sM:∀(dZ:List Op)(W m i:Nat){H:List O}{ta tb:Nat}{rs:List Nat}{s:su}{a b:Option V},dZ.length<W->1000<L->(∀o∈dZ,o.ok)->wY s.fs.length dZ->cW m H ts ta tb lr rs s.fs s.ga s.gb->rs.length+dZ.length<=99->m+dZ.length<=400->H[mk]?=some (.list (ms.map V.str))->mk∉ts::lr::rs->ms.length<=2000->ms.drop i=dY dZ->∃H' i' a' b',bG W (Y (af 3) λa=>Y (Y (an [af 0]) λvs=>au (blt .len vs)) λb=>aF .Lt a b) (jh L n k) ⟨H,SL mk ts lr i a b⟩=some (.next,⟨H',SL mk ts lr i' a' b'⟩)/\pM (m+dZ.length) H ts ta tb lr rs (dZ.foldl ib s) H'
 |_,0,_,_,_,_,_,_,_,_,_,h,_,_,_,_,_,_,_,_,_,_=>q1t h (q2f _)
 |[],W+1,m,i,H,ta,tb,rs,s,a,b,_,_,_,_,R,_,_,h,_,hl,hd=>by
  have t:=tR (ts:=ts) (lr:=lr) (i:=i) (a:=a) (b:=b) h hl;have:¬i<ms.length:=λfR=>by
   have:ms.drop i≠[]:=by simp;lia
   exact this hd
  rw[q1x this] at t;exact⟨H,i,a,b,Gu t,⟨ta,tb,rs,R,q0c _,λj o _ hj _ _ h3=>⟨hj,h3⟩⟩⟩
 |o::r,W+1,m,i,H,ta,tb,rs,s,a,b,hW,hL,ok,hb,R,hr,hm,h,JL,hl,hd=>by
  simp only[List.length_cons] at hW hr hm;refine cps λPq kq=>?_;obtain⟨H1,i1,a1,b1,e1,T1,d1,a0F⟩:=Dw (n:=n) (k:=k) (a:=a) (b:=b) hL ok hb R (by lia) (by lia) h hl hd;have t:=tR (ts:=ts) (lr:=lr) (i:=i) (a:=a) (b:=b) h hl;have fR:i<ms.length:=by
   rcases Nat.lt_or_ge i ms.length with q | q
   ·exact q
   ·rw[List.drop_of_length_le q] at hd
    exfalso;cases o<;>simp[dY,oi] at hd
  rw[q1w fR] at t;obtain⟨ta1,tb1,rs1,R1,l1,k1⟩:=T1;simp only[List.mem_cons,not_or] at JL;have h1:=k1 mk _ rfl h JL.1 JL.2.1 JL.2.2;have lr1:=R1.frs.len;have lr0:=R.frs.len;have ln:(ib s o).fs.length<=s.fs.length+1:=by
   cases o with
   |beg=>exact q0c _
   |blt kd c=>show(jM ⟨_::s.fs,s.ga,s.gb⟩).fs.length<=_;rw[kE];simp
   |fin=>show(jM s).fs.length<=_;rw[kE];lia
  obtain⟨H2,i2,a2,b2,e2,T2⟩:=sM r W (m+1) i1 (a:=a1) (b:=b1) (by lia) hL (λo' h=>ok o' (q0k _ h)) a0F R1 (by lia) (by lia) h1.1 (by simp only[List.mem_cons,not_or];exact⟨JL.1,JL.2.1,h1.2⟩) hl d1;obtain⟨ta2,tb2,rs2,R2,l2,k2⟩:=T2;refine kq ?_;refine⟨H2,i2,a2,b2,m6 (.inl rfl) t e1 e2,⟨ta2,tb2,rs2,?_,q0d l1 l2,λj o' nd hj g1 g2 g3=>?_⟩⟩
  ·rw[show m+(o::r).length=m+1+r.length by simp;lia];exact R2
  ·have q:=k1 j o' nd hj g1 g2 g3
   exact k2 j o' nd q.1 g1 g2 q.2
theorem BW(hL:1000<L)(ok:∀o∈dZ,o.ok)(hb:wY 0 dZ)(hn:dZ.length<=90)(h:H[mk]?=some (.list ((dY dZ).map V.str)))(hl:(dY dZ).length<=2000):∃H' ts ta tb lr rs,nD L n k [.ref mk] H=some (.ref ts,H')/\cW dZ.length H' ts ta tb lr rs (dZ.foldl ib ⟨[],λ_=>none,λ_=>none⟩).fs (dZ.foldl ib ⟨[],λ_=>none,λ_=>none⟩).ga (dZ.foldl ib ⟨[],λ_=>none,λ_=>none⟩).gb/\H.length<=H'.length/\∀(j:Nat)(o:O),ndO o=true->H[j]?=some o->H'[j]?=some o:=by
 have lmk:=(q0b.mp h).1;have s1:nW L n k ⟨H,[some (.ref mk),none,none,none,none,none,none,none,none,none]⟩=some (.next,⟨(((H++[.dict []])++[.dict []])++[.list [.ref H.length,.ref (H.length+1)]])++[.list []],SL mk (H.length+2) (H.length+3) 0 none none⟩):=by clear h ok hb;have e2:∀(a b:V)(H:List O),bt [a,b] H=some (.ref H.length,H++[.list [a,b]]):=λ_ _ _=>rfl;unfold nW;simp only[bj,↓aG,↓aq,↓aC,cU,YA,rP,↓vc,↓aj,↓ah,Option.bind_some,dL, *];simp only[List.length_append,List.length_cons,List.length_nil];rfl
 generalize hH:(((H++[O.dict []])++[O.dict []])++[O.list [.ref H.length,.ref (H.length+1)]])++[O.list []] = H1 at s1;have lH:H1.length=H.length+4:=by rw[<-hH];simp
 have a0:H1[H.length]?=some (.dict []):=by rw[<-hH];exact ar (ar (ar (bX _)))
 have a1:H1[H.length+1]?=some (.dict []):=by
  have:(H++[O.dict []]).length=H.length+1:=by simp
  rw[<-hH,<-this];exact ar (ar (bX _))
 have a2:H1[H.length+2]?=some (.list [.ref H.length,.ref (H.length+1)]):=by
  have:((H++[O.dict []])++[O.dict []]).length=H.length+2:=by simp
  rw[<-hH,<-this];exact ar (bX _)
 have a3:H1[H.length+3]?=some (.list []):=by
  have:(((H++[O.dict []])++[O.dict []])++[O.list [V.ref H.length,.ref (H.length+1)]]).length=H.length+3:=by simp
  rw[<-hH,<-this];exact bX _
 have a4:∀(j:Nat)(o:O),H[j]?=some o->H1[j]?=some o:=λj o hj=>by rw[<-hH];exact ar (ar (ar (ar hj)))
 clear hH;have tab:∀tr,H1[tr]?=some (.dict [])->TabAt H.length (H.length+1) 0 H1 tr (λ_=>none):=λtr ht=>⟨[],ht,by simp,q0c _,λ_ _=>rfl,λk q d e=>by simp at e⟩
 have R:cW 0 H1 (H.length+2) H.length (H.length+1) (H.length+3) [] [] (λ_=>none) (λ_=>none):=⟨a2,a3,trivial,tab _ a0,tab _ a1,by simp,by lia⟩
 refine cps λPq kq=>?_;obtain⟨H2,i2,a',b',e2,T⟩:=sM (n:=n) (k:=k) dZ L 0 0 (s:=⟨[],λ_=>none,λ_=>none⟩) (a:=none) (b:=none) (by lia) hL ok hb R (by simp;lia) (by lia) (a4 _ _ h) (by simp;lia) hl rfl;obtain⟨GK,GJ,nX,R',l',k'⟩:=T;rw[Nat.zero_add] at R';refine kq ?_;refine⟨H2,H.length+2,GK,GJ,H.length+3,nX,?_,R',by lia,λj o nd hj=>?_⟩
 ·refine uy (fl:=.ret _) (l':=SL mk (H.length+2) (H.length+3) i2 a' b') ?_
  exact ag s1 (ag e2 (bl rfl))
 ·have lj:=(q0b.mp hj).1
  exact(k' j o nd (a4 j o hj) (by lia) (by lia) (by simp)).1
end
noncomputable def aw(i:Nat):V:=.int (i:Int)
section
variable{L n k:Nat}{H:List O}{l:List (Option V)}
theorem As(xs:List Int):uf (xs.map V.int)=some xs:=by
 induction xs with
 |nil=>rfl
 |cons x xs ih=>show(uf (xs.map V.int)).map (x :: ·)=_;rw[ih];rfl
theorem xt{m:Nat}{xs:List Int}(h:H[m]?=some (.list (xs.map V.int)))(hl:xs.length<=ax):blt .sum [.ref m] H=some (.int xs.sum,H):=by show LH (.ref m) H=_;unfold LH;simp only[vR,Option.bind_some,tO,b9,h,jS,List.length_map,q1k hl,As,Option.map_some]
theorem oF{m i:Nat}{xs:List Int}{x:Int}(h:H[m]?=some (.list (xs.map V.int)))(hl:xs.length<=2000)(hx:xs[i]?=some x):df H (.ref m) (.int i)=some (.int x):=by rw[aJ,h,di _ _ (by have:ax=1048576:=rfl;simp;lia),hG,List.getElem?_map,hx];rfl
theorem yL{q:Nat}{js:List Nat}{f:Nat->Int}{mi:M It}{lf:List (Option V)->List (Option V)}{me:M V}(hL:2000<L)(hq:H[q]?=some (.list (js.map aw)))(hj:js.length<=1000)(hm:mi ⟨H,l⟩=some (.lst q,⟨H,l⟩))(Tv:∀j∈js,∀J,me ⟨H++J,(lf l).set 1 (some (aw j))⟩=some (.int (f j),⟨H++J,(lf l).set 1 (some (aw j))⟩)):∀{G:Prop},(∀J,dF L mi lf 1 (λ_=>none) (λ_=>me) [] ⟨H,l⟩=some (.ref H.length,⟨H++.list ((js.map f).map V.int)::J,l⟩)->G)->G:=by
 intro Gq kq0;obtain⟨J,r⟩:=rQ (L:=L) (it:=.lst q) (N:=js.length) (item:=λi=>(js.map aw).getD i .none) (el:=λi=>(js[i]?).map λj=>V.int (f j)) (ix:=1) (mi:=mi) (lf:=lf) (t:=λ_=>none) (me:=λ_=>me) (by lia) (by lia) hm rfl rfl (λacc J i=>by have:=jc (i:=i) (kL (J:=J) (a:=.list acc) hq) .none;simpa using this) (λi hi=>⟨λacc J=>by
  have hx:js[i]?=some js[i]:=q0h hi;have hg:(js.map aw).getD i .none=aw js[i]:=by simp[hi]
  rw[hx,hg];refine⟨[],[],by simp;rfl,?_⟩;simp only[List.append_nil];exact Tv js[i] (List.getElem_mem hi) (.list acc::J)⟩)
 refine kq0 J ?_;rw[r,qe js (f:=λj=>V.int (f j)) (λi x hx=>by rw[hx];rfl),List.map_map];rfl
theorem vi{q:Nat}{js:List Nat}{f:Nat->Int}{mi:M It}{lf:List (Option V)->List (Option V)}{me:M V}(hL:2000<L)(hq:H[q]?=some (.list (js.map aw)))(hj:js.length<=1000)(hm:mi ⟨H,l⟩=some (.lst q,⟨H,l⟩))(Tv:∀j∈js,∀J,me ⟨H++J,(lf l).set 1 (some (aw j))⟩=some (.int (f j),⟨H++J,(lf l).set 1 (some (aw j))⟩)):∀{G:Prop},(∀J,(Y (an [dF L mi lf 1 (λ_=>none) (λ_=>me) []]) λvs=>au (blt .sum vs)) ⟨H,l⟩=some (.int (js.map f).sum,⟨H++J,l⟩)->G)->G:=by intro Gq kq0;refine yL hL hq hj hm Tv λJ r=>?_;refine kq0 (.list ((js.map f).map V.int)::J) ?_;rw[ah,ai r,aj,ez,xt fM (by have:ax=1048576:=rfl;simp;lia)];rfl
inductive aT(H:List O)(cr:Nat)(aa:Calls):Prop
 |mk (cs:List Nat) (h1:H[cr]?=some (.list (cs.map V.ref))) (h2:mH fA H cs aa):aT H cr aa
theorem aT.app(C:aT H cr aa)(J:List O):aT (H++J) cr aa:=by obtain⟨cs,a,b⟩:=C;exact⟨cs,ar a,b.keep λ_ _ _ h=>ar h⟩
theorem aT.item{cr i:Nat}{aa:Calls}{c:Int×Int×Int}(C:aT H cr aa)(hl:aa.length<=2000)(hc:aa[i]?=some c):∃r,df H (.ref cr) (.int i)=some (.ref r)/\H[r]?=some (fA c):=by refine cps λPq kq=>?_;obtain⟨cs,a,b⟩:=C;obtain⟨r,r1,r2⟩:=b.get hc;have:=b.len;refine kq ?_;refine⟨r,?_,r2⟩;rw[aJ,a,di _ _ (by have:ax=1048576:=rfl;simp;lia),hG,List.getElem?_map,r1];rfl
theorem Et{tq cr fq wq:Nat}{js:List Nat}{aa:Calls}{first iA:List Int}(hL:2000<L)(hj:js.length<=1000)(hq:H[tq]?=some (.list (js.map aw)))(C:aT H cr aa)(hf:H[fq]?=some (.list (first.map V.int)))(hw:H[wq]?=some (.list (iA.map V.int)))(hc:aa.length<=2000)(h1:first.length=aa.length)(h2:iA.length=aa.length)(YL:∀j∈js,j<aa.length):∀{G:Prop},(∀J,A0 L n k [.ref tq,.ref cr,.ref fq,.ref wq] H=some (.tup [.int js.length,.int (js.map λj=>first.getD j 0).sum,.int (js.map λj=>(aa.getD j (0,0,0)).2.2).sum,.int (js.map λj=>iA.getD j 0).sum],H++J)->G)->G:=by
 intro Gq kq0;have hz:ax=1048576:=rfl;have get:∀{xs:List Int},xs.length=aa.length->∀j∈js,xs[j]?=some (xs.getD j 0):=λ{xs} hx j hm=>by
  have:j<xs.length:=by rw[hx];exact YL j hm
  simp[this]
 refine vi (L:=L) (H:=H) (l:=[some (V.ref tq),some (.ref cr),some (.ref fq),some (.ref wq),none,none,none,none]) (js:=js) (f:=λj=>first.getD j 0) (mi:=Y (af 0) jq) (lf:=λl=>[none,none,(l[2]?).join]) (me:=Y (af 2) λa=>Y (af 1) λb=>av a b) hL hq hj (by rw[ai (ao (v:=.ref tq) rfl),fY,dr hq (by simp;lia)];rfl) (λj hm J=>by
  rw[ai (ao (v:=.ref fq) rfl),ai (ao (v:=aw j) rfl),aX,aw,oF (ar hf) (by lia) (get h1 j hm)];rfl) λJ1 r1=>?_
 have ln:=jb hq (by simp;lia);have s1:MS L n k ⟨H,[some (.ref tq),some (.ref cr),some (.ref fq),some (.ref wq),none,none,none,none]⟩=some (.next,⟨H++J1,[some (.ref tq),some (.ref cr),some (.ref fq),some (.ref wq),some (.int js.length),some (.int (js.map λj=>first.getD j 0).sum),none,none]⟩):=by
  have e1:(Y (an [af 0]) λvs=>au (blt .len vs)) ⟨H,[some (.ref tq),some (.ref cr),some (.ref fq),some (.ref wq),none,none,none,none]⟩=some (.int js.length,⟨H,[some (.ref tq),some (.ref cr),some (.ref fq),some (.ref wq),none,none,none,none]⟩):=by rw[ah,ai (ao (v:=.ref tq) rfl),aj,ez,ln,q0w];rfl
  show Y (Y _ cR) _ _=_;rw[aq,ah,ai e1,ah,ai r1,aj];rfl
 have Z1:(H++J1)[tq]?=some (.list (js.map aw)):=ar hq;have C1:=C.app J1;have hw1:(H++J1)[wq]?=some (.list (iA.map V.int)):=ar hw;refine vi (L:=L) (H:=H++J1) (l:=[some (V.ref tq),some (.ref cr),some (.ref fq),some (.ref wq),some (.int js.length),some (.int (js.map λj=>first.getD j 0).sum),none,none]) (js:=js) (f:=λj=>(aa.getD j (0,0,0)).2.2) (mi:=Y (af 0) jq) (lf:=λl=>[none,none,(l[1]?).join]) (me:=Y (Y (af 2) λa=>Y (af 1) λb=>av a b) λa=>Y (Z (.int 2)) λb=>av a b) hL Z1 hj
  (by rw[ai (ao (v:=.ref tq) rfl),fY,dr Z1 (by simp;lia)];rfl)
  (λj hm J=>by
   have fR:=YL j hm;have hcj:aa[j]?=some (aa.getD j (0,0,0)):=by simp[fR]
   obtain⟨r,i1,i2⟩:=(C1.app J).item hc hcj;have e:(Y (af 2) λa=>Y (af 1) λb=>av a b) ⟨(H++J1)++J,List.set [none,none,some (.ref cr)] 1 (some (aw j))⟩=some (.ref r,⟨(H++J1)++J,List.set [none,none,some (.ref cr)] 1 (some (aw j))⟩):=by rw[ai (ao (v:=.ref cr) rfl),ai (ao (v:=aw j) rfl),aX,aw,i1];rfl
   show Y (Y (af 2) λa=>Y (af 1) λb=>av a b) _ ⟨(H++J1)++J,List.set [none,none,some (.ref cr)] 1 (some (aw j))⟩=_;rw[ai e,aG,aX,aJ,i2];rfl) λJ2 r2=>?_
 have Wu:((H++J1)++J2)[tq]?=some (.list (js.map aw)):=ar Z1;refine vi (L:=L) (H:=(H++J1)++J2) (l:=[some (V.ref tq),some (.ref cr),some (.ref fq),some (.ref wq),some (.int js.length),some (.int (js.map λj=>first.getD j 0).sum),none,none]) (js:=js) (f:=λj=>iA.getD j 0) (mi:=Y (af 0) jq) (lf:=λl=>[none,none,(l[3]?).join]) (me:=Y (af 2) λa=>Y (af 1) λb=>av a b) hL Wu hj
  (by rw[ai (ao (v:=.ref tq) rfl),fY,dr Wu (by simp;lia)];rfl)
  (λj hm J=>by
   rw[ai (ao (v:=.ref wq) rfl),ai (ao (v:=aw j) rfl),aX,aw,oF (ar (ar hw1)) (by lia) (get h2 j hm)];rfl) λJ3 r3=>?_
 refine kq0 (J1++J2++J3) ?_;refine E9 (fl:=.ret _) (l':=[some (.ref tq),some (.ref cr),some (.ref fq),some (.ref wq),some (.int js.length),some (.int (js.map λj=>first.getD j 0).sum),none,none]) ?_;refine ag s1 (bl ?_);show Y (Y _ cR) _ _=_;rw[aq,ah,ai (ao (v:=.int js.length) rfl),ah,ai (ao (v:=.int (js.map λj=>first.getD j 0).sum) rfl),ah,ai r2,ah,ai r3,aj];simp only[List.append_assoc];rfl
end
section
variable{L n k:Nat}{H H0:List O}{l:List (Option V)}
theorem TabAt.new(h:TabAt x y m H tr g)(hx:H.length<=x')(hy:H.length<=y'):TabAt x' y' m H tr g:=by refine cps λPq kq=>?_;obtain⟨es,a,b,c,d,e⟩:=h;refine kq ?_;refine⟨es,a,b,c,d,λk q d' hk=>?_⟩;refine cps λPq kq=>?_;obtain⟨u,v,w,z,r⟩:=e k q d' hk;obtain⟨uY,a',_⟩:=id r;have:=(q0b.mp a').1;refine kq ?_;exact⟨by lia,by lia,w,z,r⟩
theorem AO(hL:es.length<L)(hN:es.length<=2000)(hd:d<H0.length)(hm:mi ⟨H0,l⟩=some (.keys d es,⟨H0,l⟩))(step:∀i,i<es.length->wX H0 (lf l) ix (t [d]) (me [d]) (.str (es.getD i ("",.none)).1) (el i)):∀{G:Prop},(∀J,dF L mi lf ix t me [] ⟨H0,l⟩=some (.ref H0.length,⟨H0++.list ((List.range es.length).filterMap el)::J,l⟩)->G)->G:=by
 intro Gq kq0;refine cps λPq kq=>?_;obtain⟨J',l',r⟩:=kG (z:=[d]) (t:=t [d]) (me:=me [d]) (it:=.keys d es) (item:=λi=>.str (es.getD i ("",.none)).1) (by simp;lia) hN (λacc J i=>by
  show some ((es[i]?).map _)=_;by_cases hi:i<es.length
  ·rw[q1k hi];simp[hi]
  ·rw[q1l hi,List.getElem?_eq_none (by lia)];rfl) step es.length 0 L [] [] (lf l) (by lia) hL (q0c _) rfl
 refine kq ?_;refine kq0 J' ?_;unfold dF
 (refine(ai hm).trans ?_)
 rw[List.nil_append] at r;have hh:(It.keys d es).hold++[] = [d]:=rfl;simp only[show gh (.keys d es)=true from rfl,if_true,hh];rw[r,List.range_eq_range']
theorem DP(h:H[m]?=some (.dict es))(hl:es.length<=ax):blt .list [.ref m] H=some (.ref H.length,H++[.list (es.map λe=>.str e.1)]):=by show y4 (.ref m) H=_;show(dm H m).bind (λes=>if es.length<=ax then some (V.ref H.length,H++[.list (es.map λe=>.str e.1)]) else none)=_;rw[yK h];exact q1k hl
theorem QX(h:H[m]?=some (.dict es)):bC .NotIn H (.str j) (.ref m)=some (!(es.lookup j).isSome):=by show(ug 8 H (.str j) (.ref m)).map _=_;unfold ug;simp only[vS,vT,vR,ie,jw,Option.bind_some,b9,h,jS,dm,Option.map_some]
noncomputable def fW(x:Option (Q4×TF)):Q4×TF:=x.getD ((0,0,0,0),λ_=>none)
noncomputable def cm(ga gb:TG)(j:Str):Q4×TF:=(fg (fW (gb j)).1 (fW (ga j)).1,λi=>fO ((fW (ga j)).2 i) ((fW (gb j)).2 i))
theorem TabAt.ext(h:TabAt x y m H tr g)(e:∀j,g j=g' j):TabAt x y m H tr g':=(funext e:g=g')▸h
theorem TabAt.row(h:TabAt x y m H tr g)(hn:H[nd]?=some (.dict []))(j:Str):∃d,nh [] .dict .get (.ref tr) [.str j,a9 ((0,0,0,0),nd)] H=some (a9 ((fW (g j)).1,d),H)/\dy H (.ref tr)=some .dict/\bW m H d (fW (g j)).2:=by
 refine cps λPq kq=>?_;obtain⟨es,a,b,c,e,f⟩:=h;have hk:dy H (.ref tr)=some .dict:=by rw[bH,a];rfl
 refine kq ?_;cases q:es.lookup j with
 |none=>
  refine⟨nd,?_,hk,?_⟩
  ·rw[rF a,be,q,e j q];rfl
  ·rw[e j q];exact⟨[],hn,dV.nil,Nat.zero_le _⟩
 |some v=>
  refine cps λPq kq=>?_;obtain⟨p,d⟩:=v;obtain⟨_,_,w,z,r⟩:=f j p d q;refine kq ?_;refine⟨d,?_,hk,?_⟩
  ·rw[rF a,be,q,z];rfl
  ·rw[z];exact r
noncomputable def gN(o t jd nd:Nat)(x:Option V):List (Option V):=[some (.ref o),some (.ref t),some (.ref jd),some (a9 ((0,0,0,0),nd)),x,none,none]
structure zl(H0:List O)(o t jd nd kl m:Nat)(ks:List Str)(ga gb:TG)(i:Nat)(σ:St):Prop where
 loc:∃x,σ.loc=gN o t jd nd x
 a:TabAt jd jd m σ.H o ga
 b:TabAt jd jd m σ.H t gb
 ne:o≠jd/\t≠jd/\nd≠jd
 nn:σ.H[nd]?=some (.dict [])
 ls:σ.H[kl]?=some (.list (ks.map V.str))
 fr:∀j,j<jd->σ.H[j]?=H0[j]?
 j:TabAt jd jd (2*m+i) σ.H jd (λj=>if j∈ks.take i then some (cm ga gb j) else none)
 ge:∀es k p d,σ.H[jd]?=some (.dict es)->es.lookup k=some (a9 (p,d))->jd<=d
theorem tc(h:a9 (p,d)=a9 (p',d')):p=p'/\d=d':=by obtain⟨a1,a2,a3,a4⟩:=p;obtain⟨b1,b2,b3,b4⟩:=p';unfold a9 at h;simp only[V.tup.injEq,List.cons.injEq,V.int.injEq,V.ref.injEq,and_true] at h;obtain⟨rfl,rfl,rfl,rfl,rfl⟩:=h;exact⟨rfl,rfl⟩
theorem Ao(hL:1000<L)(hm:m<=200)(hi:i<ks.length)(hk:ks.length<=1000)(I:zl H0 o t jd nd kl m ks ga gb i σ):∃σ',o6 L n k [] ⟨σ.H,gN o t jd nd (some (.str ks[i]))⟩=some (.next,σ')/\zl H0 o t jd nd kl m ks ga gb (i+1) σ':=by
 refine cps λPq kq=>?_;obtain⟨H,l⟩:=σ;obtain⟨_,a,b,⟨n1,n2,n3⟩,nn,ls,fr,jj,ge⟩:=I;obtain⟨d1,g1,k1,c1⟩:=a.row nn ks[i];obtain⟨d2,g2,k2,c2⟩:=b.row nn ks[i];obtain⟨es,e,B,hl⟩:=uK (L:=L) (n:=n) (k:=k) (t:=(fW (ga ks[i])).1) (s:=(fW (gb ks[i])).1) hL (by lia) c1 c2;have J1:TabAt jd jd (2*m+i) (H++[.dict (aO qV es)]) jd _:=jj.app _;have hd:bW (2*m+i+1) (H++[.dict (aO qV es)]) H.length (cm ga gb ks[i]).2:=⟨es,bX _,B,by lia⟩
 have fR:∀{g:TG}{y:Nat},TabAt jd jd (2*m+i) H y g->y<H.length:=λh=>by
  obtain⟨_,a',_⟩:=h;exact(q0b.mp a').1
 have hjd:=fR jj;obtain⟨ej,p1,p2,p3⟩:=J1.put (.inl rfl) (p:=(cm ga gb ks[i]).1) (k:=ks[i]) hd (by lia) (by lia);have st:=i7 (z:=[]) (k:=ks[i]) (u:=a9 ((cm ga gb ks[i]).1,H.length)) p1 (by simp) (by have:ax=1048576:=rfl;simp[aO];lia);rw[iJ] at st;refine kq ?_;refine⟨⟨(H++[O.dict (aO qV es)]).set jd (O.dict (aO a9 (fF ej ks[i] ((cm ga gb ks[i]).1,H.length)))),gN o t jd nd (some (.str ks[i]))⟩,ag ?_ rfl,⟨⟨_,rfl⟩,(a.app _).vz (.inl rfl) n1,(b.app _).vz (.inl rfl) n2,⟨n1,n2,n3⟩,ay n3 (ar nn),ay (λe=>?_) (ar ls),λj hj=>?_,?_,λfs k p d f1 f2=>?_⟩⟩
 ·have e1:d0 [] .get (af 0) [af 4,af 3] ⟨H,gN o t jd nd (some (.str ks[i]))⟩=some (a9 ((fW (ga ks[i])).1,d1),⟨H,gN o t jd nd (some (.str ks[i]))⟩):=by
   unfold gN;simp only[cT,↓mn,↓pG,↓v7,ez,↓b8,v8,↓aj,↓ah,↓eC,Option.bind_some,↓DE,↓reduceIte, *]
  have e2:d0 [] .get (af 1) [af 4,af 3] ⟨H,gN o t jd nd (some (.str ks[i]))⟩=some (a9 ((fW (gb ks[i])).1,d2),⟨H,gN o t jd nd (some (.str ks[i]))⟩):=by unfold gN;simp only[cT,↓uV,↓pG,↓v7,ez,↓b8,v8,↓aj,↓ah,↓eC,Option.bind_some,↓DE,↓reduceIte, *]
  unfold sX;rw[q1k rfl,aq,ah,ai e1,ah,ai e2,aj];clear g1 g2 e1 e2 c1 c2 a b jj J1 hd p3;unfold gN;simp only[bj,↓lD,↓v7,↓aC, *];show(a8 [] (.ref jd) (.str ks[i]) (a9 ((cm ga gb ks[i]).1,H.length)) _).bind _=_;rw[st];rfl
 ·rw[e] at ls
  obtain⟨uY,a',_⟩:=jj;rw[a'] at ls;cases ls
 ·have El:j<H.length:=Nat.lt_trans hj hjd
  rw[q0j (by lia),q0e El];exact fr j hj
 ·rw[show 2*m+(i+1)=2*m+i+1 by lia]
  refine p3.ext λj=>?_;rw[List.take_add_one,q0h hi];simp only[List.mem_append,Option.toList,q2e];by_cases hj:j=ks[i]
  ·rw[q1k hj,q1k (.inr hj),hj]
  ·rw[q1l hj]
   by_cases h:j∈ks.take i
   ·rw[q1k h,q1k (.inl h)]
   ·rw[q1l h,q1l (by simp[h,hj])]
 ·dsimp only at f1 ge
  rw[bx p1] at f1;injection f1 with f1
  injection f1 with f1
  rw[<-f1,be,g9] at f2;by_cases hk:k=ks[i]
  ·rw[q1k hk] at f2
   have:=(tc (q0a f2)).2;lia
  ·rw[q1l hk,<-be] at f2
   rw[q0e hjd] at p1;exact ge _ _ _ _ p1 f2
end
theorem qf{α:Type}{f:α->Option V}{g:Nat->Option V}:∀(xs:List α)(s:Nat),(∀i x,xs[i]?=some x->g (s+i)=f x)->(List.range' s xs.length).filterMap g=xs.filterMap f
 |[],s,_=>rfl
 |x::xs,s,h=>by
  have e0:List.range' s (x::xs).length=s::List.range' (s+1) xs.length:=rfl;rw[e0,List.filterMap_cons,List.filterMap_cons,show g s=f x from h 0 x rfl,qf xs (s+1) λi y hy=>by have:=h (i+1) y (by simpa using hy);rw[show s+1+i=s+(i+1) by lia];exact this]
theorem tm{α:Type}{f:α->Option V}{g:Nat->Option V}(xs:List α)(h:∀i x,xs[i]?=some x->g i=f x):(List.range xs.length).filterMap g=xs.filterMap f:=by rw[List.range_eq_range'];exact qf xs 0 λi x hx=>by rw[Nat.zero_add];exact h i x hx
section
variable{L n k:Nat}{H:List O}{l:List (Option V)}
noncomputable def cK(e1 e2:List (Str×(Q4×Nat))):List Str:=e1.map (·.1)++(e2.map (·.1)).filter λj=>!(e1.lookup j).isSome
theorem JB(h:H[m]?=some (.dict es)):uc H (.ref m)=some (.keys m es):=by unfold uc;simp only[vR,jw,ie,b9,h,jS,yK h,Option.map_some]
theorem Jz{o t jd nd:Nat}{e1 e2:List (Str×(Q4×Nat))}(hL:1000<L)(h1:H[o]?=some (.dict (aO a9 e1)))(h2:H[t]?=some (.dict (aO a9 e2)))(l1:e1.length<=400)(l2:e2.length<=400):∀{G:Prop},(∀r J,(Y (Y (Y (an [af 0]) λvs=>au (blt .list vs)) λa=>Y (dF L (Y (af 1) jq) (λl=>[none,none,(l[0]?).join]) 1 (λz=>some (Y (af 1) λa=>Y (af 2) λb=>aF .NotIn a b)) (λz=>af 1) []) λb=>au (bn .Add a b)) jq) ⟨H,gN o t jd nd none⟩=some (.lst r,⟨H++J,gN o t jd nd none⟩)->(H++J)[r]?=some (.list ((cK e1 e2).map V.str))->G)->G:=by
 intro Gq kq0;have hz:ax=1048576:=rfl;have a1:=DP h1 (by simp[aO];lia);have ht:=(q0b.mp h2).1;have TC:(H++[O.list ((aO a9 e1).map λe=>.str e.1)])[o]?=_:=ar h1;have Gj:(H++[O.list ((aO a9 e1).map λe=>.str e.1)])[t]?=_:=ar h2;have lm:(aO a9 e2).length=e2.length:=by simp[aO]
 refine AO (L:=L) (d:=t) (es:=aO a9 e2) (H0:=H++[O.list ((aO a9 e1).map λe=>.str e.1)]) (l:=gN o t jd nd none) (ix:=1) (mi:=Y (af 1) jq) (lf:=λl=>[none,none,(l[0]?).join]) (t:=λz=>some (Y (af 1) λa=>Y (af 2) λb=>aF .NotIn a b)) (me:=λz=>af 1) (el:=λi=>if (e1.lookup ((aO a9 e2).getD i ("",.none)).1).isSome then none else some (.str ((aO a9 e2).getD i ("",.none)).1)) (by lia) (by lia) (by rw[q0x];lia) (by rw[ai (ao (v:=.ref t) rfl),fY,JB Gj];rfl) (λi hi=>⟨λacc J=>by
  have q:=QX (j:=((aO a9 e2).getD i ("",.none)).1) (kL (J:=J) (a:=.list acc) TC);rw[be,Option.isSome_map] at q;have xm:(Y (af 1) λa=>Y (af 2) λb=>aF .NotIn a b) ⟨(H++[O.list ((aO a9 e1).map λe=>.str e.1)])++.list acc::J,[none,some (.str ((aO a9 e2).getD i ("",.none)).1),some (.ref o)]⟩=some (!(e1.lookup ((aO a9 e2).getD i ("",.none)).1).isSome,⟨(H++[O.list ((aO a9 e1).map λe=>.str e.1)])++.list acc::J,[none,some (.str ((aO a9 e2).getD i ("",.none)).1),some (.ref o)]⟩):=by rw[ai (ao (v:=.str ((aO a9 e2).getD i ("",.none)).1) rfl),ai (ao (v:=.ref o) rfl),eR,q];rfl
  by_cases hs:(e1.lookup ((aO a9 e2).getD i ("",.none)).1).isSome
  ·rw[q1k hs];rw[hs] at xm
   exact⟨[],by rw[q0q];exact xm⟩
  ·rw[q1l hs];rw[q1r] at hs;rw[hs] at xm
   exact⟨[],[],by rw[q0q];exact xm,by rw[q0q,q0q];rfl⟩⟩) λJ r=>?_
 rw[tm (aO a9 e2) (f:=λe=>if (e1.lookup e.1).isSome then none else some (.str e.1)) (λi x hx=>by
  have:(aO a9 e2).getD i ("",.none)=x:=by rw[List.getD_eq_getElem?_getD,hx];rfl
  rw[this])] at r
 have Av:((aO a9 e1).map λe=>V.str e.1)=(e1.map (·.1)).map V.str:=by simp[aO]
 have Gh:(aO a9 e2).filterMap (λe=>if (e1.lookup e.1).isSome then none else some (V.str e.1))=((e2.map (·.1)).filter λj=>!(e1.lookup j).isSome).map V.str:=by
  clear kq0 r J Gj TC a1 Av h2 l2 lm
  induction e2 with
  |nil=>rfl
  |cons e es ih=>
   rw[q1p,List.filter_cons,show aO a9 (e::es)=(e.1,a9 e.2)::aO a9 es from rfl,List.filterMap_cons];cases hq:(e1.lookup e.1).isSome
   ·rw[q1l (by simp),Bool.not_false,q1k rfl,List.map_cons,ih]
   ·rw[q1k rfl,Bool.not_true,q1l (by simp),ih]
 rw[Av] at r a1;rw[Gh] at r;have lk:(cK e1 e2).length<=800:=by have:=List.length_filter_le (λj=>!(e1.lookup j).isSome) (e2.map (·.1));simp only[cK,List.length_append,List.length_map] at this ⊢;lia
 have ad:=nF (H:=(H++[O.list ((e1.map (·.1)).map V.str)])++.list (((e2.map (·.1)).filter λj=>!(e1.lookup j).isSome).map V.str)::J) (m1:=H.length) (m2:=(H++[O.list ((e1.map (·.1)).map V.str)]).length) (xs:=(e1.map (·.1)).map V.str) (ar (bX _)) fM (by simp only[cK,List.length_append,List.length_map] at lk ⊢;lia);rw[<-q1o,show(e1.map (·.1))++((e2.map (·.1)).filter λj=>!(e1.lookup j).isSome)=cK e1 e2 from rfl] at ad;have e0:(Y (an [af 0]) λvs=>au (blt .list vs)) ⟨H,gN o t jd nd none⟩=some (.ref H.length,⟨H++[O.list ((e1.map (·.1)).map V.str)],gN o t jd nd none⟩):=by rw[ah,ai (ao (v:=.ref o) rfl),aj,ez,a1];rfl
 have hH:(H++[O.list ((e1.map (·.1)).map V.str)])++.list (((e2.map (·.1)).filter λj=>!(e1.lookup j).isSome).map V.str)::J=H++(.list ((e1.map (·.1)).map V.str)::.list (((e2.map (·.1)).filter λj=>!(e1.lookup j).isSome).map V.str)::J):=by rw[q0i];rfl
 rw[hH] at ad r;generalize O.list ((e1.map (·.1)).map V.str)::O.list (((e2.map (·.1)).filter λj=>!(e1.lookup j).isSome).map V.str)::J=J2 at ad r;have ls:((H++J2)++[O.list ((cK e1 e2).map V.str)])[(H++J2).length]?=_:=bX _;refine kq0 ((H++J2).length) (J2++[.list ((cK e1 e2).map V.str)]) ?_ (by rw[<-q0i];exact ls);rw[aq,ai e0,aq,ai r,aY,ad,Option.bind_some];show jq _ _=_;rw[fY,dr ls (by rw[q0w];lia),q0i];rfl
end
section
variable{L n k:Nat}{H:List O}{l:List (Option V)}
theorem mem_join:j∈cK e1 e2↔((e1.lookup j).isSome||(e2.lookup j).isSome)=true:=by unfold cK;rw[q1q,List.mem_filter,fc,fc];cases(e1.lookup j).isSome<;>cases(e2.lookup j).isSome<;>simp
theorem Ap(hL:1000<L)(hm:m<=200)(A:TabAt x y m H o ga)(B:TabAt x y m H t gb):∀{G:Prop},(∀H' m',jg L n k [.ref o,.ref t] H=some (.ref H.length,H')->TabAt H.length H.length m' H' H.length (λj=>if (ga j).isSome||(gb j).isSome then some (cm ga gb j) else none)->m'<=4*m->(∀j,j<H.length->H'[j]?=H[j]?)->(∀es k p d,H'[H.length]?=some (.dict es)->es.lookup k=some (a9 (p,d))->H.length<=d)->G)->G:=by
 intro Gq kq0;have A':=A.new (q0c _) (q0c H.length);have B':=B.new (q0c _) (q0c H.length);obtain⟨e1,a1,a2,a3,a4,a5⟩:=id A';obtain⟨e2,b1,b2,b3,b4,b5⟩:=id B';have ho:=(q0b.mp a1).1;have ht:=(q0b.mp b1).1;refine Jz (L:=L) (H:=H++[.dict []]++[.dict []]) (jd:=H.length) (nd:=H.length+1) hL (ar (ar a1)) (ar (ar b1)) (by lia) (by lia) λr J k1 k2=>?_;have lk:(cK e1 e2).length<=2*m:=by have:=List.length_filter_le (λj=>!(e1.lookup j).isSome) (e2.map (·.1));simp only[cK,List.length_append,List.length_map] at this ⊢;lia
 have I0:zl H o t H.length (H.length+1) r m (cK e1 e2) ga gb 0 ⟨H++[.dict []]++[.dict []]++J,gN o t H.length (H.length+1) none⟩:=by
  refine⟨⟨_,rfl⟩,((A'.app _).app _).app _,((B'.app _).app _).app _,⟨by lia,by lia,by lia⟩,ar ?_,k2,λj hj=>?_,⟨[],ar (ar (bX _)),by simp,by simp,λj _=>by simp,λj q d h=>by cases h⟩,λes k p d f1 f2=>?_⟩
  ·have:=bX (H:=H++[.dict []]) (.dict []);rwa[q0x] at this
  ·rw[q0i,q0i,q0e hj]
  ·dsimp only at f1;rw[ar (ar (bX _))] at f1;cases f1;cases f2
 obtain⟨σ,r1,I⟩:=eD (a:=aE 4) (b:=o6 L n k []) (it:=.lst r) (I:=λi σ=>zl H o t H.length (H.length+1) r m (cK e1 e2) ga gb i σ) (N:=(cK e1 e2).length) (item:=λi=>((cK e1 e2).map V.str).getD i .none) (λi σ I=>by have:=jc (i:=i) I.ls .none;simpa using this) (λi σ hi I=>by
  obtain⟨σ',s1,s2⟩:=Ao (L:=L) (n:=n) (k:=k) hL hm hi (by lia) I;have hg:((cK e1 e2).map V.str).getD i .none=.str (cK e1 e2)[i]:=by simp[hi]
  obtain⟨x,hx⟩:=I.loc;refine⟨⟨σ.H,gN o t H.length (H.length+1) (some (.str (cK e1 e2)[i]))⟩,.next,σ',?_,s1,.inl rfl,s2⟩;rw[hg];obtain⟨Hs,ls⟩:=σ;dsimp only at hx;rw[hx];rfl) _ 0 L _ (Nat.zero_add _) (by lia) I0
 obtain⟨Hf,lf⟩:=σ;obtain⟨x,rfl⟩:=I.loc;refine kq0 Hf (2*m+(cK e1 e2).length) (uA (fl:=.ret (.ref H.length)) (l':=gN o t H.length (H.length+1) x) (ag (σ':=⟨H++[.dict []]++[.dict []],gN o t H.length (H.length+1) none⟩) ?_ (ag (rG k1 r1) (bl ?_)))) ?_ ?_ I.fr I.ge
 ·have nd:(H++[O.dict []]).length=H.length+1:=by simp
  clear I I0 A A' B B' r1 k1 k2 a1 a2 a4 a5 b1 b2 b4 b5;unfold sY gN a9;simp only[bj,↓aG,↓aq,↓aC,cU,rP,↓sG,↓GE,↓aj,↓ah,Option.bind_some,dL, *];rfl
 ·rfl
 ·refine I.j.ext λj=>?_
  rw[List.take_length];have ea:(e1.lookup j).isSome=(ga j).isSome:=by
   cases q:e1.lookup j with
   |none=>rw[a4 j q];rfl
   |some v=>obtain⟨_,_,c,h,_⟩:=a5 j v.1 v.2 q;rw[h];rfl
  have eb:(e2.lookup j).isSome=(gb j).isSome:=by
   cases q:e2.lookup j with
   |none=>rw[b4 j q];rfl
   |some v=>obtain⟨_,_,c,h,_⟩:=b5 j v.1 v.2 q;rw[h];rfl
  have hm:=mem_join (e1:=e1) (e2:=e2) (j:=j);rw[ea,eb] at hm;by_cases h:j∈cK e1 e2
  ·rw[q1k h,q1k (hm.mp h)]
  ·rw[q1l h,q1l λq=>h (hm.mpr q)]
 ·lia
end
noncomputable def mY(acc:List (List Nat))(c:Int×Int×Int):List (List Nat):=acc++[if c.2.1<0 then[] else acc.getD c.2.1.toNat []++[c.2.1.toNat]]
noncomputable def kU(aa:Calls):List (List Nat):=aa.foldl mY []
noncomputable def ww(all:Calls)(c:Int×Int×Int)(js:List Nat):Int:=if (js.map λj=>(all.getD j (0,0,0)).1).any (λx=>x==c.1) then 0 else 1
noncomputable def YB(js:List Nat):O:=.list (js.map aw)
section
variable{L n k:Nat}{H Hb:List O}{l:List (Option V)}
structure d7(Hb:List O)(al fl:Nat)(kT:List (List Nat))(fs:List Int)(H:List O):Prop where
 ab:∃rs:List Nat,H[al]?=some (.list (rs.map V.ref))/\mH YB H rs kT/\∀r∈rs,Hb.length<=r
 fi:H[fl]?=some (.list (fs.map V.int))
 fr:∀j o,Hb[j]?=some o->j≠al->j≠fl->H[j]?=some o
 ne:al≠fl/\al<Hb.length/\fl<Hb.length
 le:Hb.length<=H.length
theorem d7.app(D:d7 Hb al fl kT fs H)(J:List O):d7 Hb al fl kT fs (H++J):=by refine cps λPq kq=>?_;obtain⟨⟨rs,a,b,c⟩,d,e,f,g⟩:=D;refine kq ?_;exact⟨⟨rs,ar a,b.keep λ_ _ _ h=>ar h,c⟩,ar d,λj o h h1 h2=>ar (e j o h h1 h2),f,by rw[q0x];lia⟩
theorem d7.a0J(D:d7 Hb al fl kT fs H)(h:H[r]?=some (YB js))(h1:Hb.length<=r)(hv:H[al]?=some (.list vs)):d7 Hb al fl (kT++[js]) fs (H.set al (.list (vs++[.ref r]))):=by
 refine cps λPq kq=>?_;obtain⟨⟨rs,a,b,c⟩,d,e,⟨f1,f2,f3⟩,g⟩:=D;rw[a] at hv;cases hv;have cc:∀q∈rs++[r],Hb.length<=q:=λq hq=>by
  rcases q1q.mp hq with g | g
  ·exact c q g
  ·rw[q2e.mp g];exact h1
 refine kq ?_;exact⟨⟨rs++[r],by rw[bx a,q1o];rfl,(b.snoc h).keep λq hq o ho=>ay (by have:=cc q hq;lia) ho,cc⟩,ay (Ne.symm f1) d,λj o h h1 h2=>ay h1 (e j o h h1 h2),⟨f1,f2,f3⟩,by rw[q1n];exact g⟩
theorem d7.a0I(D:d7 Hb al fl kT fs H):d7 Hb al fl kT (fs++[x]) (H.set fl (.list (fs.map V.int++[.int x]))):=by refine cps λPq kq=>?_;obtain⟨⟨rs,a,b,c⟩,d,e,⟨f1,f2,f3⟩,g⟩:=D;refine kq ?_;exact⟨⟨rs,ay f1 a,b.keep λq hq o ho=>ay (by have:=c q hq;lia) ho,c⟩,by rw[bx d,q1o];rfl,λj o h h1 h2=>ay h2 (e j o h h1 h2),⟨f1,f2,f3⟩,by rw[q1n];exact g⟩
theorem d7.Zo(D:d7 Hb al fl kT fs H)(h1:j≠al)(h2:j≠fl)(h3:j<Hb.length):∃H0,d7 H0 al fl kT fs (H.set j o)/\H0=Hb.set j o:=by
 refine cps λPq kq=>?_;obtain⟨⟨rs,a,b,c⟩,d,e,⟨f1,f2,f3⟩,g⟩:=D;refine kq ?_;refine⟨_,⟨⟨rs,ay (Ne.symm h1) a,b.keep λq hq o ho=>ay (by have:=c q hq;lia) ho,λr hr=>by rw[q1n];exact c r hr⟩,ay (Ne.symm h2) d,λi o' h q1 q2=>?_,⟨f1,by rw[q1n];exact f2,by rw[q1n];exact f3⟩,by rw[q1n,q1n];exact g⟩,rfl⟩;by_cases hi:j=i
 ·subst hi
  rw[List.getElem?_set_self h3] at h;rw[List.getElem?_set_self (by lia)];exact h
 ·rw[q0j hi] at h ⊢;exact e i o' h q1 q2
end
noncomputable def bJ(cr nl al fl wl dl:Nat)(t:List (Option V)):List (Option V):=some (.ref cr)::some (.ref nl)::some (.ref al)::some (.ref fl)::some (.ref wl)::some (.ref dl)::t
section
variable{L n k:Nat}{H Hb:List O}{t:List (Option V)}
theorem a0C{cr nl al fl wl dl:Nat}{kT:List (List Nat)}{fs:List Int}{kd p co:Int}(D:d7 Hb al fl kT fs H)(hp:p<kT.length)(ha:kT.length<=1000)(hj:∀js∈kT,js.length<=1000):∃H',CM L n k [] ⟨H,bJ cr nl al fl wl dl (some (.int kd)::some (.int p)::some (.int co)::t)⟩=some (.next,⟨H',bJ cr nl al fl wl dl (some (.int kd)::some (.int p)::some (.int co)::t)⟩)/\d7 Hb al fl (mY kT (kd,p,co)) fs H':=by
 have hz:ax=1048576:=rfl;obtain⟨rs,a,b,c⟩:=D.ab;have hal:=(q0b.mp a).1;have hfl:=(q0b.mp D.fi).1;have hl:=b.len;have Au:=D.le;have fin:∀(J:List O)(r:Nat)(js:List Nat),H.length<=r->(H++J)[r]?=some (YB js)->nh [] .list .append (.ref al) [.ref r] (H++J)=some (.none,(H++J).set al (.list (rs.map V.ref++[.ref r])))/\d7 Hb al fl (kT++[js]) fs ((H++J).set al (.list (rs.map V.ref++[.ref r]))):=λJ r js h1 h2=>
  ⟨gn (ar a) (by simp) (by rw[List.length_map];lia),(D.app J).a0J h2 (by lia) (ar a)⟩
 have kd:∀J,dy (H++J) (.ref al)=some .list:=λJ=>by rw[bH,ar a];rfl
 unfold CM bJ mY;dsimp only;by_cases h:p<0
 ·rw[q1k h]
  obtain⟨f1,f2⟩:=fin [.list []] H.length [] (q0c _) (bX _);refine⟨_,?_,f2⟩;have hd:decide (p<0)=true:=q1w h;have k0:=kd [.list []];clear fin f2 kd b c D hj Au;simp only[cT,bj,↓aG,↓aR,↓aq,↓lD,↓Jk,↓bP,↓aC,↓eW,↓b8,kd_list,jE,YA,lt_int,↓aj,↓ah,↓hU,↓eC,aJ,bH,↓du,↓reduceIte, *];trivial
 ·rw[q1l h]
  obtain⟨i,rfl⟩:∃i:Nat,p=i:=⟨p.toNat,by lia⟩
  rw[Int.toNat_natCast];have hi:i<kT.length:=by lia
  have hx:kT[i]?=some (kT.getD i []):=by simp[hi]
  obtain⟨r,r1,r2⟩:=b.get hx;have YM:=hj _ (q2k hx);generalize kT.getD i [] = js at r2 YM;have hd:decide ((i:Int)<0)=false:=q1x (by lia);have it1:ud (i:Int) H[al]?=some (.ref r):=by rw[a,di _ _ (by rw[q0w];lia),hG,q0y,r1];rfl
  have ad:=nF (H:=H++[O.list [aw i]]) (m1:=r) (m2:=H.length) (ar r2) (bX _) (by rw[q0w];simp;lia);have hc:js.map aw++[aw i] = (js++[i]).map aw:=by rw[q1o];rfl
  rw[hc,q0i] at ad;have ln:(H++[O.list [aw i]]).length=H.length+1:=by simp
  rw[ln] at ad;obtain⟨f1,f2⟩:=fin ([O.list [aw i]]++[.list ((js++[i]).map aw)]) (H.length+1) (js++[i]) (by lia) (by rw[<-q0i,<-ln];exact bX _);refine⟨_,?_,f2⟩;have k0:=kd ([O.list [aw i]]++[.list ((js++[i]).map aw)]);have k1:Wk H[al]?=some .list:=by rw[a];rfl
  clear fin f2 kd b c D hj Au hc ln r2 r1 hx hi h hp ha a;unfold aw at ad f1 k0 ⊢;simp only[cT,bj,↓aG,↓aR,↓aq,↓lD,↓Jk,↓bP,↓aC,↓eW,↓b8,jE,ls1,lt_int,↓aj,↓ah,↓hU,↓eC,aJ,bH,Bool.false_eq_true,↓du,↓reduceIte, *]
end
section
variable{L n k:Nat}{H Hb:List O}{t:List (Option V)}
theorem any_ints{k:Int}:∀ks:List Int,kM (gU 8 H) (.int k) (ks.map V.int)=some (ks.any λx=>x==k)
 |[]=>rfl
 |x::ks=>by
  simp only[List.map_cons,List.any_cons];show(some (x==k)).bind (λb=>(kM (gU 8 H) (.int k) (ks.map V.int)).map λc=>b||c)=_;rw[any_ints ks];rfl
end
section
variable{L n k:Nat}{H Hb:List O}{t:List (Option V)}
theorem ym{q:Nat}{x:Int}{ks:List Int}(h:H[q]?=some (.list (ks.map V.int))):bC .In H (.int x) (.ref q)=some (ks.any λy=>y==x):=by show ug 8 H (.int x) (.ref q)=_;unfold ug;simp only[vS,vT,vR,ie,jw,Option.bind_some,b9,h,jS,any_ints]
theorem FZ(h1:mo ⟨H,l⟩=some (.ref m,⟨H,l⟩))(h0:H[m]?=some (.list ws))(h2:ms ⟨H,l⟩=some (v,⟨H',l⟩))(h3:H'[m]?=some (.list vs))(hl:vs.length<=2000):(Y (d0 [] .append mo [ms]) λ_=>Z Fl.next) ⟨H,l⟩=some (.next,⟨H'.set m (.list (vs++[v])),l⟩):=by
 have kq:dy H (.ref m)=some .list:=by rw[bH,h0];rfl
 have ap:=gn (z:=[]) (v:=v) h3 (by first | rfl | simp) (by have:ax=1048576:=rfl;lia);unfold d0;rw[aq,ai h1,aq,uD,kq,Option.bind_some,aq,ah,ai h2,aj];show(Y (au (nh [] .list .append (.ref m) [v])) λ_=>Z Fl.next) _=some (Fl.next,_);rw[aY,ap];rfl
theorem a0B{cr nl al fl wl dl:Nat}{kT:List (List Nat)}{js:List Nat}{fs:List Int}{kd p co:Int}{aa:Calls}(hL:2000<L)(D:d7 Hb al fl (kT++[js]) fs H)(C:aT H cr aa)(hc:aa.length<=1000)(ha:kT.length<=1000)(hj:js.length<=1000)(hf:fs.length<=1000)(YL:∀j∈js,j<aa.length):∀{G:Prop},(∀H',MU L n k [] ⟨H,bJ cr nl al fl wl dl (some (.int kd)::some (.int p)::some (.int co)::t)⟩=some (.next,⟨H',bJ cr nl al fl wl dl (some (.int kd)::some (.int p)::some (.int co)::t)⟩)->d7 Hb al fl (kT++[js]) (fs++[ww aa (kd,p,co) js]) H'->G)->G:=by
 intro Gq kq0;have hz:ax=1048576:=rfl;obtain⟨rs,a,b,c⟩:=D.ab;have hl:=b.len;obtain⟨r,r1,r2⟩:=b.get (i:=kT.length) (x:=js) (by simp);have hrs:rs=rs.dropLast++[r]:=by
  have h2:rs.length-1=kT.length:=by simp at hl;lia
  have my:rs≠[]:=by intro h;rw[h] at r1;cases r1
  have h3:rs.getLast my=r:=by rw[List.getLast_eq_getElem];have:=q0b.mp r1;obtain⟨h4,h5⟩:=this;simp only[h2];exact h5
  rw[<-h3,List.dropLast_concat_getLast]
 have itm:df H (.ref al) (.int (-1))=some (.ref r):=by rw[aJ,a,di _ _ (by rw[q0w];simp at hl;lia),hrs,List.map_append];exact iQ _ _
 generalize qt:bJ cr nl al fl wl dl (some (.int kd)::some (.int p)::some (.int co)::t)=lo at kq0;have l0:lo[0]?=some (some (.ref cr)):=by rw[<-qt];rfl
 have l2:lo[2]?=some (some (.ref al)):=by rw[<-qt];rfl
 have l3:lo[3]?=some (some (.ref fl)):=by rw[<-qt];rfl
 have l6:lo[6]?=some (some (.int kd)):=by rw[<-qt];rfl
 have e1:(Y (Y (af 2) λa=>Y (Y (Z (.int 1)) g7) λb=>av a b) jq) ⟨H,lo⟩=some (.lst r,⟨H,lo⟩):=by
  have e0:(Y (af 2) λa=>Y (Y (Z (.int 1)) g7) λb=>av a b) ⟨H,lo⟩=some (.ref r,⟨H,lo⟩):=by rw[ai (ao l2)];show av (.ref al) (.int (-1)) _=_;rw[aX,itm];rfl
  rw[ai e0,fY,dr r2 (by rw[q0w];lia)];rfl
 refine yL (q:=r) (L:=L) (H:=H) (l:=lo) (js:=js) (f:=λj=>(aa.getD j (0,0,0)).1) (mi:=_) (lf:=λl=>[none,none,(l[0]?).join]) (me:=Y (Y (af 2) λa=>Y (af 1) λb=>av a b) λa=>Y (Z (.int 0)) λb=>av a b) hL r2 hj e1 (λj hm J=>by
  have fR:=YL j hm;have hcj:aa[j]?=some (aa.getD j (0,0,0)):=by simp[fR]
  obtain⟨r,i1,i2⟩:=(C.app J).item (by lia) hcj;rw[l0];have e:(Y (af 2) λa=>Y (af 1) λb=>av a b) ⟨H++J,List.set [none,none,some (.ref cr)] 1 (some (aw j))⟩=some (.ref r,⟨H++J,List.set [none,none,some (.ref cr)] 1 (some (aw j))⟩):=by rw[ai (ao (v:=.ref cr) rfl),ai (ao (v:=aw j) rfl),aX,aw,i1];rfl
  show Y (Y (af 2) λa=>Y (af 1) λb=>av a b) _ ⟨H++J,List.set [none,none,some (.ref cr)] 1 (some (aw j))⟩=_;rw[ai e,aG,aX,aJ,i2];rfl) λJ e2=>?_
 have e3:∀{x:M V},x ⟨H,lo⟩=some (.ref H.length,⟨H++O.list ((js.map λj=>(aa.getD j (0,0,0)).1).map V.int)::J,lo⟩)->(Y (Y (af 6) λa=>Y x λb=>aF .In a b) λt=>if t then Z (V.int 0) else Z (.int 1)) ⟨H,lo⟩=some (.int (ww aa (kd,p,co) js),⟨H++O.list ((js.map λj=>(aa.getD j (0,0,0)).1).map V.int)::J,lo⟩):=λ{x} hx=>by
  have e4:(Y (af 6) λa=>Y x λb=>aF .In a b) ⟨H,lo⟩=some ((js.map λj=>(aa.getD j (0,0,0)).1).any (λy=>y==kd),⟨H++O.list ((js.map λj=>(aa.getD j (0,0,0)).1).map V.int)::J,lo⟩):=by rw[ai (ao l6),ai hx,eR,ym fM];rfl
  rw[ai e4];unfold ww;cases(js.map λj=>(aa.getD j (0,0,0)).1).any (λy=>y==kd)<;>rfl
 have e5:=e3 e2;have D':=D.app (O.list ((js.map λj=>(aa.getD j (0,0,0)).1).map V.int)::J);generalize O.list ((js.map λj=>(aa.getD j (0,0,0)).1).map V.int)::J=J' at e5 D';exact kq0 _ (FZ (ao l3) D.fi e5 D'.fi (by rw[q0w];lia)) D'.a0I
end
def lY(aa:Calls):Prop:=∀(i:Nat) c,aa[i]?=some c->c.2.1<(i:Int)
noncomputable def dw(aa:Calls)(i:Nat):List Nat:=(kU aa).getD i []
noncomputable def eO(aa:Calls)(i:Nat):Int:=ww aa (aa.getD i (0,0,0)) (dw aa i)
theorem pr:∀(ys:Calls) (acc:List (List Nat)),∃r,ys.foldl mY acc=acc++r/\r.length=ys.length
 |[],acc=>⟨[],by simp⟩
 |y::ys,acc=>by
  obtain⟨r,h,l⟩:=pr ys (mY acc y);refine⟨(if y.2.1<0 then[] else acc.getD y.2.1.toNat []++[y.2.1.toNat])::r,?_,by simp[l]⟩;simp only[List.foldl_cons,h];simp[mY]
theorem jk(aa:Calls):(kU aa).length=aa.length:=by obtain⟨r,h,l⟩:=pr aa [];unfold kU;rw[h];simpa using l
theorem pq{aa:Calls}{i:Nat}(h:i<aa.length):kU (aa.take (i+1))=mY (kU (aa.take i)) (aa.getD i (0,0,0)):=by
 have e:aa.take (i+1)=aa.take i++[aa.getD i (0,0,0)]:=by rw[List.take_add_one];simp[h]
 unfold kU;rw[e,List.foldl_append];rfl
theorem sa{aa:Calls}{i j:Nat}(h:i<=aa.length)(hj:j<i):(kU (aa.take i)).getD j [] = dw aa j:=by
 obtain⟨r,e,l⟩:=pr (aa.drop i) (kU (aa.take i));have e2:kU aa=kU (aa.take i)++r:=by rw[<-e];unfold kU;rw[<-List.foldl_append,List.take_append_drop]
 unfold dw;rw[e2,List.getD_eq_getElem?_getD,List.getD_eq_getElem?_getD,q0e (by rw[jk];simp;lia)]
theorem lN{α:Type}{i:Nat}(xs:List α)(x d:α)(h:xs.length=i):(xs++[x]).getD i d=x:=by subst h;rw[List.getD_eq_getElem?_getD,q2h (q0c _),Nat.sub_self];rfl
theorem po{aa:Calls}{i:Nat}(h:i<aa.length):kU (aa.take (i+1))=kU (aa.take i)++[dw aa i]:=by have e:=pq h;unfold mY at e;have e2:=sa (i:=i+1) (j:=i) (Nat.succ_le_of_lt h) (q2n i);have l:=jk (aa.take i);rw[List.length_take,Nat.min_eq_left (q1b h)] at l;rw[e] at e2 ⊢;simp only[<-e2,lN _ _ _ l]
theorem zg{aa:Calls}(W:lY aa){i:Nat}(h:i<aa.length):dw aa i=if (aa.getD i (0,0,0)).2.1<0 then[] else dw aa (aa.getD i (0,0,0)).2.1.toNat++[(aa.getD i (0,0,0)).2.1.toNat]:=by
 have e:=pq h;rw[po h,mY] at e;have e2:=List.append_cancel_left e;injection e2 with e3 _
 rw[e3];have hw:=W i (aa.getD i (0,0,0)) (by simp[h]);by_cases hp:(aa.getD i (0,0,0)).2.1<0
 ·rw[q1k hp,q1k hp]
 ·rw[q1l hp,q1l hp,sa (q1b h) (l8 (Int.not_lt.mp hp) hw)]
theorem jl{aa:Calls}(W:lY aa):∀(m i:Nat),i<m->i<aa.length->(dw aa i).length<=i/\∀x∈dw aa i,x<i
 |0,i,h,_=>q1t h (q2f _)
 |m+1,i,h,hi=>by
  have hw:=W i (aa.getD i (0,0,0)) (by simp[hi]);rw[zg W hi];by_cases hp:(aa.getD i (0,0,0)).2.1<0
  ·rw[q1k hp];simp
  ·rw[q1l hp]
   have hl:=l8 (Int.not_lt.mp hp) hw;obtain⟨a,b⟩:=jl W m (aa.getD i (0,0,0)).2.1.toNat (q0l hl (Nat.le_of_lt_succ h)) (Nat.lt_trans hl hi);refine⟨?_,λx hx=>?_⟩
   ·rw[q0x,List.length_singleton]
    exact q0d (Nat.succ_le_succ a) hl
   rcases q1q.mp hx with g | g
   ·exact Nat.lt_trans (b x g) hl
   ·rw[q2e.mp g];exact hl
theorem aT.mono{H H':List O}{cr:Nat}{aa:Calls}(C:aT H cr aa)(h:∀(j:Nat) o,H[j]?=some o->H'[j]?=some o):aT H' cr aa:=by obtain⟨cs,a,b⟩:=C;exact⟨cs,h _ _ a,b.keep λ_ _ _ e=>h _ _ e⟩
section
variable{L n k:Nat}{Hc Hb:List O}{t:List (Option V)}
structure a0X(Hb:List O)(al fl:Nat)(aa:Calls)(lo:List (Option V)->Prop)(i:Nat)(σ:St):Prop where
 loc:lo σ.loc
 due:d7 Hb al fl (kU (aa.take i)) ((List.range i).map (eO aa)) σ.H
def An(cr nl al fl wl dl:Nat)(t l:List (Option V)):Prop:=∃a b c,l=bJ cr nl al fl wl dl (a::b::c::t)
theorem a0A{cr nl al fl wl dl i:Nat}{aa:Calls}{H:List O}{a b c:Option V}(hL:2000<L)(hi:i<aa.length)(hc:aa.length<=900)(W:lY aa)(C:aT Hc cr aa)(hb:∀(j:Nat) o,Hc[j]?=some o->Hb[j]?=some o/\j≠al/\j≠fl)(D:d7 Hb al fl (kU (aa.take i)) ((List.range i).map (eO aa)) H){r:Nat}(hr:H[r]?=some (fA (aa.getD i (0,0,0)))):∀{G:Prop},(∀σ1 H',(Y (aW 3 (.ref r)) λvs=>bD [aE 6,aE 7,aE 8] vs) ⟨H,bJ cr nl al fl wl dl (a::b::c::t)⟩=some ((),σ1)->FP L n k [] σ1=some (.next,⟨H',σ1.loc⟩)->An cr nl al fl wl dl t σ1.loc->d7 Hb al fl (kU (aa.take (i+1))) ((List.range (i+1)).map (eO aa)) H'->G)->G:=by
 intro Gq kq0;have hw:=W i (aa.getD i (0,0,0)) (by simp[hi]);have ln:(kU (aa.take i)).length=i:=by rw[jk];simp;lia
 have lt:∀js∈kU (aa.take i),js.length<=1000:=λjs hm=>by
  obtain⟨j,hj,rfl⟩:=List.mem_iff_getElem.mp hm;have e:=sa (aa:=aa) (i:=i) (j:=j) (by lia) (by lia);rw[List.getD_eq_getElem?_getD,q0h hj] at e;have:=(jl W (j+1) j (by lia) (by lia)).1;rw[<-e] at this;exact q0d this (by lia)
 refine cps λPq kq=>?_;obtain⟨ab1,ab2⟩:=jl W (i+1) i (by lia) hi;have e3:=pq hi;have u:aW 3 (.ref r) ⟨H,bJ cr nl al fl wl dl (a::b::c::t)⟩=some ([.int (aa.getD i (0,0,0)).1,.int (aa.getD i (0,0,0)).2.1,.int (aa.getD i (0,0,0)).2.2],⟨H,bJ cr nl al fl wl dl (a::b::c::t)⟩):=by refine(nY _).trans ?_;simp only[jz,hr];rfl
 obtain⟨H1,s3,D3⟩:=a0C (L:=L) (n:=n) (k:=k) (cr:=cr) (nl:=nl) (wl:=wl) (dl:=dl) (co:=(aa.getD i (0,0,0)).2.2) (kd:=(aa.getD i (0,0,0)).1) (t:=t) D (p:=(aa.getD i (0,0,0)).2.1) (by rw[ln];exact hw) (by lia) lt;rw[show((aa.getD i (0,0,0)).1,(aa.getD i (0,0,0)).2.1,(aa.getD i (0,0,0)).2.2)=aa.getD i (0,0,0) from rfl,<-e3,po hi] at D3;refine a0B (L:=L) (n:=n) (k:=k) (cr:=cr) (nl:=nl) (wl:=wl) (dl:=dl) (co:=(aa.getD i (0,0,0)).2.2) (kd:=(aa.getD i (0,0,0)).1) (t:=t) (p:=(aa.getD i (0,0,0)).2.1) hL D3 (C.mono λj o h=>by obtain⟨x,y,z⟩:=hb j o h;exact D3.fr j o x y z) (by lia) (by lia) (by lia) (by simp;lia) (λj hj=>by have:=ab2 j hj;lia) λH2 s4 D4=>?_;refine kq ?_;refine kq0 ⟨H,bJ cr nl al fl wl dl (some (.int (aa.getD i (0,0,0)).1)::some (.int (aa.getD i (0,0,0)).2.1)::some (.int (aa.getD i (0,0,0)).2.2)::t)⟩ H2 (by rw[ai u];rfl) (ag s3 (ag s4 rfl)) ⟨_,_,_,rfl⟩ ?_;simp only[po hi,List.range_succ,List.map_append];exact D4
end
section
variable{L n k:Nat}{Hc Hb:List O}{t:List (Option V)}
theorem a0z{cr nl al fl wl dl:Nat}{aa:Calls}{a b c:Option V}(hL:2000<L)(hc:aa.length<=900)(W:lY aa)(C:aT Hc cr aa)(hb:∀(j:Nat) o,Hc[j]?=some o->Hb[j]?=some o/\j≠al/\j≠fl)(D:d7 Hb al fl [] [] Hb):∃σ',MT L n k ⟨Hb,bJ cr nl al fl wl dl (a::b::c::t)⟩=some (.next,σ')/\An cr nl al fl wl dl t σ'.loc/\d7 Hb al fl (kU aa) ((List.range aa.length).map (eO aa)) σ'.H:=by
 refine cps λPq kq=>?_;obtain⟨cs,c1,c2⟩:=id C;have cl:=c2.len;have hz:ax=1048576:=rfl;have it1:uc Hb (.ref cr)=some (.lst cr):=dr (hb _ _ c1).1 (by simp;lia);have e0:(Y (af 0) jq) ⟨Hb,bJ cr nl al fl wl dl (a::b::c::t)⟩=some (.lst cr,⟨Hb,bJ cr nl al fl wl dl (a::b::c::t)⟩):=by rw[ai (ao (v:=.ref cr) rfl),fY,it1];rfl
 have keep:∀{kT fs H} ,d7 Hb al fl kT fs H->∀(j:Nat) o,Hc[j]?=some o->H[j]?=some o:=λD j o h=>by
  obtain⟨x,y,z⟩:=hb j o h;exact D.fr j o x y z
 obtain⟨σ',r1,I⟩:=eD (a:=λv=>Y (aW 3 v) λvs=>bD [aE 6,aE 7,aE 8] vs) (b:=FP L n k []) (it:=.lst cr) (I:=λi σ=>An cr nl al fl wl dl t σ.loc/\d7 Hb al fl (kU (aa.take i)) ((List.range i).map (eO aa)) σ.H) (N:=aa.length) (item:=λi=>(cs.map V.ref).getD i .none) (λi σ I=>by have:=jc (i:=i) (keep I.2 _ _ c1) .none;simpa[cl] using this) (λi σ hi I=>by
  obtain⟨H,l⟩:=σ;obtain⟨⟨a,b,c,hl⟩,D⟩:=I;dsimp only at hl D;subst hl;obtain⟨r,q1,q2⟩:=c2.get (i:=i) (x:=aa.getD i (0,0,0)) (by simp[hi]);refine a0A (L:=L) (n:=n) (k:=k) (a:=a) (b:=b) (c:=c) (t:=t) (nl:=nl) (wl:=wl) (dl:=dl) hL hi hc W C hb D (keep D _ _ q2) λσ1 H' s1 s2 s3 s4=>?_;have hg:(cs.map V.ref).getD i .none=.ref r:=by simp[q1]
  refine⟨σ1,.next,⟨H',σ1.loc⟩,?_,s2,.inl rfl,s3,s4⟩;rw[hg];exact s1) aa.length 0 L ⟨Hb,bJ cr nl al fl wl dl (a::b::c::t)⟩ (Nat.zero_add _) (by lia) ⟨⟨a,b,c,rfl⟩,D⟩
 rw[List.take_length] at I;refine kq ?_;exact⟨σ',rG e0 r1,I⟩
end
section
variable{L n k:Nat}{H:List O}{l:List (Option V)}
theorem wE{it:It}{js:List Nat}{P:Nat->Bool}{f:Nat->V}{mi:M It}{lf:List (Option V)->List (Option V)}{te:M Bool}{me:M V}(hL:2000<L)(hj:js.length<=1000)(hp:gh it=true)(hh:it.hold=[])(hit:∀J i,mR (H++J) it i=some (if i<js.length then some (aw (js.getD i 0)) else none))(hm:mi ⟨H,l⟩=some (it,⟨H,l⟩))(ht:∀j∈js,∀J,∃J',te ⟨H++J,(lf l).set 1 (some (aw j))⟩=some (P j,⟨H++J++J',(lf l).set 1 (some (aw j))⟩))(Tv:∀j∈js,∀J,me ⟨H++J,(lf l).set 1 (some (aw j))⟩=some (f j,⟨H++J,(lf l).set 1 (some (aw j))⟩)):∃J,dF L mi lf 1 (λ_=>some te) (λ_=>me) [] ⟨H,l⟩=some (.ref H.length,⟨H++.list ((js.filter P).map f)::J,l⟩):=by
 obtain⟨J,r⟩:=rQ (L:=L) (it:=it) (N:=js.length) (item:=λi=>aw (js.getD i 0)) (el:=λi=>(js[i]?).bind λj=>if P j then some (f j) else none) (ix:=1) (mi:=mi) (lf:=lf) (t:=λ_=>some te) (me:=λ_=>me) (by lia) (by lia) hm hp hh (λacc J i=>hit _ i) (λi hi=>⟨λacc J=>by
  have hx:js[i]?=some js[i]:=q0h hi;have hg:aw (js.getD i 0)=aw js[i]:=by simp[hi]
  rw[hx,hg,Option.bind_some];obtain⟨J',t1⟩:=ht js[i] (List.getElem_mem hi) (.list acc::J);have m1:=Tv js[i] (List.getElem_mem hi) (.list acc::(J++J'));cases hP:P js[i] with
  |false=>rw[q1l (by simp)];rw[hP] at t1;exact⟨J',by rw[<-List.cons_append,<-List.append_assoc];exact t1⟩
  |true=>rw[q1k rfl];rw[hP] at t1;exact⟨J',[],by rw[<-List.cons_append,<-q0i];exact t1,by rw[q0q];exact m1⟩⟩)
 refine⟨J,?_⟩;rw[r,tm js (f:=λj=>if P j then some (f j) else none) (λi x hx=>by rw[hx];rfl)];have:js.filterMap (λj=>if P j then some (f j) else none)=(js.filter P).map f:=by
  clear hit ht Tv r hj
  induction js with
  |nil=>rfl
  |cons x xs ih=>
   rw[List.filterMap_cons,List.filter_cons];cases P x
   ·simp[ih]
   ·simp[ih]
 rw[this]
theorem oG{N:Nat}(J:List O)(i:Nat):mR J (.iH N) i=some (if i<(List.range N).length then some (aw ((List.range N).getD i 0)) else none):=by
 show some (if (i:Int)<N then some (V.int i) else none)=_;rw[List.length_range];by_cases h:i<N
 ·rw[q1k h,q1k (by lia)];simp[h,aw]
 ·rw[q1l h,q1l (by lia)]
theorem vM(C:aT H cr aa)(hc:aa.length<=2000)(h0:l[0]?=some (some (.ref cr))):(Y (Y (an [Y (an [af 0]) λvs=>au (blt .len vs)]) λvs=>au (blt .range vs)) jq) ⟨H,l⟩=some (.iH aa.length,⟨H,l⟩):=by
 refine cps λPq kq=>?_;obtain⟨cs,c1,c2⟩:=id C;have cl:=c2.len;have hz:ax=1048576:=rfl;have e1:(Y (an [af 0]) λvs=>au (blt .len vs)) ⟨H,l⟩=some (.int aa.length,⟨H,l⟩):=by rw[ah,ai (ao h0),aj,ez,jb c1 (by simp;lia),List.length_map,cl];rfl
 have e2:(Y (an [Y (an [af 0]) λvs=>au (blt .len vs)]) λvs=>au (blt .range vs)) ⟨H,l⟩=some (.iH aa.length,⟨H,l⟩):=by rw[ah,ai e1,aj];rfl
 refine kq ?_;rw[ai e2,fY];unfold uc;simp only[vR,NS,ie,Option.bind_some];rw[q1k (by lia)];rfl
theorem JG{q i:Nat}{ks:List Nat}(h:H[q]?=some (.list (ks.map aw))):bC .In H (aw i) (.ref q)=some (decide (i∈ks)):=by
 rw[show ks.map aw=(ks.map Int.ofNat).map V.int by rw[List.map_map];rfl] at h;show bC .In H (.int i) (.ref q)=_;rw[ym h];congr 1;rw[Bool.eq_iff_iff,List.any_eq_true,decide_eq_true_eq];constructor
 ·rintro⟨x,h1,h2⟩
  obtain⟨j,h3,rfl⟩:=List.mem_map.mp h1;rw[<-Int.ofNat.inj (eq_of_beq h2)];exact h3
 ·exact λh=>⟨i,List.mem_map.mpr ⟨i,h,rfl⟩,beq_self_eq_true _⟩
end
noncomputable def jT(aa:Calls)(i:Nat):Int:=eO aa i*(((List.range aa.length).filter λj=>decide (i∈dw aa j++[j])).map λj=>(aa.getD j (0,0,0)).2.2).sum
section
variable{L n k:Nat}{H Hb:List O}{t:List (Option V)}
theorem d7.row(D:d7 Hb al fl (kU aa) fs H)(J:List O)(hj:j<aa.length)(hc:aa.length<=900):∃r,df (H++J) (.ref al) (aw j)=some (.ref r)/\(H++J)[r]?=some (YB (dw aa j)):=by refine cps λPq kq=>?_;obtain⟨rs,a,b,c⟩:=D.ab;have hz:ax=1048576:=rfl;have l:=b.len;have al':=jk aa;obtain⟨r,r1,r2⟩:=b.get (i:=j) (x:=dw aa j) (by simp[dw,al',hj]);refine kq ?_;refine⟨r,?_,ar r2⟩;rw[aw,aJ,ar a,di _ _ (by rw[q0w];lia),hG,q0y,r1];rfl
theorem d7.fir(D:d7 Hb al fl (kU aa) ((List.range aa.length).map (eO aa)) H)(hj:j<aa.length)(hc:aa.length<=900):df H (.ref fl) (aw j)=some (.int (eO aa j)):=by exact oF D.fi (by simp;lia) (by simp[hj])
theorem Xf{cr nl al fl wl dl i:Nat}{aa:Calls}{a b c:Option V}(hL:2000<L)(hc:aa.length<=900)(W:lY aa)(C:aT H cr aa)(D:d7 Hb al fl (kU aa) ((List.range aa.length).map (eO aa)) H):∃J,(Y (an [dF L (Y (Y (an [Y (an [af 0]) λvs=>au (blt .len vs)]) λvs=>au (blt .range vs)) jq) (λl=>[none,none,(l[2]?).join,(l[0]?).join,(l[9]?).join]) 1 (λz=>some (Y (af 4) λa=>Y (Y (Y (af 2) λa=>Y (af 1) λb=>av a b) λa=>Y (Y (an [af 1]) λvs=>au (bt vs)) λb=>au (bn .Add a b)) λb=>aF .In a b)) (λz=>Y (Y (af 3) λa=>Y (af 1) λb=>av a b) λa=>Y (Z (.int 2)) λb=>av a b) []]) λvs=>au (blt .sum vs)) ⟨H,bJ cr nl al fl wl dl (a::b::c::some (aw i)::t)⟩=some (.int (((List.range aa.length).filter λj=>decide (i∈dw aa j++[j])).map λj=>(aa.getD j (0,0,0)).2.2).sum,⟨H++J,bJ cr nl al fl wl dl (a::b::c::some (aw i)::t)⟩):=by
 have hz:ax=1048576:=rfl;obtain⟨J,e⟩:=wE (L:=L) (H:=H) (l:=bJ cr nl al fl wl dl (a::b::c::some (aw i)::t)) (js:=List.range aa.length) (it:=.iH aa.length) (P:=λj=>decide (i∈dw aa j++[j])) (f:=λj=>.int (aa.getD j (0,0,0)).2.2) (lf:=λl=>[none,none,(l[2]?).join,(l[0]?).join,(l[9]?).join])
  (te:=Y (af 4) λa=>Y (Y (Y (af 2) λa=>Y (af 1) λb=>av a b) λa=>Y (Y (an [af 1]) λvs=>au (bt vs)) λb=>au (bn .Add a b)) λb=>aF .In a b) (me:=Y (Y (af 3) λa=>Y (af 1) λb=>av a b) λa=>Y (Z (.int 2)) λb=>av a b)
  hL (by simp;lia) rfl rfl (λJ i=>oG _ _) (vM C (by lia) rfl)
  (λj hj J=>by
   have El:=q1m.mp hj;obtain⟨r,r1,r2⟩:=D.row J El hc;have ab:=(jl W (j+1) j (by lia) El).1;refine⟨[.list [aw j],.list ((dw aa j++[j]).map aw)],?_⟩;show(Y (af 4) λa=>_) ⟨H++J,[none,some (aw j),some (.ref al),some (.ref cr),some (aw i)]⟩=some (_,⟨_,[none,some (aw j),some (.ref al),some (.ref cr),some (aw i)]⟩);have e1:(Y (af 2) λa=>Y (af 1) λb=>av a b) ⟨H++J,[none,some (aw j),some (.ref al),some (.ref cr),some (aw i)]⟩=some (.ref r,⟨H++J,[none,some (aw j),some (.ref al),some (.ref cr),some (aw i)]⟩):=by rw[ai (ao (v:=.ref al) rfl),ai (ao (v:=aw j) rfl),aX,r1];rfl
   have e2:(Y (an [af 1]) λvs=>au (bt vs)) ⟨H++J,[none,some (aw j),some (.ref al),some (.ref cr),some (aw i)]⟩=some (.ref (H++J).length,⟨H++J++[.list [aw j]],[none,some (aw j),some (.ref al),some (.ref cr),some (aw i)]⟩):=rfl;have ad:=nF (H:=H++J++[O.list [aw j]]) (m1:=r) (m2:=(H++J).length) (ar r2) (bX _) (by rw[q0w];simp;lia);rw[show(dw aa j).map aw++[aw j] = (dw aa j++[j]).map aw by rw[q1o];rfl] at ad;rw[ai (ao (v:=aw i) rfl),aq,ai e1,aq,ai e2,aY,ad,Option.bind_some,eR,JG (bX _)];simp only[Option.bind_some,List.append_assoc,List.cons_append,List.nil_append])
  (λj hj J=>by
   have El:=q1m.mp hj;obtain⟨r,i1,i2⟩:=(C.app J).item (by lia) (i:=j) (c:=aa.getD j (0,0,0)) (by simp[El]);have e:(Y (af 3) λa=>Y (af 1) λb=>av a b) ⟨H++J,[none,some (aw j),some (.ref al),some (.ref cr),some (aw i)]⟩=some (.ref r,⟨H++J,[none,some (aw j),some (.ref al),some (.ref cr),some (aw i)]⟩):=by rw[ai (ao (v:=.ref cr) rfl),ai (ao (v:=aw j) rfl),aX,aw,i1];rfl
   show Y (Y (af 3) λa=>Y (af 1) λb=>av a b) _ ⟨H++J,[none,some (aw j),some (.ref al),some (.ref cr),some (aw i)]⟩=_;rw[ai e,aG,aX,aJ,i2];rfl)
 rw[show((List.range aa.length).filter λj=>decide (i∈dw aa j++[j])).map (λj=>V.int (aa.getD j (0,0,0)).2.2)=(((List.range aa.length).filter λj=>decide (i∈dw aa j++[j])).map λj=>(aa.getD j (0,0,0)).2.2).map V.int by rw[List.map_map];rfl] at e;refine⟨O.list ((((List.range aa.length).filter λj=>decide (i∈dw aa j++[j])).map λj=>(aa.getD j (0,0,0)).2.2).map V.int)::J,?_⟩;rw[ah,ai e,aj,ez,xt fM (by rw[q0w];exact q0d (List.length_filter_le _ _) (by simp;lia))];rfl
structure Bl(Hb:List O)(al fl wl:Nat)(aa:Calls)(i:Nat)(H:List O):Prop where
 d:∃H0,d7 H0 al fl (kU aa) ((List.range aa.length).map (eO aa)) H/\wl<H0.length
 w:H[wl]?=some (.list (((List.range i).map (jT aa)).map V.int))
 fr:∀(j:Nat) o,Hb[j]?=some o->j≠al->j≠fl->j≠wl->H[j]?=some o
theorem Es(aa:Calls)(i:Nat):eO aa i=0\/eO aa i=1:=by unfold eO ww;split<;>simp
theorem a0y{cr nl al fl wl dl i:Nat}{aa:Calls}{a b c:Option V}(hL:2000<L)(hi:i<aa.length)(hc:aa.length<=900)(W:lY aa)(C:aT H cr aa)(n1:wl≠al)(n2:wl≠fl)(D:Bl Hb al fl wl aa i H):∃H',FO L n k [] ⟨H,bJ cr nl al fl wl dl (a::b::c::some (aw i)::t)⟩=some (.next,⟨H',bJ cr nl al fl wl dl (a::b::c::some (aw i)::t)⟩)/\Bl Hb al fl wl aa (i+1) H':=by
 refine cps λPq kq=>?_;obtain⟨⟨H0,d,hw⟩,w,fr⟩:=D;obtain⟨J,e⟩:=Xf (cr:=cr) (nl:=nl) (wl:=wl) (dl:=dl) (a:=a) (b:=b) (c:=c) (i:=i) (t:=t) hL hc W C d;have f1:=d.fir hi hc;have e1:(Y (af 3) λa=>Y (af 9) λb=>av a b) ⟨H,bJ cr nl al fl wl dl (a::b::c::some (aw i)::t)⟩=some (.int (eO aa i),⟨H,bJ cr nl al fl wl dl (a::b::c::some (aw i)::t)⟩):=by rw[ai (ao (v:=.ref fl) rfl),ai (ao (v:=aw i) rfl),aX,f1];rfl
 have e2:∀{m:M V},m ⟨H,bJ cr nl al fl wl dl (a::b::c::some (aw i)::t)⟩=some (.int (((List.range aa.length).filter λj=>decide (i∈dw aa j++[j])).map λj=>(aa.getD j (0,0,0)).2.2).sum,⟨H++J,bJ cr nl al fl wl dl (a::b::c::some (aw i)::t)⟩)->
  (Y (Y (af 3) λa=>Y (af 9) λb=>av a b) λa=>Y m λb=>au (bn .Mult a b)) ⟨H,bJ cr nl al fl wl dl (a::b::c::some (aw i)::t)⟩=some (.int (jT aa i),⟨H++J,bJ cr nl al fl wl dl (a::b::c::some (aw i)::t)⟩):=λ{m} hm=>by
  rw[ai e1,ai hm,ez,V4 _ _ (by rcases Es aa i with h | h<;>rw[h]<;>decide)];rfl
 have st:=FZ (mo:=af 4) (ao (l:=bJ cr nl al fl wl dl (a::b::c::some (aw i)::t)) rfl) w (e2 e) (ar w) (by simp;lia);have d':=d.app J;obtain⟨H1,D1,rfl⟩:=d'.Zo (j:=wl) (o:=O.list (((List.range i).map (jT aa)).map V.int++[.int (jT aa i)])) n1 n2 hw;refine kq ?_;refine⟨_,ag st rfl,⟨_,D1,by rw[q1n];exact hw⟩,?_,λj o h g1 g2 g3=>ay g3 (ar (fr j o h g1 g2 g3))⟩;rw[bx (ar w),List.range_succ,q1o,q1o];rfl
theorem a0x{Hc:List O}{cr nl al fl wl dl:Nat}{aa:Calls}{l:List (Option V)}{x:Option V}(hL:2000<L)(hc:aa.length<=900)(W:lY aa)(C:aT Hc cr aa)(hb:∀(j:Nat) o,Hc[j]?=some o->Hb[j]?=some o/\j≠al/\j≠fl/\j≠wl)(n1:wl≠al)(n2:wl≠fl)(D:Bl Hb al fl wl aa 0 H)(hl:An cr nl al fl wl dl (x::t) l):∃l' H',CL L n k ⟨H,l⟩=some (.next,⟨H',l'⟩)/\(∃x,An cr nl al fl wl dl (x::t) l')/\Bl Hb al fl wl aa aa.length H':=by
 have keep:∀{i H},Bl Hb al fl wl aa i H->aT H cr aa:=λD=>C.mono λj o h=>by
  obtain⟨x,y,z,u⟩:=hb j o h;exact D.fr j o x y z u
 obtain⟨a,b,c,rfl⟩:=hl;obtain⟨σ',r1,I⟩:=eD (a:=aE 9) (b:=FO L n k []) (it:=.iH aa.length) (I:=λi σ=>(∃x,An cr nl al fl wl dl (x::t) σ.loc)/\Bl Hb al fl wl aa i σ.H) (N:=aa.length) (item:=λi=>aw i) (λi σ I=>by have:=oG (N:=aa.length) σ.H i;by_cases h:i<aa.length<;>simpa[h] using this) (λi σ hi I=>by
  obtain⟨H,l⟩:=σ;obtain⟨⟨x,a,b,c,hl⟩,D⟩:=I;dsimp only at hl D;subst hl;obtain⟨H',s1,s2⟩:=a0y (L:=L) (n:=n) (k:=k) (a:=a) (b:=b) (c:=c) (t:=t) (nl:=nl) (dl:=dl) hL hi hc W (keep D) n1 n2 D;exact⟨⟨H,bJ cr nl al fl wl dl (a::b::c::some (aw i)::t)⟩,.next,⟨H',bJ cr nl al fl wl dl (a::b::c::some (aw i)::t)⟩,rfl,s1,.inl rfl,⟨_,_,_,_,rfl⟩,s2⟩) aa.length 0 L ⟨H,bJ cr nl al fl wl dl (a::b::c::x::t)⟩ (Nat.zero_add _) (by lia) ⟨⟨_,_,_,_,rfl⟩,D⟩
 obtain⟨H',l'⟩:=σ';refine⟨l',H',?_,I⟩;unfold CL lP
 (refine(ai (vM (keep D) (by lia) rfl)).trans ?_)
 exact r1
end
noncomputable def iu(aa:Calls)(j:Nat):Int:=(aa.getD j (0,0,0)).1
noncomputable def fG(aa:Calls)(j:Nat):Int:=(aa.getD j (0,0,0)).2.1
noncomputable def Gm(aa:Calls)(j:Nat):Int:=(aa.getD j (0,0,0)).2.2
noncomputable def bp(aa:Calls)(kd:Nat):List Nat:=(List.range aa.length).filter λj=>iu aa j==kd
noncomputable def ip(aa:Calls)(kd ot:Nat):List Nat:=(bp aa kd).filter λj=>decide (fG aa j≥0)&&(iu aa (fG aa j).toNat==ot)
noncomputable def Ad:List Str:=["a:0()","a:-20()","b.c:300()","~:7()","{}","","<",">"]
noncomputable def iN(kd:Nat):Str:=Ad.getD kd ""
noncomputable def f6(aa:Calls)(js:List Nat):Q4:=(js.length,(js.map (eO aa)).sum,(js.map (Gm aa)).sum,(js.map (jT aa)).sum)
structure mZ(Hc:List O)(nl fl wl:Nat)(aa:Calls)(H:List O):Prop where
 nm:H[nl]?=some (.list (Ad.map V.str))
 fi:H[fl]?=some (.list (((List.range aa.length).map (eO aa)).map V.int))
 wh:H[wl]?=some (.list (((List.range aa.length).map (jT aa)).map V.int))
 fr:∀(j:Nat) o,Hc[j]?=some o->H[j]?=some o
section
variable{L n k:Nat}{H Hc:List O}{t l:List (Option V)}{aa:Calls}{cr nl al fl wl dl:Nat}
theorem mZ.app(D:mZ Hc nl fl wl aa H)(J:List O):mZ Hc nl fl wl aa (H++J):=⟨ar D.nm,ar D.fi,ar D.wh,λj o h=>ar (D.fr j o h)⟩
theorem mZ.vz(D:mZ Hc nl fl wl aa H)(hq:H[q]?=some (.dict es))(hc:Hc.length<=q):mZ Hc nl fl wl aa (H.set q o):=by
 have ne:∀{j:Nat}{vs:List V},H[j]?=some (.list vs)->j≠q:=λh e=>by rw[e,hq] at h;cases h
 refine⟨ay (ne D.nm) D.nm,ay (ne D.fi) D.fi,ay (ne D.wh) D.wh,λj o' h=>ay ?_ (D.fr j o' h)⟩;have:=(q0b.mp h).1;lia
theorem mZ.cl(D:mZ Hc nl fl wl aa H)(C:aT Hc cr aa):aT H cr aa:=C.mono D.fr
theorem kr(h:j∈bp aa kd):j<aa.length:=q1m.mp (List.mem_filter.mp h).1
theorem or(kd:Nat):(bp aa kd).length<=aa.length:=by have:=List.length_filter_le (λj=>iu aa j==(kd:Int)) (List.range aa.length);rwa[List.length_range] at this
theorem GH(kd ot:Nat):(ip aa kd ot).length<=aa.length:=q0d (List.length_filter_le _ _) (or kd)
theorem N2(h:j∈ip aa kd ot):j<aa.length:=kr (List.mem_filter.mp h).1
theorem ul{f:Nat->Int}{N j:Nat}(h:j<N):((List.range N).map f).getD j 0=f j:=by simp[h]
theorem yB{q:Nat}{js:List Nat}(hL:2000<L)(hc:aa.length<=900)(D:mZ Hc nl fl wl aa H)(C:aT H cr aa)(hq:H[q]?=some (.list (js.map aw)))(hj:∀j∈js,j<aa.length)(hl:js.length<=1000)(n k:Nat):∃J,A0 L n k [.ref q,.ref cr,.ref fl,.ref wl] H=some (qV (f6 aa js),H++J):=by refine Et (L:=L) (n:=n) (k:=k) (js:=js) hL hl hq C D.fi D.wh (by lia) (by simp) (by simp) hj λJ e=>?_;refine⟨J,e.trans ?_⟩;rw[List.map_congr_left (g:=eO aa) (λj h=>ul (hj j h)),List.map_congr_left (g:=jT aa) (λj h=>ul (hj j h))];rfl
theorem oY(C:aT H cr aa)(hc:aa.length<=900)(hj:j<aa.length)(J:List O):∃r,df (H++J) (.ref cr) (aw j)=some (.ref r)/\(H++J)[r]?=some (fA (aa.getD j (0,0,0))):=(C.app J).item (by lia) (by simp[hj])
theorem Xl(hL:2000<L)(hc:aa.length<=900)(C:aT H cr aa):∀{G:Prop},(∀J,vL L n k [] ⟨H,bJ cr nl al fl wl dl (some (aw kd)::b::c::x::m0::c0::t)⟩=some (.next,⟨H++O.list ((bp aa kd).map aw)::J++[.dict []],bJ cr nl al fl wl dl (some (aw kd)::b::c::x::some (.ref H.length)::some (.ref (H++O.list ((bp aa kd).map aw)::J).length)::t)⟩)->G)->G:=by
 intro Gq kq0;obtain⟨J,e⟩:=wE (L:=L) (H:=H) (l:=bJ cr nl al fl wl dl (some (aw kd)::b::c::x::m0::c0::t)) (js:=List.range aa.length) (it:=.iH aa.length) (P:=λj=>iu aa j==kd) (f:=aw) (lf:=λl=>[none,none,(l[0]?).join,(l[6]?).join]) (te:=Y (Y (Y (af 2) λa=>Y (af 1) λb=>av a b) λa=>Y (Z (.int 0)) λb=>av a b) λa=>Y (af 3) λb=>aF .Eq a b) (me:=af 1) hL (by simp;lia) rfl rfl (λJ i=>oG _ _) (vM C (by lia) rfl) (λj hj J=>by
  obtain⟨r,r1,r2⟩:=oY C hc (q1m.mp hj) J;refine⟨[],?_⟩;show(Y _ λa=>_) ⟨H++J,[none,some (aw j),some (.ref cr),some (aw kd)]⟩=some (_,⟨_,[none,some (aw j),some (.ref cr),some (aw kd)]⟩);have e1:(Y (af 2) λa=>Y (af 1) λb=>av a b) ⟨H++J,[none,some (aw j),some (.ref cr),some (aw kd)]⟩=some (.ref r,⟨H++J,[none,some (aw j),some (.ref cr),some (aw kd)]⟩):=by rw[ai (ao (v:=.ref cr) rfl),ai (ao (v:=aw j) rfl),aX,r1];rfl
  rw[aq,ai e1,aG,o1,aJ,r2,q0q];rfl)
  (λj hj J=>rfl)
 refine kq0 J ?_;unfold vL;rw[aq,ah,ai e];rfl
theorem Xk(hL:2000<L)(hc:aa.length<=900)(C:aT H cr aa)(W:lY aa)(hm:H[mr]?=some (.list ((bp aa kd).map aw))):∀{G:Prop},(∀J,vJ L n k [] ⟨H,bJ cr nl al fl wl dl (some (aw kd)::b::c::x::some (.ref mr)::c0::some (aw ot)::d::t)⟩=some (.next,⟨H++O.list ((ip aa kd ot).map aw)::J,bJ cr nl al fl wl dl (some (aw kd)::b::c::x::some (.ref mr)::c0::some (aw ot)::some (.ref H.length)::t)⟩)->G)->G:=by
 intro Gq kq0;have hz:ax=1048576:=rfl;have ml:=or (aa:=aa) kd;obtain⟨J,e⟩:=wE (L:=L) (H:=H) (l:=bJ cr nl al fl wl dl (some (aw kd)::b::c::x::some (.ref mr)::c0::some (aw ot)::d::t)) (js:=bp aa kd) (it:=.lst mr) (P:=λj=>decide (fG aa j≥0)&&(iu aa (fG aa j).toNat==ot)) (f:=aw) (lf:=λl=>[none,none,(l[0]?).join,(l[12]?).join]) (mi:=Y (af 10) jq)
  (te:=bv [Y (Y (Y (af 2) λa=>Y (af 1) λb=>av a b) λa=>Y (Z (.int 1)) λb=>av a b) λa=>Y (Z (.int 0)) λb=>aF .GtE a b,Y (Y (Y (af 2) λa=>Y (Y (Y (af 2) λa=>Y (af 1) λb=>av a b) λa=>Y (Z (.int 1)) λb=>av a b) λb=>av a b) λa=>Y (Z (.int 0)) λb=>av a b) λa=>Y (af 3) λb=>aF .Eq a b]) (me:=af 1)
  hL (by lia) rfl rfl (λJ i=>by
   have:=jc (i:=i) (ar (J:=J) hm) .none;rw[q0w] at this;rw[this];by_cases h:i<(bp aa kd).length
   ·rw[q1k h,q1k h];simp[h]
   ·rw[q1l h,q1l h]) (by rw[ai (ao (v:=.ref mr) rfl),fY,dr hm (by rw[q0w];lia)];rfl)
  (λj hj J=>by
   have El:=kr hj;obtain⟨r,r1,r2⟩:=oY C hc El J;refine⟨[],?_⟩;show(bv _) ⟨H++J,[none,some (aw j),some (.ref cr),some (aw ot)]⟩=some (_,⟨_,[none,some (aw j),some (.ref cr),some (aw ot)]⟩);have e1:(Y (af 2) λa=>Y (af 1) λb=>av a b) ⟨H++J,[none,some (aw j),some (.ref cr),some (aw ot)]⟩=some (.ref r,⟨H++J,[none,some (aw j),some (.ref cr),some (aw ot)]⟩):=by rw[ai (ao (v:=.ref cr) rfl),ai (ao (v:=aw j) rfl),aX,r1];rfl
   have e2:(Y (Y (af 2) λa=>Y (af 1) λb=>av a b) λa=>Y (Z (.int 1)) λb=>av a b) ⟨H++J,[none,some (aw j),some (.ref cr),some (aw ot)]⟩=some (.int (fG aa j),⟨H++J,[none,some (aw j),some (.ref cr),some (aw ot)]⟩):=by rw[ai e1,aG,aX,aJ,r2];rfl
   have e3:(Y (Y (Y (af 2) λa=>Y (af 1) λb=>av a b) λa=>Y (Z (.int 1)) λb=>av a b) λa=>Y (Z (.int 0)) λb=>aF .GtE a b) ⟨H++J,[none,some (aw j),some (.ref cr),some (aw ot)]⟩=some (decide (fG aa j≥0),⟨H++J,[none,some (aw j),some (.ref cr),some (aw ot)]⟩):=by rw[ai e2];rfl
   rw[q0q];by_cases hp:fG aa j≥0
   ·rw[q1w hp] at e3 ⊢
    refine eH e3 ?_;have hw:fG aa j<(j:Int):=W j (aa.getD j (0,0,0)) (by simp[El]);obtain⟨q,q1,q2⟩:=oY C hc (j:=(fG aa j).toNat) (by lia) J;rw[aw,Int.toNat_of_nonneg hp] at q1;have e4:(Y (af 2) λa=>Y (Y (Y (af 2) λa=>Y (af 1) λb=>av a b) λa=>Y (Z (.int 1)) λb=>av a b) λb=>av a b) ⟨H++J,[none,some (aw j),some (.ref cr),some (aw ot)]⟩=some (.ref q,⟨H++J,[none,some (aw j),some (.ref cr),some (aw ot)]⟩):=by rw[ai (ao (v:=.ref cr) rfl),ai e2,aX,q1];rfl
    have e5:(Y (Y (Y (af 2) λa=>Y (Y (Y (af 2) λa=>Y (af 1) λb=>av a b) λa=>Y (Z (.int 1)) λb=>av a b) λb=>av a b) λa=>Y (Z (.int 0)) λb=>av a b) λa=>Y (af 3) λb=>aF .Eq a b) ⟨H++J,[none,some (aw j),some (.ref cr),some (aw ot)]⟩=some (iu aa (fG aa j).toNat==ot,⟨H++J,[none,some (aw j),some (.ref cr),some (aw ot)]⟩):=by rw[aq,ai e4,aG,o1,aJ,q2];rfl
    rw[Bool.true_and];cases hk:(iu aa (fG aa j).toNat==(ot:Int)) with
    |true=>rw[hk] at e5;exact eH e5 rfl
    |false=>rw[hk] at e5;exact gS e5
   ·rw[q1x hp] at e3 ⊢
    exact gS e3)
  (λj hj J=>rfl)
 refine kq0 J ?_;unfold vJ;rw[ai e];rfl
end
noncomputable def mW(aa:Calls)(kd:Nat):Nat->TF
 |0=>λ_=>none
 |o+1=>if ip aa kd o=[] then mW aa kd o else λj=>if j=iN o then some (f6 aa (ip aa kd o)) else mW aa kd o j
section
variable{L n k:Nat}{H Hc:List O}{t l:List (Option V)}{aa:Calls}{cr nl al fl wl dl cd mr kd m:Nat}{g:TG}
theorem Nd{q ix:Nat}{js:List Nat}(h0:l[ix]?=some (some (.ref q)))(h:H[q]?=some (.list (js.map aw))):(Y (af ix) λa=>Y (Y (an []) λvs=>au (bt vs)) λb=>aF .NotEq a b) ⟨H,l⟩=some (!js.isEmpty,⟨H++[.list []],l⟩):=by
 have q':(Y (an []) λvs=>au (bt vs)) ⟨H,l⟩=some (.ref H.length,⟨H++[.list []],l⟩):=rfl;have h1:(H++[O.list []])[q]?=_:=ar h;have h2:(H++[O.list []])[H.length]?=some (.list []):=bX _;have ne:Nf 8 (H++[O.list []]) (.ref q) (.ref H.length)=some (!js.isEmpty):=by
  unfold Nf;simp only[vR,b9,h1,h2,jS,Option.bind_some];cases js with
  |nil=>rfl
  |cons r rs=>simp
 rw[ai (ao h0),ai q',eR,show bC .NotEq (H++[O.list []]) (.ref q) (.ref H.length)=Nf 8 (H++[O.list []]) (.ref q) (.ref H.length) from rfl,ne];rfl
theorem Nc(D:mZ Hc nl fl wl aa H)(hi:i<8):df H (.ref nl) (aw i)=some (.str (iN i)):=by
 rw[aw,aJ,D.nm,di _ _ (by rw[q0w];decide),hG,q0y];have:Ad[i]?=some (iN i):=by simp[iN,show i<Ad.length from hi]
 rw[this];rfl
structure si(Hc:List O)(nl fl wl dl cd mr kd m:Nat)(aa:Calls)(g:TG)(ot:Nat)(H:List O):Prop where
 D:mZ Hc nl fl wl aa H
 mr:H[mr]?=some (.list ((bp aa kd).map aw))
 tb:TabAt dl cd m H dl g
 ca:bW ot H cd (mW aa kd ot)
 ne:dl≠cd/\Hc.length<=cd/\Hc.length<=dl
theorem si.app(K:si Hc nl fl wl dl cd mr kd m aa g ot H)(J:List O):si Hc nl fl wl dl cd mr kd m aa g ot (H++J):=⟨K.D.app J,ar K.mr,K.tb.app J,K.ca.app J,K.ne⟩
theorem Xj(hL:2000<L)(hc:aa.length<=900)(C:aT Hc cr aa)(W:lY aa)(ho:ot<4)(K:si Hc nl fl wl dl cd mr kd m aa g ot H):∃H' d',rZ L n k [] ⟨H,bJ cr nl al fl wl dl (some (aw kd)::b::c::x::some (.ref mr)::some (.ref cd)::some (aw ot)::d::t)⟩=some (.next,⟨H',bJ cr nl al fl wl dl (some (aw kd)::b::c::x::some (.ref mr)::some (.ref cd)::some (aw ot)::d'::t)⟩)/\si Hc nl fl wl dl cd mr kd m aa g (ot+1) H':=by
 refine Xk (L:=L) (n:=n) (k:=k) (t:=t) (nl:=nl) (al:=al) (fl:=fl) (wl:=wl) (dl:=dl) (b:=b) (c:=c) (x:=x) (c0:=some (.ref cd)) (d:=d) (ot:=ot) hL hc (K.D.cl C) W K.mr λJ Vq=>?_;have hq:(H++O.list ((ip aa kd ot).map aw)::J)[H.length]?=some (.list ((ip aa kd ot).map aw)):=fM;have K1:=K.app (O.list ((ip aa kd ot).map aw)::J);generalize H++O.list ((ip aa kd ot).map aw)::J=H1 at Vq hq K1;generalize H.length=tq at Vq hq;generalize qt:bJ cr nl al fl wl dl (some (aw kd)::b::c::x::some (.ref mr)::some (.ref cd)::some (aw ot)::some (.ref tq)::t)=lo at Vq;have l13:lo[13]?=some (some (.ref tq)):=by rw[<-qt];rfl
 have xm:=Nd l13 hq;have Wu:(H1++[O.list []])[tq]?=_:=ar hq;have K2:=K1.app [.list []];generalize H1++[O.list []] = H2 at xm Wu K2;by_cases he:ip aa kd ot=[]
 ·rw[he] at xm
  refine⟨H2,_,ag Vq (ag (σ':=⟨H2,lo⟩) ?_ (by rw[<-qt];rfl)),⟨K2.D,K2.mr,K2.tb,?_,K2.ne⟩⟩
  ·unfold vH
   rw[dW xm];rfl
  ·rw[mW,q1k he];exact K2.ca.mono (q2g _)
 ·have GF:_=some (true,_):=xm.trans (by cases h:ip aa kd ot with
   |nil=>exact q1t h he
   |cons _ _=>rfl)
  obtain⟨J2,e⟩:=yB (L:=L) hL hc K2.D (K2.D.cl C) Wu (λj h=>N2 h) (by have:=GH (aa:=aa) kd ot;lia) n k;have K3:=K2.app J2;generalize H2++J2=H3 at e K3;obtain⟨es,c1,c2,c3⟩:=K3.ca;have st:=i7 (z:=[]) (k:=iN ot) (u:=qV (f6 aa (ip aa kd ot))) c1 (by simp) (by have:ax=1048576:=rfl;simp[aO];lia);rw[iJ] at st;have ZA:=Nc K3.D (i:=ot) (by lia);refine⟨H3.set cd (.dict (aO qV (fF es (iN ot) (f6 aa (ip aa kd ot))))),_,ag Vq (ag (σ':=⟨H3.set cd (.dict (aO qV (fF es (iN ot) (f6 aa (ip aa kd ot))))),lo⟩) ?_ (by rw[<-qt];rfl)),⟨K3.D.vz c1 K3.ne.2.1,?_,K3.tb.vz (.inr rfl) K3.ne.1,⟨_,bx c1,?_,q0d (ki ..) (by lia)⟩,K3.ne⟩⟩
  ·unfold vH
   rw[fU GF];refine ag ?_ rfl;unfold CS;have l0:lo[0]?=some (some (.ref cr)):=by rw[<-qt];rfl
   have l1:lo[1]?=some (some (.ref nl)):=by rw[<-qt];rfl
   have l3:lo[3]?=some (some (.ref fl)):=by rw[<-qt];rfl
   have l4:lo[4]?=some (some (.ref wl)):=by rw[<-qt];rfl
   have l11:lo[11]?=some (some (.ref cd)):=by rw[<-qt];rfl
   have l12:lo[12]?=some (some (aw ot)):=by rw[<-qt];rfl
   have ni:(Y (af 1) λa=>Y (af 12) λb=>av a b) ⟨H3,lo⟩=some (.str (iN ot),⟨H3,lo⟩):=by rw[ai (ao l1),ai (ao l12),aX,ZA];rfl
   rw[q1k rfl,aq,ah,ai (ao l13),ah,ai (ao l0),ah,ai (ao l3),ah,ai (ao l4),aj,aY,e,Option.bind_some,ai (ao l11),ai ni,aY,st];rfl
  ·exact ay (λe=>by rw[<-e,K3.mr] at c1;cases c1) K3.mr
  ·rw[mW,q1l he];exact c2.put _ _
inductive L6(Hc:List O)(cr nl al fl wl dl cd mr kd m:Nat)(aa:Calls)(g:TG)(b c x:Option V)(t:List (Option V))(ot:Nat):St->Prop
 |mk (H:List O) (o d:Option V) (K:si Hc nl fl wl dl cd mr kd m aa g ot H):L6 Hc cr nl al fl wl dl cd mr kd m aa g b c x t ot ⟨H,bJ cr nl al fl wl dl (some (aw kd)::b::c::x::some (.ref mr)::some (.ref cd)::o::d::t)⟩
theorem wA(hL:2000<L)(hc:aa.length<=900)(C:aT Hc cr aa)(W:lY aa)(hi:i<4)(I:L6 Hc cr nl al fl wl dl cd mr kd m aa g b c x t i σ):NK (aE 12 (aw i)) (rZ L n k []) (L6 Hc cr nl al fl wl dl cd mr kd m aa g b c x t (i+1)) σ:=by
 cases I with
 |mk H o d K=>
  obtain⟨H',d',s1,s2⟩:=Xj (L:=L) (n:=n) (k:=k) (al:=al) (b:=b) (c:=c) (x:=x) (d:=d) (t:=t) hL hc C W hi K;exact⟨_,.next,_,rfl,s1,.inl rfl,⟨_,_,_,s2⟩⟩
theorem Xi(hL:2000<L)(hc:aa.length<=900)(C:aT Hc cr aa)(W:lY aa)(K:si Hc nl fl wl dl cd mr kd m aa g 0 H):∀{G:Prop},(∀H' o' d',CR L n k [] ⟨H,bJ cr nl al fl wl dl (some (aw kd)::b::c::x::some (.ref mr)::some (.ref cd)::o::d::t)⟩=some (.next,⟨H',bJ cr nl al fl wl dl (some (aw kd)::b::c::x::some (.ref mr)::some (.ref cd)::o'::d'::t)⟩)->si Hc nl fl wl dl cd mr kd m aa g 4 H'->G)->G:=by
 intro Gq kq0;obtain⟨σ',r1,I⟩:=eD (a:=aE 12) (b:=rZ L n k []) (it:=.iH 4) (I:=L6 Hc cr nl al fl wl dl cd mr kd m aa g b c x t) (N:=4) (item:=λi=>aw i) (λi σ I=>by have:=oG (N:=4) σ.H i;by_cases h:i<4<;>simpa[h] using this) (λi σ hi I=>wA hL hc C W hi I) 4 0 L _ (Nat.zero_add _) (by lia) ⟨H,o,d,K⟩
 cases I with
 |mk H' o' d' K'=>exact kq0 H' o' d' r1 K'
end
noncomputable def pE(aa:Calls)(js:List Nat):Q4:=((js.map (eO aa)).sum,js.length,(js.map (Gm aa)).sum,(js.map (jT aa)).sum)
noncomputable def jN(aa:Calls):Nat->TG
 |0=>λ_=>none
 |i+1=>if bp aa i=[] then jN aa i else λj=>if j=iN i then some (pE aa (bp aa i),mW aa i 4) else jN aa i j
section
variable{L n k:Nat}{H Hc:List O}{t l:List (Option V)}{aa:Calls}{cr nl al fl wl dl m kd:Nat}{g:TG}
theorem TabAt.left(h:TabAt x y m H tr g):TabAt x x m H tr g:=by refine cps λPq kq=>?_;obtain⟨es,a,b,c,d,e⟩:=h;refine kq ?_;exact⟨es,a,b,c,d,λk q d' hk=>by obtain⟨u,v,w⟩:=e k q d' hk;exact⟨u,u,w⟩⟩
theorem TabAt.right(h:TabAt x x m H tr g)(hy:H.length<=y):TabAt x y m H tr g:=by refine cps λPq kq=>?_;obtain⟨es,a,b,c,d,e⟩:=h;refine kq ?_;refine⟨es,a,b,c,d,λk q d' hk=>?_⟩;refine cps λPq kq=>?_;obtain⟨u,v,w,z,r⟩:=e k q d' hk;obtain⟨uY,a',_⟩:=id r;have:=(q0b.mp a').1;refine kq ?_;exact⟨u,by lia,w,z,r⟩
structure Ga(Hc:List O)(nl fl wl dl:Nat)(aa:Calls)(kd:Nat)(H:List O):Prop where
 D:mZ Hc nl fl wl aa H
 tb:TabAt dl dl (kd+4) H dl (jN aa kd)
 le:Hc.length<=dl
theorem Xh(hL:2000<L)(hc:aa.length<=900)(C:aT Hc cr aa)(W:lY aa)(hk:kd<8)(M:Ga Hc nl fl wl dl aa kd H):∀{G:Prop},(∀H' m' c' o' d' w1 w2 w3 w4,rY L n k [] ⟨H,bJ cr nl al fl wl dl (some (aw kd)::b::c::x::m0::c0::o::d::v1::v2::v3::v4::t)⟩=some (.next,⟨H',bJ cr nl al fl wl dl (some (aw kd)::b::c::x::m'::c'::o'::d'::w1::w2::w3::w4::t)⟩)->Ga Hc nl fl wl dl aa (kd+1) H'->G)->G:=by
 intro Gq kq0;refine Xl (L:=L) (n:=n) (k:=k) (t:=o::d::v1::v2::v3::v4::t) (nl:=nl) (al:=al) (fl:=fl) (wl:=wl) (dl:=dl) (kd:=kd) (b:=b) (c:=c) (x:=x) (m0:=m0) (c0:=c0) hL hc (M.D.cl C) λJ Qp=>?_;have hq:(H++O.list ((bp aa kd).map aw)::J)[H.length]?=some (.list ((bp aa kd).map aw)):=fM;have D1:=M.D.app (O.list ((bp aa kd).map aw)::J);have T1:=M.tb.app (O.list ((bp aa kd).map aw)::J);generalize H++O.list ((bp aa kd).map aw)::J=H1 at Qp hq D1 T1;generalize H.length=mr at Qp hq;have hd:dl<H1.length:=by obtain⟨_,a,_⟩:=T1;exact(q0b.mp a).1
 have K:si Hc nl fl wl dl H1.length mr kd (kd+4) aa (jN aa kd) 0 (H1++[.dict []]):=⟨D1.app _,ar hq,(T1.right (q0c _)).app _,⟨[],bX _,dV.nil,q0c _⟩,by lia,by have:=M.le;lia,M.le⟩
 generalize H1.length=cd at Qp K;refine Xi (L:=L) (n:=n) (k:=k) (al:=al) (b:=b) (c:=c) (x:=x) (o:=o) (d:=d) (t:=v1::v2::v3::v4::t) hL hc C W K λH2 o' d' Tp K2=>?_;clear D1 T1 hd K hq M;have xm:=Nd (ix:=10) (l:=bJ cr nl al fl wl dl (some (aw kd)::b::c::x::some (.ref mr)::some (.ref cd)::o'::d'::v1::v2::v3::v4::t)) rfl K2.mr;have K3:=K2.app [.list []];generalize H2++[O.list []] = H3 at xm K3;by_cases he:bp aa kd=[]
 ·rw[he] at xm
  refine kq0 H3 _ _ _ _ _ _ _ _ (ag Qp (ag Tp (ag (σ':=⟨H3,bJ cr nl al fl wl dl (some (aw kd)::b::c::x::some (.ref mr)::some (.ref cd)::o'::d'::v1::v2::v3::v4::t)⟩) ?_ rfl))) ⟨K3.D,?_,K3.ne.2.2⟩
  ·unfold vF
   rw[dW xm];rfl
  ·rw[jN,q1k he];exact K3.tb.left.mono (by lia)
 ·have GF:_=some (true,_):=xm.trans (by cases h:bp aa kd with
   |nil=>exact q1t h he
   |cons _ _=>rfl)
  obtain⟨J2,e⟩:=yB (L:=L) hL hc K3.D (K3.D.cl C) K3.mr (λj h=>kr h) (by have:=or (aa:=aa) kd;lia) (n+1) k;have K4:=K3.app J2;generalize H3++J2=H4 at e K4;obtain⟨es,p1,p2,p3⟩:=K4.tb.left.put (.inl rfl) (p:=pE aa (bp aa kd)) (k:=iN kd) (K4.ca.mono (m':=kd+4+1) (by lia)) (Ne.symm K4.ne.1) (Ne.symm K4.ne.1);have st:=i7 (z:=[]) (k:=iN kd) (u:=a9 (pE aa (bp aa kd),cd)) p1 (by simp) (by have:ax=1048576:=rfl;simp[aO];lia);rw[iJ] at st;have ZA:=Nc K4.D (i:=kd) hk;generalize qt:bJ cr nl al fl wl dl (some (aw kd)::b::c::x::some (.ref mr)::some (.ref cd)::o'::d'::v1::v2::v3::v4::t)=lo at Tp GF;have s18:vG L n k [] ⟨H3,lo⟩=some (.next,⟨H4,bJ cr nl al fl wl dl (some (aw kd)::b::c::x::some (.ref mr)::some (.ref cd)::o'::d'::some (.int (f6 aa (bp aa kd)).1)::some (.int (f6 aa (bp aa kd)).2.1)::some (.int (f6 aa (bp aa kd)).2.2.1)::some (.int (f6 aa (bp aa kd)).2.2.2)::t)⟩):=by
   unfold vG;have l0:lo[0]?=some (some (.ref cr)):=by rw[<-qt];rfl
   have l3:lo[3]?=some (some (.ref fl)):=by rw[<-qt];rfl
   have l4:lo[4]?=some (some (.ref wl)):=by rw[<-qt];rfl
   have l10:lo[10]?=some (some (.ref mr)):=by rw[<-qt];rfl
   rw[q1k rfl,aq,ah,ai (ao l10),ah,ai (ao l0),ah,ai (ao l3),ah,ai (ao l4),aj,aY,e,Option.bind_some,<-qt];rfl
  refine kq0 _ _ _ _ _ _ _ _ _ (ag Qp (ag Tp (ag (σ':=⟨H4.set dl (.dict (aO a9 (fF es (iN kd) (pE aa (bp aa kd),cd)))),bJ cr nl al fl wl dl (some (aw kd)::b::c::x::some (.ref mr)::some (.ref cd)::o'::d'::some (.int (f6 aa (bp aa kd)).1)::some (.int (f6 aa (bp aa kd)).2.1)::some (.int (f6 aa (bp aa kd)).2.2.1)::some (.int (f6 aa (bp aa kd)).2.2.2)::t)⟩) ?_ rfl))) ⟨K4.D.vz p1 K4.ne.2.2,?_,K4.ne.2.2⟩
  ·unfold vF
   rw[fU GF];refine ag s18 (ag ?_ rfl);have ni:∀lo:List (Option V),lo[1]?=some (some (.ref nl))->lo[6]?=some (some (aw kd))->(Y (af 1) λa=>Y (af 6) λb=>av a b) ⟨H4,lo⟩=some (.str (iN kd),⟨H4,lo⟩):=λlo l1 l6=>by
    rw[ai (ao l1),ai (ao l6),aX,ZA];rfl
   unfold CQ;rw[aq,ah,ai (ao (v:=.int (f6 aa (bp aa kd)).2.1) rfl),ah,ai (ao (v:=.int (f6 aa (bp aa kd)).1) rfl),ah,ai (ao (v:=.int (f6 aa (bp aa kd)).2.2.1) rfl),ah,ai (ao (v:=.int (f6 aa (bp aa kd)).2.2.2) rfl),ah,ai (ao (v:=.ref cd) rfl),aj,GE,ai (ao (v:=.ref dl) rfl),ai (ni _ rfl rfl)];show Y (au (a8 [] (.ref dl) (.str (iN kd)) (a9 (pE aa (bp aa kd),cd)))) _ _=_;rw[aY,st];rfl
  ·rw[jN,q1l he,show kd+1+4=kd+4+1 by lia];exact p3
inductive L7(Hc:List O)(cr nl al fl wl dl:Nat)(aa:Calls)(b c x:Option V)(t:List (Option V))(kd:Nat):St->Prop
 |mk (H:List O) (a m0 c0 o d v1 v2 v3 v4:Option V) (M:Ga Hc nl fl wl dl aa kd H):L7 Hc cr nl al fl wl dl aa b c x t kd ⟨H,bJ cr nl al fl wl dl (a::b::c::x::m0::c0::o::d::v1::v2::v3::v4::t)⟩
theorem wz(hL:2000<L)(hc:aa.length<=900)(C:aT Hc cr aa)(W:lY aa)(hi:i<8)(I:L7 Hc cr nl al fl wl dl aa b c x t i σ):NK (aE 6 (aw i)) (rY L n k []) (L7 Hc cr nl al fl wl dl aa b c x t (i+1)) σ:=by
 cases I with
 |mk H a m0 c0 o d v1 v2 v3 v4 M=>
  exact Xh (L:=L) (n:=n) (k:=k) (al:=al) (b:=b) (c:=c) (x:=x) (m0:=m0) (c0:=c0) (o:=o) (d:=d) (v1:=v1) (v2:=v2) (v3:=v3) (v4:=v4) (t:=t) hL hc C W hi M λH' m' c' o' d' w1 w2 w3 w4 s1 s2=>⟨_,.next,_,rfl,s1,.inl rfl,⟨_,_,_,_,_,_,_,_,_,_,s2⟩⟩
theorem Xg(hL:2000<L)(hc:aa.length<=900)(C:aT Hc cr aa)(W:lY aa)(M:Ga Hc nl fl wl dl aa 0 H):∀{G:Prop},(∀H' l',CO L n k ⟨H,bJ cr nl al fl wl dl (a::b::c::x::m0::c0::o::d::v1::v2::v3::v4::t)⟩=some (.next,⟨H',l'⟩)->l'[5]?=some (some (.ref dl))->Ga Hc nl fl wl dl aa 8 H'->G)->G:=by
 intro Gq kq0;obtain⟨σ',r1,I⟩:=eD (a:=aE 6) (b:=rY L n k []) (it:=.iH 8) (I:=L7 Hc cr nl al fl wl dl aa b c x t) (N:=8) (item:=λi=>aw i) (λi σ I=>by have:=oG (N:=8) σ.H i;by_cases h:i<8<;>simpa[h] using this) (λi σ hi I=>wz hL hc C W hi I) 8 0 L _ (Nat.zero_add _) (by lia) ⟨H,a,m0,c0,o,d,v1,v2,v3,v4,M⟩
 cases I with
 |mk H' a m0 c0 o d v1 v2 v3 v4 M'=>exact kq0 H' _ r1 rfl M'
theorem EC(hL:2000<L)(hc:aa.length<=900)(C:aT Hc cr aa)(W:lY aa):∀{G:Prop},(∀H' dl,Ky L n k [.ref cr] Hc=some (.ref dl,H')->TabAt dl dl 12 H' dl (jN aa 8)->Hc.length<=dl->(∀(j:Nat) o,Hc[j]?=some o->H'[j]?=some o)->G)->G:=by
 intro Gq kq0;have fR:∀(j:Nat) o,Hc[j]?=some o->j<Hc.length:=λj o h=>(q0b.mp h).1;generalize hN:Hc.length=N at fR;have s1:MV L n k ⟨Hc,[some (.ref cr),none,none,none,none,none,none,none,none,none,none,none,none,none,none,none,none,none,none,none,none,none]⟩=some (.next,⟨Hc++[.list (Ad.map V.str)],[some (.ref cr),some (.ref N),none,none,none,none,none,none,none,none,none,none,none,none,none,none,none,none,none,none,none,none]⟩):=by rw[<-hN];rfl
 have ap:∀(j:Nat) o (J:List O),Hc[j]?=some o->(Hc++J)[j]?=some o:=λj o J h=>ar h;let Hb:=Hc++[O.list (Ad.map V.str),.list [],.list [],.list [],.dict []];have s2:CP L n k ⟨Hc++[.list (Ad.map V.str)],[some (.ref cr),some (.ref N),none,none,none,none,none,none,none,none,none,none,none,none,none,none,none,none,none,none,none,none]⟩=some (.next,⟨Hb,bJ cr N (N+1) (N+2) (N+3) (N+4) [none,none,none,none,none,none,none,none,none,none,none,none,none,none,none,none]⟩):=by
  have l1:(Hc++[O.list (Ad.map V.str)]).length=N+1:=by simp[hN]
  have l2:(Hc++[O.list (Ad.map V.str)]++[O.list []]).length=N+2:=by simp[hN]
  have l3:(Hc++[O.list (Ad.map V.str)]++[O.list []]++[O.list []]).length=N+3:=by simp[hN]
  have l4:(Hc++[O.list (Ad.map V.str)]++[O.list []]++[O.list []]++[O.list []]).length=N+4:=by simp[hN]
  have e:∀(H:List O) (l:List (Option V)),(Y (an []) λvs=>au (bt vs)) ⟨H,l⟩=some (.ref H.length,⟨H++[O.list []],l⟩):=λ_ _=>rfl;have e5:∀(H:List O) (l:List (Option V)),(au lS) ⟨H,l⟩=some (.ref H.length,⟨H++[.dict []],l⟩):=λ_ _=>rfl;unfold CP;rw[aq,ah,ai (e _ _),ah,ai (e _ _),ah,ai (e _ _),ah,ai (e5 _ _),aj,l1,l2,l3,l4,T3];show some (_,(⟨_,_⟩:St))=_;simp only[Hb,List.append_assoc,List.cons_append,List.nil_append];rfl
 have at_:∀(i:Nat),Hb[N+i]?=[O.list (Ad.map V.str),.list [],.list [],.list [],.dict []][i]? :=λi=>by
  show(Hc++_)[N+i]?=_;rw[q2h (by lia),hN,Nat.add_sub_cancel_left]
 have lb:Hb.length=N+5:=by simp[Hb,hN]
 have b0:Hb[N]?=some (.list (Ad.map V.str)):=at_ 0
 have b1:Hb[N+1]?=some (.list []):=at_ 1
 have b2:Hb[N+2]?=some (.list []):=at_ 2
 have b3:Hb[N+3]?=some (.list []):=at_ 3
 have b4:Hb[N+4]?=some (.dict []):=at_ 4
 have hb:∀(j:Nat) o,Hc[j]?=some o->Hb[j]?=some o:=λj o h=>ar h;generalize Hb=Hb at s2 lb b0 b1 b2 b3 b4 hb;clear ap at_
 refine cps λPq kq=>?_;obtain⟨⟨H1,l1⟩,s6,q1,D1⟩:=a0z (L:=L) (n:=n) (k:=k) (nl:=N) (al:=N+1) (fl:=N+2) (wl:=N+3) (dl:=N+4) (a:=none) (b:=none) (c:=none) (t:=[none,none,none,none,none,none,none,none,none,none,none,none,none]) hL hc W C (λj o h=>⟨hb j o h,by have:=fR j o h;lia,by have:=fR j o h;lia⟩) ⟨⟨[],b1,trivial,λr h=>q1t h (q2c)⟩,b2,λj o h _ _=>h,by lia,q0c _⟩
 dsimp only at q1 D1;obtain⟨l2,H2,s9,⟨x,q2⟩,D2⟩:=a0x (L:=L) (n:=n) (k:=k) (Hb:=Hb) (H:=H1) (x:=none) (wl:=N+3) hL hc W C (λj o h=>⟨hb j o h,by have:=fR j o h;lia,by have:=fR j o h;lia,by have:=fR j o h;lia⟩) (by lia) (by lia) ⟨⟨Hb,D1,by lia⟩,D1.fr _ _ b3 (by lia) (by lia),λj o h h1 h2 _=>D1.fr j o h h1 h2⟩ q1
 obtain⟨a,b,c,rfl⟩:=q2;obtain⟨⟨H0,d2,_⟩,w2,f2⟩:=D2;refine Xg (L:=L) (n:=n) (k:=k) (H:=H2) (Hc:=Hc) (nl:=N) (al:=N+1) (fl:=N+2) (wl:=N+3) (dl:=N+4) (a:=a) (b:=b) (c:=c) (x:=x) (m0:=none) (c0:=none) (o:=none) (d:=none) (v1:=none) (v2:=none) (v3:=none) (v4:=none) (t:=[none,none,none,none]) hL hc C W ⟨⟨f2 _ _ b0 (by lia) (by lia) (by lia),d2.fi,w2,λj o h=>f2 j o (hb j o h) (by have:=fR j o h;lia) (by have:=fR j o h;lia) (by have:=fR j o h;lia)⟩,
  ⟨[],f2 _ _ b4 (by lia) (by lia) (by lia),by simp,by simp,λj _=>rfl,λj q d h=>by cases h⟩,by lia⟩ λH3 l3 s24 q3 M=>?_
 refine kq ?_;refine kq0 H3 (N+4) (Fa (fl:=.ret (.ref (N+4))) (l':=l3) (ag s1 (ag s2 (ag s6 (ag s9 (ag s24 (bl ?_))))))) M.tb (by lia) M.D.fr;unfold CN;rw[ai (ao q3)];rfl
end
section
variable{H:List O}
theorem len_sub:∀{xs ys:List Str},xs.Nodup->(∀k∈xs,k∈ys)->xs.length<=ys.length
 |[],ys,_,_=>Nat.zero_le _
 |x::xs,ys,nd,h=>by
  obtain⟨h1,h2⟩:=List.nodup_cons.mp nd;have hx:=h x q0g;have:=len_sub (ys:=ys.erase x) h2 λk hk=>(List.mem_erase_of_ne (λe:k=x=>h1 (by rw[<-e];exact hk))).mpr (h k (q0k _ hk));rw[List.length_erase_of_mem hx] at this;have:=List.length_pos_of_mem hx;simp only[List.length_cons];omega
theorem tS{β γ:Type}{es:List (Str×β)}{fs:List (Str×γ)}(h1:(es.map (·.1)).Nodup)(h2:(fs.map (·.1)).Nodup)(h:∀k,(es.lookup k).isSome=(fs.lookup k).isSome):es.length=fs.length:=by
 have a:=len_sub h1 (ys:=fs.map (·.1)) λk hk=>by rw[fc] at hk ⊢;rw[<-h];exact hk
 have b:=len_sub h2 (ys:=es.map (·.1)) λk hk=>by rw[fc] at hk ⊢;rw[h];exact hk
 simp only[List.length_map] at a b;lia
theorem gu{β:Type}:∀{es:List (Str×β)},(es.map (·.1)).Nodup->∀{e:Str×β},e∈es->es.lookup e.1=some e.2
 |x::es,nd,e,h=>by
  obtain⟨h1,h2⟩:=List.nodup_cons.mp nd;rw[List.lookup_cons];rcases q0m.mp h with rfl | h
  ·simp
  ·have:(e.1==x.1)=false:=by
    rw[q2d];exact λq=>h1 (List.mem_map.mpr ⟨e,h,q⟩)
   rw[this];exact gu h2 h
theorem uh:∀{es:List (Str×V)},(∀e∈es,∃u,fs.lookup e.1=some u/\f e.2 u=some true)->hitsD f fs es=some true
 |[],_=>rfl
 |(k,v)::r,h=>by
  obtain⟨u,h1,h2⟩:=h (k,v) q0g;show Option.elim (fs.lookup k) _ _=_;rw[h1];show(f v u).bind (λb=>(hitsD f fs r).map _)=_;rw[h2,uh λe he=>h e (q0k _ he)];rfl
theorem yE(h1:H[i]?=some (.dict es))(h2:H[j]?=some (.dict fs))(hl:es.length=fs.length)(h:∀e∈es,∃u,fs.lookup e.1=some u/\f e.2 u=some true):Ny f H i j=some true:=by unfold Ny;simp only[b9,h1,jS,dm,h2,Option.bind_some];rw[q1k hl];exact uh h
theorem yG(n:Nat)(h:i≠j):gU (n+1) H (.ref i) (.ref j)=Ny (gU n H) H i j:=q1l h
theorem gm(n:Nat)(x:Int):gU n H (.int x) (.int x)=some true:=by have:((x:Int)==x)=true:=beq_self_eq_true x;cases n<;>exact q1s some this
theorem ze:gT f [] [] = some true:=rfl
theorem fN(h1:f x y=some true)(h2:gT f xs ys=some true):gT f (x::xs) (y::ys)=some true:=by show(f x y).bind (λb=>(gT f xs ys).map _)=_;rw[h1,h2];rfl
theorem yF(n:Nat)(h:xs.length=ys.length)(e:gT (gU n H) xs ys=some true):gU (n+1) H (.tup xs) (.tup ys)=some true:=(q1k h:gU (n+1) H (.tup xs) (.tup ys)=gT (gU n H) xs ys).trans e
theorem W5(n:Nat)(q:Q4):gU (n+1) H (qV q) (qV q)=some true:=by exact yF _ rfl (fN (gm ..) (fN (gm ..) (fN (gm ..) (fN (gm ..) ze))))
theorem Rq{m1 m2 d1 d2:Nat}{c:TF}(n:Nat)(A:bW m1 H d1 c)(B:bW m2 H d2 c)(h:d1≠d2):gU (n+2) H (.ref d1) (.ref d2)=some true:=by
 refine cps λPq kq=>?_;obtain⟨es,a1,a2,_⟩:=A;obtain⟨fs,b1,b2,_⟩:=B;refine kq ?_;rw[yG _ h];refine yE a1 b1 ?_ λe he=>?_
 ·rw[show(aO qV es).length=es.length by simp[aO],show(aO qV fs).length=fs.length by simp[aO]]
  exact tS a2.nd b2.nd λk=>by simp only[a2.get,b2.get]
 ·obtain⟨x,hx,rfl⟩:=List.mem_map.mp he
  refine⟨qV x.2,?_,W5 n x.2⟩;simp only[be,b2.get,<-a2.get,gu a2.nd hx];rfl
theorem Rp(n:Nat)(p:Q4)(A:bW m1 H d1 c)(B:bW m2 H d2 c)(h:d1≠d2):gU (n+3) H (a9 (p,d1)) (a9 (p,d2))=some true:=by exact yF _ rfl (fN (gm ..) (fN (gm ..) (fN (gm ..) (fN (gm ..) (fN (Rq n A B h) ze)))))
theorem Ro{x y m1 x' y' m2 a b B0:Nat}{g:TG}(n:Nat)(A:TabAt x y m1 H a g)(B:TabAt x' y' m2 H b g)(h:a≠b)(h1:∀es k p d,H[a]?=some (.dict es)->es.lookup k=some (a9 (p,d))->B0<=d)(h2:∀es k p d,H[b]?=some (.dict es)->es.lookup k=some (a9 (p,d))->d<B0):gU (n+4) H (.ref a) (.ref b)=some true:=by
 refine cps λPq kq=>?_;obtain⟨es,a1,a2,_,a3,a4⟩:=A;obtain⟨fs,b1,b2,_,b3,b4⟩:=B;have e1:∀k,(es.lookup k).isSome=(g k).isSome:=λk=>by
  cases q:es.lookup k with
  |none=>rw[a3 k q];rfl
  |some v=>obtain⟨_,_,c,h,_⟩:=a4 k v.1 v.2 q;rw[h];rfl
 have e2:∀k,(fs.lookup k).isSome=(g k).isSome:=λk=>by
  cases q:fs.lookup k with
  |none=>rw[b3 k q];rfl
  |some v=>obtain⟨_,_,c,h,_⟩:=b4 k v.1 v.2 q;rw[h];rfl
 refine kq ?_;rw[yG _ h];refine yE a1 b1 ?_ λe he=>?_
 ·rw[show(aO a9 es).length=es.length by simp[aO],show(aO a9 fs).length=fs.length by simp[aO]]
  exact tS a2 b2 λk=>by simp only[e1,e2]
 ·obtain⟨⟨k,p,d⟩,hx,rfl⟩:=List.mem_map.mp he
  have l1:=gu a2 hx;dsimp only at l1;refine cps λPq kq=>?_;obtain⟨_,_,c,g1,c1⟩:=a4 k p d l1;have l2:(fs.lookup k).isSome=true:=by simp only[e2,g1];rfl
  obtain⟨⟨p',d'⟩,l2⟩:=Option.isSome_iff_exists.mp l2;obtain⟨_,_,c',g2,c2⟩:=b4 k p' d' l2;rw[g1] at g2;refine kq ?_;cases g2
  refine⟨a9 (p,d'),by simp only[be,l2];rfl,Rp (n+0) p c1 c2 ?_⟩;have q1:=h1 _ k p d a1 (by simp only[be,l1];rfl);have q2:=h2 _ k p d' b1 (by simp only[be,l2];rfl);lia
end
noncomputable def iV(dZ:List Op):su:=dZ.foldl ib ⟨[],λ_=>none,λ_=>none⟩
structure Yg(L:Nat)(xs:List Int)(dZ:List Op):Prop where
 ok:∀o∈dZ,o.ok
 bal:wY 0 dZ
 len:dZ.length<=90
 mks:rq L (textOf (bZ xs).1).cps.toList=dY dZ
 ml:(dY dZ).length<=2000
 tl:(textOf (bZ xs).1).length<=890
 al:∀c∈(textOf (bZ xs).1).cps.toList,c∈fB
 wf:lY (bZ xs).2
 cl:(bZ xs).2.length<=900
 e1:∀j,(if ((iV dZ).gb j).isSome||((iV dZ).ga j).isSome then some (cm (iV dZ).gb (iV dZ).ga j) else none)=jN (bZ xs).2 8 j
 e2:∀j,(if ((iV dZ).ga j).isSome||((iV dZ).gb j).isSome then some (cm (iV dZ).ga (iV dZ).gb j) else none)=jN (bZ xs).2 8 j
section
variable{L n k sc:Nat}{H H':List O}
theorem mH.kl:∀{rs:List Nat}{xs:Calls},mH fA H rs xs->(∀(j:Nat) vs,H[j]?=some (.list vs)->H'[j]?=some (.list vs))->mH fA H' rs xs
 |[],[],_,_=>trivial
 |r::rs,x::xs,h,k=>⟨k r _ h.1,h.2.kl k⟩
theorem bW.keep(h:bW m H d c)(k:∀(j:Nat) o,H[j]?=some o->H'[j]?=some o):bW m H' d c:=let⟨es,a,b,c⟩:=h;⟨es,k _ _ a,b,c⟩
theorem TabAt.keep(h:TabAt x y m H tr g)(k:∀(j:Nat) o,H[j]?=some o->H'[j]?=some o):TabAt x y m H' tr g:=by refine cps λPq kq=>?_;obtain⟨es,a,b,c,d,e⟩:=h;refine kq ?_;exact⟨es,k _ _ a,b,c,d,λj q d' hk=>by obtain⟨u,v,w,z,r⟩:=e j q d' hk;exact⟨u,v,w,z,r.keep k⟩⟩
theorem TabAt.low(h:TabAt x y m H tr g):∀es k p d,H[tr]?=some (.dict es)->es.lookup k=some (a9 (p,d))->d<H.length:=λes k p d h1 h2=>by
 refine cps λPq kq=>?_;obtain⟨fs,a,_,_,_,e⟩:=h;rw[a] at h1;refine kq ?_;cases h1
 rw[be] at h2;refine cps λPq kq=>?_;obtain⟨⟨p',d'⟩,h3,h4⟩:=q0z.mp h2;obtain⟨_,_,c,_,⟨uY,a',_⟩⟩:=e _ _ _ h3;refine kq ?_;rw[<-(tc h4).2];exact(q0b.mp a').1
theorem jD(h:∀j,j<H.length->H'[j]?=H[j]?):∀(j:Nat) o,H[j]?=some o->H'[j]?=some o:=λj o e=>(h j (q0b.mp e).1).trans e
theorem yh{o t x y m dl ix:Nat}{ga gb g:TG}{l:List (Option V)}{mo mt:M V}(hL:1000<L)(hm:m<=90)(A:TabAt x y m H o ga)(B:TabAt x y m H t gb)(D:TabAt dl dl 12 H dl g)(ho:mo ⟨H,l⟩=some (.ref o,⟨H,l⟩))(ht:mt ⟨H,l⟩=some (.ref t,⟨H,l⟩))(hd:l[ix]?=some (some (.ref dl)))(e:∀j,(if (ga j).isSome||(gb j).isSome then some (cm ga gb j) else none)=g j)(n k:Nat):∃H',(Y (Y (Y (an [mo,mt]) λvs=>au (jg L n k vs)) λa=>Y (af ix) λb=>aF .Eq a b) λt=>Z (V.bool t)) ⟨H,l⟩=some (V.bool true,⟨H',l⟩)/\∀j,j<H.length->H'[j]?=H[j]? :=by
 refine cps λPq kq=>?_;refine Ap (L:=L) (n:=n) (k:=k) hL (by lia) A B λH' m' j1 j2 j3 j4 j5=>?_;have fR:dl<H.length:=by obtain⟨_,a,_⟩:=D;exact(q0b.mp a).1
 have q:=Ro 4 (j2.ext e) (D.keep (jD j4)) (by lia) j5 (λes k p d h1 h2=>D.low es k p d (by rw[<-j4 dl fR];exact h1) h2);refine kq ?_;refine⟨H',?_,j4⟩;rw[aq,aq,ah,ai ho,ah,ai ht,aj,aY,j1,Option.bind_some,aq,ai (ao hd),KC];show(gU 8 H' (.ref H.length) (.ref dl)).bind _=_;rw[q];rfl
theorem DS(hL:2000<L)(P:Yg L xs dZ)(hs:H[sc]?=some (.arg ob))(ho:pL ob=xs.map V.int)(hx:xs.length<=100):∃H',Fo L n k [.ref sc] H=some (.bool true,H')/\H'[sc]?=some (.arg ob):=by
 refine cps λPq kq=>?_;obtain⟨H1,cr,cs,r1,r2,r3,r4,r5⟩:=C5 (L:=L) (n:=n+20) (k:=k+3) (by lia) hs ho hx;have C1:aT H1 cr (bZ xs).2:=⟨cs,r2,r3⟩
 refine we (L:=L) (n:=n) (k:=k) (H:=H1) (by lia) P.tl P.al λH2 mk m1 m2 m3 m4=>?_;rw[P.mks] at m2;obtain⟨H3,ts,ta,tb,lr,rs,s1,R,s3,s4⟩:=BW (L:=L) (n:=n+8) (k:=k+2) (by lia) P.ok P.bal P.len m2 P.ml;have C3:aT H3 cr (bZ xs).2:=by obtain⟨cs,a,b⟩:=id C1;exact⟨cs,s4 _ _ rfl (jD m4 _ _ a),b.kl λr c h=>s4 _ _ rfl (jD m4 _ _ h)⟩
 refine EC (L:=L) (n:=n+21) (k:=k+4) hL P.cl C3 P.wf λH4 dl d1 d2 d3 d4=>?_;have tabs:=d4 _ _ R.tabs;have A:=R.a.keep d4;have B:=R.b.keep d4;have e1:=P.e1;have e2:=P.e2;unfold iV at e1 e2;have lo0:∀H:List O,H[ts]?=some (.list [.ref ta,.ref tb])->(Y (af 2) λa=>Y (Z (.int 0)) λb=>av a b) ⟨H,[some (.ref sc),some (.tup [.str (textOf (bZ xs).1),.ref cr]),some (.ref ts),some (.ref dl),none,none,none,none,none]⟩=some (.ref ta,⟨H,[some (.ref sc),some (.tup [.str (textOf (bZ xs).1),.ref cr]),some (.ref ts),some (.ref dl),none,none,none,none,none]⟩):=λH h=>by
  rw[ai (ao (v:=.ref ts) rfl),aG,aX,aJ,h];rfl
 have lo1:∀H:List O,H[ts]?=some (.list [.ref ta,.ref tb])->(Y (af 2) λa=>Y (Z (.int 1)) λb=>av a b) ⟨H,[some (.ref sc),some (.tup [.str (textOf (bZ xs).1),.ref cr]),some (.ref ts),some (.ref dl),none,none,none,none,none]⟩=some (.ref tb,⟨H,[some (.ref sc),some (.tup [.str (textOf (bZ xs).1),.ref cr]),some (.ref ts),some (.ref dl),none,none,none,none,none]⟩):=λH h=>by
  rw[ai (ao (v:=.ref ts) rfl),aG,aX,aJ,h];rfl
 obtain⟨H5,q1,q2⟩:=yh (L:=L) (by lia) P.len B A d2 (lo1 H4 tabs) (lo0 H4 tabs) (ix:=3) rfl e1 (n+17) (k+3);have q2':=jD q2;obtain⟨H6,p1,p2⟩:=yh (L:=L) (by lia) P.len (A.keep q2') (B.keep q2') (d2.keep q2') (lo0 H5 (q2' _ _ tabs)) (lo1 H5 (q2' _ _ tabs)) (ix:=3) rfl e2 (n+17) (k+3);have scK:H6[sc]?=some (.arg ob):=jD p2 _ _ (q2' _ _ (d4 _ _ (s4 _ _ rfl (jD m4 _ _ (jD r5 _ _ hs)))));refine kq ?_;refine⟨H6,E7 (fl:=.ret (.bool true)) (l':=[some (.ref sc),some (.tup [.str (textOf (bZ xs).1),.ref cr]),some (.ref ts),some (.ref dl),none,none,none,none,none]) ?_,scK⟩;refine ag (σ':=⟨H1,[some (.ref sc),some (.tup [.str (textOf (bZ xs).1),.ref cr]),none,none,none,none,none,none,none]⟩) ?_ (ag (σ':=⟨H3,[some (.ref sc),some (.tup [.str (textOf (bZ xs).1),.ref cr]),some (.ref ts),none,none,none,none,none,none]⟩) ?_ (ag (σ':=⟨H4,[some (.ref sc),some (.tup [.str (textOf (bZ xs).1),.ref cr]),some (.ref ts),some (.ref dl),none,none,none,none,none]⟩) ?_ (bl ?_)))
 ·unfold MQ
  rw[aq,ah,ai (ao (v:=.ref sc) rfl),aj,aY,r1];rfl
 ·have i0:(Y (af 1) λa=>Y (Z (.int 0)) λb=>av a b) ⟨H1,[some (.ref sc),some (.tup [.str (textOf (bZ xs).1),.ref cr]),none,none,none,none,none,none,none]⟩=some (.str (textOf (bZ xs).1),⟨H1,[some (.ref sc),some (.tup [.str (textOf (bZ xs).1),.ref cr]),none,none,none,none,none,none,none]⟩):=rfl
  unfold MP;rw[aq,ah,aq,ah,ai i0,aj,aY,m1,Option.bind_some,aj,aY,s1];rfl
 ·have i1:(Y (af 1) λa=>Y (Z (.int 1)) λb=>av a b) ⟨H3,[some (.ref sc),some (.tup [.str (textOf (bZ xs).1),.ref cr]),some (.ref ts),none,none,none,none,none,none]⟩=some (.ref cr,⟨H3,[some (.ref sc),some (.tup [.str (textOf (bZ xs).1),.ref cr]),some (.ref ts),none,none,none,none,none,none]⟩):=rfl
  unfold MO;rw[aq,ah,ai i1,aj,aY,d1];rfl
 ·unfold MN
  rw[aq,ai q1,aq,A1,show fw H5 (.bool true)=some true from rfl,Option.bind_some,q1k rfl,ai p1];rfl
end
def uZ(s:List Nat)(ms:List Str):Prop:=∀f,s.length<f->ia f (dB s).2.1 (dB s).1 (dB s).2.2=ms
def Aa(s:List Nat):Prop:=∀c r,s=c::r->mS c=false
theorem QI:uZ [] []:=λf _=>by cases f<;>rfl
theorem V6(hc:nu c=true)(h:uZ s ms):uZ (c::s) ms:=λf hf=>by
 have e:dB (c::s)=dB s:=by rw[dB,q1k hc]
 rw[e];exact h f (by simp only[List.length_cons] at hf;lia)
theorem NB(h:oH c=true):nu c=false/\mS c=false:=by unfold mS;rw[h];refine⟨?_,by simp⟩;unfold oH at h;unfold nu;simp only[Bool.or_eq_true,q1v] at h;rcases h with(rfl | rfl) | rfl<;>rfl
theorem NA(h:mS c=true):nu c=false/\oH c=false/\Gf c=false:=by unfold mS at h;simp only[Bool.and_eq_true,Bool.not_eq_true'] at h;exact⟨h.1.1,h.1.2,h.2⟩
theorem jX{p:Tk}{t:Str}{s:List Nat}{ms:List Str}{f:Nat}(h1:p.2.1=t)(h2:eu p.1 p.2.2=dB s)(ht:t.length≠0)(h:uZ s ms)(hf:s.length<f):ia (f+1) p.2.1 p.1 p.2.2=cS t++ms:=by rw[ia,h1,q1l ht,h2,h f hf]
theorem C6(t:Str)(h:Aa s):(gr t s).2.1=t/\eu (gr t s).1 (gr t s).2.2=dB s:=by
 cases s with
 |nil=>exact⟨rfl,rfl⟩
 |cons c r=>
  have hc:=h c r rfl;rw[gr];by_cases hs:nu c=true
  ·rw[q1k hs];exact⟨rfl,by rw[dB,q1k hs];rfl⟩
  ·rw[q1l hs,q1l (by rw[hc];simp)];exact⟨rfl,rfl⟩
theorem fJ{a b:Str}(h:a.cps.toList=b.cps.toList):a=b:=Str.ext' (Array.toList_inj.mp h)
theorem dv(a b:Str):(a++b).cps.toList=a.cps.toList++b.cps.toList:=by simp only[Str.cps_append,Array.toList_append]
noncomputable def uU(l:List Nat):Str:=⟨l.toArray⟩
theorem xX(l:List Nat):(uU l).cps.toList=l:=rfl
theorem qc:∀(w:List Nat)(t:Str)(s:List Nat),(∀c∈w,mS c=true)->gr t (w++s)=gr (t++uU w) s
 |[],t,s,_=>by rw[show t++uU [] = t from fJ (by rw[dv];simp[uU])];rfl
 |c::w,t,s,h=>by
  have hc:=h c q0g;rw[List.cons_append,gr,q1l (by rw[(NA hc).1];simp),q1k hc,qc w _ s λx hx=>h x (q0k _ hx)];congr 1;exact fJ (by simp only[dv,xX,List.append_assoc];rfl)
theorem Jm{c:Nat}{w s:List Nat}{ms:List Str}(hw:∀x∈c::w,mS x=true)(h:uZ s ms)(hs:Aa s):uZ (c::w++s) (uU (c::w)::ms):=λf hf=>by
 obtain⟨h1,h2,h3⟩:=NA (hw c q0g);have e:dB (c::w++s)=gr (uU (c::w)) s:=by rw[List.cons_append,dB,q1l (by rw[h1];simp),q1k (hw c q0g),qc w _ s λx hx=>hw x (q0k _ hx)];congr 1;exact fJ (by simp only[dv,xX];rfl)
 rw[e];obtain⟨f,rfl⟩:∃g,f=g+1:=⟨f-1,by lia⟩
 obtain⟨a,b⟩:=C6 (uU (c::w)) hs;rw[jX a b (by simp[uU,Str.length]) h (by simp at hf;lia)];unfold cS;rw[show(uU (c::w)).cps.getD 0 0=c from rfl,q1l (by rw[h2];simp)];rfl
theorem ZF(hx:Gf c=true)(h:uZ s ms):uZ (c::s) (ch c::ms):=λf hf=>by
 have h1:nu c=false/\mS c=false/\oH c=false:=by unfold mS;rw[hx];unfold Gf at hx;unfold nu oH;simp only[Bool.or_eq_true,q1v] at hx;rcases hx with((rfl | rfl) | rfl) | rfl<;>exact⟨rfl,rfl,rfl⟩
 have e:dB (c::s)=(.sp,ch c,s):=by rw[dB,h1.1,h1.2.1,h1.2.2];rfl
 rw[e];obtain⟨f,rfl⟩:∃g,f=g+1:=⟨f-1,by lia⟩
 rw[jX (p:=(.sp,ch c,s)) (s:=s) rfl rfl (t:=ch c) Nat.one_ne_zero h (by simp at hf;lia)];unfold cS;rw[show(ch c).cps.getD 0 0=c from rfl,q1l (by rw[h1.2.2];simp)];rfl
theorem sZ:∀(s:List Nat)(x t:Str),runC (x++t) s=((runC t s).1,x++(runC t s).2.1,(runC t s).2.2)
 |[],x,t=>rfl
 |c::r,x,t=>by
  unfold runC;split
  ·rfl
  ·split
   ·rw[show x++t++ch c=x++(t++ch c) from fJ (by simp only[dv,List.append_assoc]),sZ r]
   ·rfl
theorem s7:∀(s:List Nat)(t:Str),∃u,(runC t s).2.1=t++u
 |[],t=>⟨uU [],fJ (by simp[runC,uU,dv])⟩
 |c::r,t=>by
  unfold runC;split
  ·exact⟨uU [],fJ (by simp[uU,dv])⟩
  ·split
   ·obtain⟨u,hu⟩:=s7 r (t++ch c)
    exact⟨ch c++u,hu.trans (fJ (by simp only[dv,List.append_assoc]))⟩
   ·exact⟨uU [],fJ (by simp[uU,dv])⟩
theorem sR(u:Str)(hc:oH c=true):cS (ch c++u)=ch c::u.cps.toList.map ch:=by
 unfold cS;have e:(ch c++u).cps.toList=c::u.cps.toList:=by rw[dv];rfl
 have e0:(ch c++u).cps.getD 0 0=c:=by rw[<-Array.toArray_toList (xs:=(ch c++u).cps),e];rfl
 rw[e0,q1k hc,e];rfl
theorem QJ(hc:oH c=true)(h:uZ s ms):uZ (c::s) (ch c::ms):=λf hf=>by
 obtain⟨h1,h2⟩:=NB hc;have e:dB (c::s)=runC (ch c) s:=by rw[dB,h1,h2,hc];rfl
 rw[e];obtain⟨f,rfl⟩:∃g,f=g+1:=⟨f-1,by lia⟩
 have hf':s.length<f:=by simp at hf;lia
 have lc:(ch c).length≠0:=Nat.one_ne_zero;have Zn:cS (ch c)=[ch c]:=by unfold cS;rw[show(ch c).cps.getD 0 0=c from rfl,q1k hc];rfl
 cases s with
 |nil=>rw[jX (p:=runC (ch c) []) (t:=ch c) (s:=[]) rfl rfl lc h hf',Zn];rfl
 |cons d r=>
  by_cases hs:nu d=true
  ·have:runC (ch c) (d::r)=(.sp,ch c,r):=by rw[runC,q1k hs]
   rw[this,jX (p:=(.sp,ch c,r)) (s:=d::r) rfl (by rw[dB,q1k hs];rfl) lc h hf',Zn];rfl
  ·by_cases hp:oH d=true
   ·have e1:runC (ch c) (d::r)=runC (ch c++ch d) r:=by rw[runC,q1l hs,q1k hp]
    have e2:dB (d::r)=runC (ch d) r:=by rw[dB,q1l hs,(NB hp).2,hp];rfl
    have hh:=h (f+1) (by lia);rw[e2] at hh;rw[e1,sZ];obtain⟨u,hu⟩:=s7 r (ch d);rw[hu,ia] at hh ⊢;have l1:(ch d++u).length≠0:=by rw[Str.length_append];have:(ch d).length=1:=rfl;lia
    have l2:(ch c++(ch d++u)).length≠0:=by rw[Str.length_append];have:(ch c).length=1:=rfl;lia
    rw[q1l l1,sR u hp] at hh;rw[q1l l2,sR _ hc,dv,<-hh];rfl
   ·have:runC (ch c) (d::r)=(.sp,ch c,d::r):=by rw[runC,q1l hs,q1l hp]
    rw[this,jX (p:=(.sp,ch c,d::r)) (s:=d::r) rfl rfl lc h hf',Zn];rfl
def Rd(u:Str)(m:List Str):Prop:=(∀c∈u.cps.toList,c∈fB)/\∀s ms,uZ s ms->(u.cps.toList.getLast? ≠ some 41->Aa s)->uZ (u.cps.toList++s) (m++ms)
noncomputable def jt(l:List Nat):Bool:=!l.isEmpty&&l.all λx=>mS x&&fB.contains x
theorem gH{l:List Nat}(h:jt l=true):∃c w,l=c::w/\(∀x∈c::w,mS x=true)/\(∀x∈c::w,x∈fB):=by
 unfold jt at h;cases l with
 |nil=>cases h
 |cons c w=>
  simp only[List.isEmpty_cons,Bool.not_false,Bool.true_and,List.all_eq_true,Bool.and_eq_true,List.contains_iff_mem] at h;exact⟨c,w,rfl,λx hx=>(h x hx).1,λx hx=>(h x hx).2⟩
theorem Jn{l s:List Nat}{ms:List Str}{t:Str}(hl:jt l=true)(ht:t.cps.toList=l)(h:uZ s ms)(hs:Aa s):uZ (l++s) (t::ms):=by obtain⟨c,w,rfl,h1,_⟩:=gH hl;have:=Jm h1 h hs;rwa[show uU (c::w)=t from fJ ht.symm] at this
theorem DT{l:List Nat}(h:jt l=true)(a:List Nat):(a++l).getLast? ≠ some 41:=by
 obtain⟨c,w,rfl,h1,_⟩:=gH h;intro e;rw[List.getLast?_append,List.getLast?_cons] at e;have e2:(w.getLast?.getD c)=41:=by simpa using e
 have:41∈c::w:=by
  rw[<-e2];cases q:w.getLast? with
  |none=>exact q0g
  |some x=>exact q0k _ (List.mem_of_getLast? q)
 exact q1t (h1 41 this) (by decide)
theorem Nb{c:Int}(h0:0<=c)(h1:c<100):jt (bf c).cps.toList=true:=dD (P:=λc=>jt (bf c).cps.toList=true) (by decide +kernel) h0 h1
theorem gL{c:Nat}{s:List Nat}(h:mS c=false):Aa (c::s):=λd r e=>by injection e with e1 _;rw[<-e1];exact h
theorem En{c:Int}(h0:0<=c)(h1:c<100):Rd (bf c) [bf c]:=by
 have h:=Nb h0 h1;refine⟨λx hx=>?_,λs ms hs hn=>Jn h rfl hs (hn ?_)⟩
 ·obtain⟨d,w,e,_,g⟩:=gH h
  rw[e] at hx;exact g x hx
 ·have:=DT h []
  simpa using this
noncomputable def lp(k:Int):List Nat:=if k=0 then[123] else if k=2 then[60] else[]
noncomputable def eG(k:Int):List Nat:=if k=0 then[125] else if k=3 then[62] else[]
theorem KE{k c:Int}(k0:0<=k)(k1:k<4)(h0:0<=c)(h1:c<100):(fa (gf k c)).cps.toList=lp k++((bf c).cps.toList++eG k):=lO (P:=λk=>(fa (gf k c)).cps.toList=lp k++((bf c).cps.toList++eG k)) (dD (P:=λc=>(fa (gf 0 c)).cps.toList=lp 0++((bf c).cps.toList++eG 0)) (by decide +kernel) h0 h1) (dD (P:=λc=>(fa (gf 1 c)).cps.toList=lp 1++((bf c).cps.toList++eG 1)) (by decide +kernel) h0 h1) (dD (P:=λc=>(fa (gf 2 c)).cps.toList=lp 2++((bf c).cps.toList++eG 2)) (by decide +kernel) h0 h1) (dD (P:=λc=>(fa (gf 3 c)).cps.toList=lp 3++((bf c).cps.toList++eG 3)) (by decide +kernel) h0 h1) k0 k1
theorem Vw{k:Int}(k0:0<=k)(k1:k<4):(∀x∈lp k++eG k,x∈fB)/\(eG k).getLast? ≠ some 41/\(∀c,oi (.blt k c)=(lp k).map ch++(bf c::(eG k).map ch))/\(∀x∈lp k,Gf x=true)/\∀x∈eG k,Gf x=true:=lO (P:=λk=>(∀x∈lp k++eG k,x∈fB)/\(eG k).getLast? ≠ some 41/\(∀c,oi (.blt k c)=(lp k).map ch++(bf c::(eG k).map ch))/\(∀x∈lp k,Gf x=true)/\∀x∈eG k,Gf x=true) ⟨by decide,by decide,λ_=>rfl,by decide,by decide⟩ ⟨by decide,by decide,λ_=>rfl,by decide,by decide⟩ ⟨by decide,by decide,λ_=>rfl,by decide,by decide⟩ ⟨by decide,by decide,λ_=>rfl,by decide,by decide⟩ k0 k1
theorem DF:∀{l s:List Nat}{ms:List Str},(∀x∈l,Gf x=true)->uZ s ms->uZ (l++s) (l.map ch++ms)
 |[],_,_,_,h=>h
 |_::_,_,_,hx,h=>ZF (hx _ q0g) (DF (λx m=>hx x (q0k _ m)) h)
theorem Wl{c:Nat}(h:Gf c=true):mS c=false:=by unfold mS;rw[h];simp
theorem Eo{k c:Int}(k0:0<=k)(k1:k<4)(h0:0<=c)(h1:c<100):Rd (fa (gf k c)) (oi (.blt k c))/\(fa (gf k c)).cps.toList≠[]:=by
 have e:=KE k0 k1 h0 h1;have h:=Nb h0 h1;refine cps λPq kq=>?_;obtain⟨p1,p2,p3,p4,p5⟩:=Vw k0 k1;obtain⟨d,w,eq,g1,g2⟩:=gH h;refine kq ?_;unfold Rd;rw[e,p3];refine⟨⟨λx hx=>?_,λs ms hs hn=>?_⟩,by rw[eq];simp⟩
 ·rcases q1q.mp hx with g | g
  ·exact p1 x (q1q.mpr (.inl g))
  ·rcases q1q.mp g with g | g
   ·rw[eq] at g;exact g2 x g
   ·exact p1 x (q1q.mpr (.inr g))
 ·have hl:(lp k++((bf c).cps.toList++eG k)).getLast? ≠ some 41:=by
   rw[<-q0i,List.getLast?_append];cases q:(eG k).getLast? with
   |none=>exact DT h _
   |some x=>rw[q] at p2;exact p2
  have h2:=DF p5 hs;have n2:Aa (eG k++s):=by
   cases q:eG k with
   |nil=>exact hn hl
   |cons x r=>exact gL (Wl (p5 x (by rw[q];exact q0g)))
  have h3:=DF p4 (Jn h rfl h2 n2);simpa only[List.append_assoc,List.cons_append] using h3
theorem Bu{t w:Str}(hw:w="" \/ w=" " \/ w="\n"):((bk t w).cps.toList=[]/\t.cps.toList.getLast?=some 41)\/∃c,(bk t w).cps.toList=[c]/\nu c=true/\c∈fB:=by
 have s1:(" " : Str).cps.toList=[32]:=rfl;have s2:("\n" : Str).cps.toList=[10]:=rfl;rcases hw with rfl | rfl | rfl
 ·unfold bk
  by_cases h:(Txt.slice t (some (-1)) none==(")" : Str))=true
  ·left
   rw[h];refine⟨rfl,?_⟩;have h2:=eq_of_beq h;by_cases hl:t.length=0
   ·rw[gV (x:=t) (lo:=some (-1)) (hi:=none) (a:=0) (b:=0) (by rw[hl];rfl) hl] at h2
    have:=q1s (λx:Str=>x.cps.toList) h2;simp at this;cases this
   ·have hc:clipAt t.length (-1)=t.length-1:=by
     obtain⟨m,e⟩:=Nat.exists_eq_succ_of_ne_zero hl;rw[e];have q:(-1:Int)+((m+1:Nat):Int)=m:=by lia
     show(max 0 (min (-1+((m+1:Nat):Int)) ((m+1:Nat):Int))).toNat=m;rw[q,Int.min_eq_left (Int.ofNat_le.mpr (q2g m)),Int.max_eq_right (Int.natCast_nonneg m)];rfl
    rw[gV (x:=t) (lo:=some (-1)) (hi:=none) (a:=t.length-1) (b:=t.length) hc rfl] at h2;have h3:((t.cps.toList.drop (t.length-1)).take (t.length-(t.length-1)))=[41]:=q1s (λx:Str=>x.cps.toList) h2;have h4:t.cps.toList.drop (t.length-1)=[41]:=by rw[List.take_of_length_le (by rw[List.length_drop];show t.cps.size-_<=_;exact q0c _)] at h3;exact h3
    rw[<-List.take_append_drop (t.length-1) t.cps.toList,h4,List.getLast?_append];rfl
  ·right
   rw[q1r] at h;rw[h];exact⟨32,rfl,rfl,by decide⟩
 ·exact .inr ⟨32,rfl,rfl,by decide⟩
 ·exact .inr ⟨10,rfl,rfl,by decide⟩
theorem ui{t p w:Str}{m mp:List Str}(ht:Rd t m)(hp:Rd p mp)(hn:p.cps.toList≠[])(hw:w="" \/ w=" " \/ w="\n"):Rd (t++(bk t w++p)) (m++mp):=by
 obtain⟨a1,a2⟩:=ht;obtain⟨b1,b2⟩:=hp;unfold Rd;rw[dv,dv];have lst:(t.cps.toList++((bk t w).cps.toList++p.cps.toList)).getLast?=p.cps.toList.getLast? :=by
  rw[List.getLast?_append,List.getLast?_append];cases q:p.cps.toList.getLast? with
  |none=>exact q1t (List.getLast?_eq_none_iff.mp q) hn
  |some x=>rfl
 rw[lst];rcases Bu (t:=t) hw with⟨e,l⟩ | ⟨c,e,sc,ca⟩
 ·rw[e]
  refine⟨λx hx=>?_,λs ms hs hN=>?_⟩
  ·rcases q1q.mp hx with g | g
   ·exact a1 x g
   ·exact b1 x g
  ·have:=a2 _ _ (b2 s ms hs hN) (λq=>q1t l q)
   simpa only[List.append_assoc,List.nil_append] using this
 ·rw[e]
  refine⟨λx hx=>?_,λs ms hs hN=>?_⟩
  ·rcases q1q.mp hx with g | g
   ·exact a1 x g
   ·rcases q0m.mp g with rfl | g
    ·exact ca
    ·exact b1 x g
  ·have:=a2 _ _ (V6 sc (b2 s ms hs hN)) (λ_=>gL (by unfold mS;rw[sc];rfl))
   simpa only[List.append_assoc,List.cons_append,List.nil_append] using this
theorem Rm{k:Int}(k0:0<=k)(k1:k<4):jt (bU k).cps.toList=true/\jt (gk k).cps.toList=true/\PySem.Str.ofString ((cF (cJ k)).getD "")=gk k:=lO (P:=λk=>jt (bU k).cps.toList=true/\jt (gk k).cps.toList=true/\PySem.Str.ofString ((cF (cJ k)).getD "")=gk k) (by decide +kernel) (by decide +kernel) (by decide +kernel) (by decide +kernel) k0 k1
theorem Aw{k c:Int}{u:Str}{m:List Str}(k0:0<=k)(k1:k<4)(h:Rd u (bf c::m)):Rd (Pct.iq (bU k) ((cF (cJ k)).getD "") u) (oi (.beg k c)++(m++oi .fin))/\(Pct.iq (bU k) ((cF (cJ k)).getD "") u).cps.toList≠[]:=by
 refine cps λPq kq=>?_;obtain⟨f1,f2,f3⟩:=Rm k0 k1;obtain⟨h1,h2⟩:=h;have e:(Pct.iq (bU k) ((cF (cJ k)).getD "") u).cps.toList=(bU k).cps.toList++(58::((gk k).cps.toList++(40::(u.cps.toList++[41])))):=by unfold Pct.iq;rw[f3];simp only[dv,List.append_assoc];rfl
 obtain⟨d,w,eq,g1,g2⟩:=gH f1;obtain⟨d',w',eq',g1',g2'⟩:=gH f2;have P58:oH 58=true:=rfl;refine kq ?_;unfold Rd;rw[e];refine⟨⟨λx hx=>?_,λs ms hs hn=>?_⟩,by rw[eq];simp⟩
 ·simp only[List.mem_append,List.mem_cons,q2c,or_false] at hx
  rcases hx with g | rfl | g | rfl | g | rfl
  ·exact g2 x (eq▸g)
  ·decide
  ·exact g2' x (eq'▸g)
  ·decide
  ·exact h1 x g
  ·decide
 ·have q1:=h2 _ _ (QJ (c:=41) rfl hs) (λ_=>gL rfl)
  have q2:=Jn f1 rfl (QJ (c:=58) rfl (Jn f2 rfl (QJ (c:=40) rfl q1) (gL rfl))) (gL rfl);have q3:oi (.beg k c)++(m++oi .fin)++ms=bU k::ch 58::gk k::ch 40::(bf c::(m++ch 41::ms)):=by simp only[oi,List.append_assoc,List.cons_append,List.nil_append];rfl
  rw[q3];simpa only[List.append_assoc,List.cons_append,List.nil_append] using q2
inductive kO:List d9->List Op->Prop
 |root {F:d9} {tr:List Op} (h:Rd F.text (dY tr)):kO [F] tr
 |push {F G:d9} {r:List d9} {tr BM:List Op} {k c:Int} (h:kO (G::r) tr) (k0:0<=k) (k1:k<4) (hf:F.file=bU k) (hl:F.line=cJ k) (g:Rd F.text (bf c::dY BM)):kO (F::G::r) (tr++(.beg k c::BM))
theorem kj(a b:List Op):dY (a++b)=dY a++dY b:=List.flatMap_append
theorem kO.put{F:d9}{r:List d9}{tr dZ:List Op}{p w:Str}(h:kO (F::r) tr)(hp:Rd p (dY dZ))(hn:p.cps.toList≠[])(hw:w="" \/ w=" " \/ w="\n"):kO (gY F p w::r) (tr++dZ):=by
 cases h with
 |root h=>exact .root (by rw[kj];exact ui h hp hn hw)
 |push h k0 k1 hf hl g=>
  simp only[List.append_assoc,List.cons_append];refine .push h k0 k1 hf hl ?_;rw[kj];exact ui g hp hn hw
theorem kO.Uo{F G:d9}{r:List d9}{tr:List Op}{w:Str}(h:kO (F::G::r) tr)(hw:w="" \/ w=" " \/ w="\n"):kO (bO F G w::r) (tr++[.fin]):=by
 cases h with
 |@push _ _ _ tr BM k c h k0 k1 hf hl g=>
  obtain⟨p1,p2⟩:=Aw k0 k1 g;have e:tr++(.beg k c::BM)++[.fin] = tr++(Op.beg k c::(BM++[.fin])):=by simp
  have p3:Rd (Pct.iq (bU k) ((cF (cJ k)).getD "") F.text) (dY (Op.beg k c::(BM++[.fin]))):=by rw[show(Op.beg k c::(BM++[.fin]))=[Op.beg k c]++(BM++[.fin]) from rfl,kj,kj];simpa[dY] using p1
  have:=h.put p3 p2 hw;rw[e];unfold gY at this;unfold bO;rw[hf,hl];exact this
noncomputable def whW(x:Int):iB x="" \/ iB x=" " \/ iB x="\n" :=by
 unfold iB wh;split
 ·exact .inl rfl
 ·split
  ·exact .inr (.inl rfl)
  ·exact .inr (.inr rfl)
def vX(x:Int)(d:Nat):List Op:=if x.fmod 4 > 1 then[.beg (kindOf x) (dp x)] else if x.fmod 4=1 then[.blt (kindOf x) (dp x)] else if d > 1 then[.fin] else[]
def sm(s:(List d9×Calls)×List Op)(x:Int):(List d9×Calls)×List Op:=(cC x s.1.1 s.1.2,s.2++vX x s.1.1.length)
theorem GQ{x:Int}{fs:List d9}{aa:Calls}{tr:List Op}(h:kO fs tr):kO (cC x fs aa).1 (tr++vX x fs.length):=by
 obtain⟨k0,k1⟩:=kx x;obtain⟨c0,c1⟩:=kF x;cases fs with
 |nil=>cases h
 |cons F r=>
  unfold cC vX;by_cases h1:x.fmod 4 > 1
  ·rw[q1k h1,q1k h1]
   exact .push h k0 k1 rfl rfl (En c0 c1)
  ·rw[q1l h1,q1l h1]
   by_cases h2:x.fmod 4=1
   ·rw[q1k h2,q1k h2]
    obtain⟨p,q⟩:=Eo k0 k1 c0 c1;exact h.put (by simpa[dY] using p) q (whW x)
   ·rw[q1l h2,q1l h2]
    cases r with
    |nil=>rw[q1l (by simp),List.append_nil];exact h
    |cons G r=>rw[q1k (by simp)];exact h.Uo (whW x)
theorem uw:∀{r:List d9}{F:d9}{tr:List Op},kO (F::r) tr->Rd (jO F r).text (dY (tr++List.replicate r.length .fin))
 |[],F,tr,h=>by
  cases h with
  |root h=>rw[show jO F [] = F from rfl];simpa using h
 |G::r,F,tr,h=>by
  have:=uw (h.Uo (w:="") (.inl rfl));rw[q0i] at this;exact this
noncomputable def mO(xs:List Int):List Op:=let s:=(bA xs).foldl sm (([⟨"",0,"",-1⟩],[]),[]);s.2++List.replicate (s.1.1.length-1) .fin
theorem BL(ns:List Int)(s:(List d9×Calls)×List Op):(ns.foldl sm s).1=ns.foldl (λs x=>cC x s.1 s.2) s.1:=by
 induction ns generalizing s with
 |nil=>rfl
 |cons x ns ih=>simp only[List.foldl_cons,List.foldl_cons,ih];rfl
theorem NX{ns:List Int}{s:(List d9×Calls)×List Op}(h:kO s.1.1 s.2):kO (ns.foldl sm s).1.1 (ns.foldl sm s).2:=by
 induction ns generalizing s with
 |nil=>exact h
 |cons x ns ih=>rw[List.foldl_cons];exact ih (GQ h)
theorem xU(xs:List Int):Rd (textOf (bZ xs).1) (dY (mO xs)):=by
 have h:=NX (ns:=bA xs) (s:=(([⟨"",0,"",-1⟩],[]),[])) (.root ⟨λc hc=>q1t (show c∈([]:List Nat) from hc) q2c,λs ms hs _=>hs⟩);have e:=BL (bA xs) (([⟨"",0,"",-1⟩],[]),[]);unfold mO bZ;rw[<-e];generalize (bA xs).foldl sm (([⟨"",0,"",-1⟩],[]),[])=s at h;obtain⟨⟨fs,cs⟩,tr⟩:=s;cases fs with
 |nil=>cases h
 |cons F r=>exact uw h
theorem Ah(hL:(textOf (bZ xs).1).cps.toList.length<L):rq L (textOf (bZ xs).1).cps.toList=dY (mO xs):=by obtain⟨_,h⟩:=xU xs;have:=h [] [] QI (λ_ c r e=>by cases e);rw[q0q,q0q] at this;exact this L hL
theorem ji(a b:Q4):fg a b=fg b a:=by unfold fg;simp only[Int.add_comm]
theorem f9(a b c:Q4):fg (fg a b) c=fg a (fg b c):=by unfold fg;simp only[Int.add_assoc]
theorem Bg(a:Q4):fg a (0,0,0,0)=a:=by unfold fg;simp only[Int.add_zero]
theorem lX(a b:Option Q4):fO a b=fO b a:=by cases a<;>cases b<;>simp only[fO,ji]
theorem hV(a b c:Option Q4):fO (fO a b) c=fO a (fO b c):=by
 cases a<;>cases b<;>cases c<;>simp only[fO]
 rename_i a b c;rw[<-f9]
theorem qH(a:Option Q4):fO a none=a:=by cases a<;>rfl
noncomputable def kH(ga gb:TG):TG:=λj=>if (ga j).isSome||(gb j).isSome then some (cm ga gb j) else none
theorem rC(ga gb:TG)(j:Str):cm ga gb j=cm gb ga j:=by unfold cm;rw[ji];simp only[lX]
theorem qz(ga gb:TG):kH ga gb=kH gb ga:=by funext j;unfold kH;simp only[Bool.or_comm,rC]
theorem C7(ga gb:TG)(j:Str):fW (kH ga gb j)=cm ga gb j:=by
 unfold kH;cases ha:ga j<;>cases hb:gb j
 ·unfold cm;rw[ha,hb];rfl
 all_goals rfl
theorem cw(g:TG)(key:Str)(p:Q4)(c:TF)(j:Str):jo g key p c j=if j=key then some (fg p (fW (g key)).1,λi=>fO ((fW (g key)).2 i) (c i)) else g j:=rfl
theorem EO(ga gb:TG)(key:Str)(p:Q4)(c:TF):kH (jo ga key p c) gb=jo (kH ga gb) key p c:=by
 funext j;rw[cw];by_cases h:j=key
 ·subst h
  rw[q1k rfl,C7];unfold kH;rw[cw,q1k rfl,Option.isSome_some,Bool.true_or,q1k rfl];unfold cm;rw[cw,q1k rfl];simp only[fW,Option.getD_some];rw[<-f9,ji _ p,f9];congr 2;funext i;rw[hV,lX (c i),<-hV]
 ·rw[q1l h]
  unfold kH cm;rw[cw,q1l h]
theorem zx(g:TG)(k1 k2:Str)(p1 p2:Q4)(c1 c2:TF):jo (jo g k1 p1 c1) k2 p2 c2=jo (jo g k2 p2 c2) k1 p1 c1:=by
 funext j;by_cases h:k1=k2
 ·subst h
  rw[cw,cw (jo g k1 p2 c2)];by_cases hj:j=k1
  ·rw[q1k hj,q1k hj,cw,q1k rfl,cw,q1k rfl]
   simp only[fW,Option.getD_some];rw[<-f9,ji p2 p1,f9];congr 2;funext i;rw[hV,lX (c1 i),<-hV]
  ·rw[q1l hj,q1l hj,cw,q1l hj,cw,q1l hj]
 ·rw[cw,cw (jo g k2 p2 c2),cw,cw g k2]
  rw[cw g k1,cw g k2,q1l (Ne.symm h),q1l h];by_cases h1:j=k2
  ·rw[q1k h1,q1l (λe=>h (e.symm.trans h1)),q1k h1]
  ·rw[q1l h1,q1l h1]
noncomputable def gc(aa:Calls)(i:Nat):Str:=iN (iu aa i).toNat
noncomputable def gA(aa:Calls)(i:Nat):Int:=(((List.range aa.length).filter λj=>decide (i∈dw aa j++[j])).map λj=>(aa.getD j (0,0,0)).2.2).sum
theorem Bt(aa:Calls)(i:Nat):jT aa i=eO aa i*gA aa i:=rfl
noncomputable def C8(aa:Calls)(i:Nat):Q4:=(eO aa i,1,Gm aa i,jT aa i)
noncomputable def Fh(aa:Calls)(i:Nat):TF:=if fG aa i<0 then λ_=>none else λj=>if j=gc aa (fG aa i).toNat then some (1,eO aa i,Gm aa i,jT aa i) else none
noncomputable def iw(aa:Calls)(g:TG)(i:Nat):TG:=jo g (gc aa i) (C8 aa i) (Fh aa i)
theorem Az{aa:Calls}{a b:List Nat}(h:a.Perm b)(g:TG):a.foldl (iw aa) g=b.foldl (iw aa) g:=by
 induction h generalizing g with
 |nil=>rfl
 |cons x _ ih=>exact ih _
 |swap x y l=>show l.foldl _ (iw aa (iw aa g y) x)=l.foldl _ (iw aa (iw aa g x) y);unfold iw;rw[zx]
 |trans _ _ h1 h2=>exact(h1 g).trans (h2 g)
theorem oN{α β:Type}{f f':α->β->α}:∀{l:List β}{a:α},(∀x∈l,∀a,f a x=f' a x)->l.foldl f a=l.foldl f' a
 |[],_,_=>rfl
 |x::l,a,h=>by simp only[List.foldl_cons,List.foldl_cons,h x q0g];exact oN λy hy=>h y (q0k _ hy)
section
variable{aa:Calls}{c0:Int×Int×Int}{i:Nat}
theorem je(h:i<aa.length)(d:Int×Int×Int):(aa++[c0]).getD i d=aa.getD i d:=by rw[List.getD_eq_getElem?_getD,q0e h,List.getD_eq_getElem?_getD]
theorem kC(d:Int×Int×Int):(aa++[c0]).getD aa.length d=c0:=lN _ _ _ rfl
theorem zf:kU (aa++[c0])=mY (kU aa) c0:=by unfold kU;rw[List.foldl_append];rfl
theorem pv(h:i<aa.length):dw (aa++[c0]) i=dw aa i:=by unfold dw;rw[zf,mY,List.getD_eq_getElem?_getD,q0e (by rw[jk];exact h),List.getD_eq_getElem?_getD]
theorem F3:dw (aa++[c0]) aa.length=if c0.2.1<0 then[] else dw aa c0.2.1.toNat++[c0.2.1.toNat]:=by show(kU (aa++[c0])).getD aa.length [] = _;simp only[zf,mY,lN _ _ _ (jk aa)];rfl
theorem NQ(W:lY aa)(h:c0.2.1<(aa.length:Int)):lY (aa++[c0]):=λj c e=>by
 by_cases hj:j<aa.length
 ·rw[q0e hj] at e;exact W j c e
 ·rw[q2h (by omega)] at e
  obtain⟨h1,h2⟩:=q0b.mp e;simp only[List.length_singleton] at h1;obtain rfl:j=aa.length:=by omega
  simp only[Nat.sub_self,List.getElem_cons_zero] at h2;rw[<-h2];exact h
theorem lK(h:i<aa.length):iu (aa++[c0]) i=iu aa i:=by unfold iu;rw[je h]
theorem Do(h:i<aa.length):fG (aa++[c0]) i=fG aa i:=by unfold fG;rw[je h]
theorem EQ(h:i<aa.length):Gm (aa++[c0]) i=Gm aa i:=by unfold Gm;rw[je h]
theorem yA(W:lY aa)(h:i<aa.length):eO (aa++[c0]) i=eO aa i:=by unfold eO ww;simp only[pv h,je h];congr 3;refine List.map_congr_left λj hj=>?_;have:=(jl W (i+1) i (q2n _) h).2 j hj;rw[je (Nat.lt_trans this h)]
theorem lT:gA (aa++[c0]) i=gA aa i+if i∈dw (aa++[c0]) aa.length++[aa.length] then c0.2.2 else 0:=by
 unfold gA;rw[q0x,List.length_singleton,List.range_succ,List.filter_append,q1o,List.sum_append];congr 1
 ·rw[List.filter_congr (q:=λj=>decide (i∈dw aa j++[j])) (λj hj=>by rw[pv (q1m.mp hj)])]
  rw[List.map_congr_left (g:=λj=>(aa.getD j (0,0,0)).2.2) (λj hj=>by rw[je (q1m.mp (List.mem_filter.mp hj).1)])]
 ·by_cases h:i∈dw (aa++[c0]) aa.length++[aa.length]
  ·rw[q1k h,List.filter_cons,q1k (q1w h)]
   simp only[List.filter_nil,List.map_cons,List.map_nil,kC,List.sum_cons,List.sum_nil,Int.add_zero]
  ·rw[q1l h,List.filter_cons,q1l (by rw[decide_eq_true_eq];exact h)];rfl
theorem AM(W:lY aa):gA aa aa.length=0:=by
 unfold gA;rw[List.filter_eq_nil_iff.mpr]
 ·rfl
 ·intro j hj
  have El:=q1m.mp hj;rw[decide_eq_true_eq];intro h;rcases q1q.mp h with h | h
  ·have:=(jl W (j+1) j (q2n _) El).2 _ h;omega
  ·have:=q2e.mp h;omega
theorem AN(W:lY aa):gA (aa++[c0]) aa.length=c0.2.2:=by rw[lT,AM W,q1k (q1q.mpr (.inr q0g)),Int.zero_add]
theorem rA(h:i<aa.length):gc (aa++[c0]) i=gc aa i:=by unfold gc;rw[lK h]
theorem F0(W:lY aa)(h:i<aa.length)(h2:i∉dw (aa++[c0]) aa.length++[aa.length])(g:TG):iw (aa++[c0]) g i=iw aa g i:=by
 have hw:jT (aa++[c0]) i=jT aa i:=by rw[Bt,Bt,yA W h,lT,q1l h2,Int.add_zero]
 have hp:fG aa i<(i:Int):=W i (aa.getD i (0,0,0)) (by simp[h]);unfold iw C8 Fh;rw[rA h,yA W h,EQ h,hw,Do h];by_cases h0:fG aa i<0
 ·rw[q1k h0,q1k h0]
 ·rw[q1l h0,q1l h0,rA (Nat.lt_trans (l8 (Int.not_lt.mp h0) hp) h)]
noncomputable def fz(aa:Calls):List Nat->Prop
 |[]=>True
 |i::r=>dw aa i=r.reverse/\i<aa.length/\fz aa r
def sg(aa:Calls)(fs:List EF):List Nat->Int->Prop:=fs.rec (λr _=>r.casesOn True λ_ _=>False) λF _ ih r t=>r.casesOn False λi r=>F.key=gc aa i/\F.own=Gm aa i/\F.own+F.below=gA aa i-t/\ih r (gA aa i)
noncomputable def mK:List Nat->Int
 |[]=>-1
 |i::_=>i
theorem fz.lt:∀{stk:List Nat},fz aa stk->∀i∈stk,i<aa.length
 |i::r,h,j,hj=>by
  rcases q0m.mp hj with rfl | hj
  ·exact h.2.1
  ·exact h.2.2.lt j hj
theorem fz.app:∀{stk:List Nat},fz aa stk->fz (aa++[c0]) stk
 |[],_=>trivial
 |i::r,h=>⟨(pv h.2.1).trans h.1,by rw[q0x];exact Nat.lt_add_right _ h.2.1,h.2.2.app⟩
theorem fz.top{stk:List Nat}(h:fz aa stk)(e:c0.2.1=mK stk):dw (aa++[c0]) aa.length=stk.reverse:=by
 rw[F3,e];cases stk with
 |nil=>rfl
 |cons i r=>rw[mK,q1l (by lia),Int.toNat_natCast,h.1,List.reverse_cons]
theorem sg.app:∀{fs:List EF}{stk:List Nat}{t:Int},sg aa fs stk t->fz aa stk->(∀i∈stk,i∈dw (aa++[c0]) aa.length++[aa.length])->sg (aa++[c0]) fs stk (t+c0.2.2)
 |[],[],_,_,_,_=>trivial
 |F::fs,i::r,t,h,p,m=>by
  have hi:=p.2.1;have hc:=lT (aa:=aa) (c0:=c0) (i:=i);rw[q1k (m i q0g)] at hc;refine⟨by rw[rA hi];exact h.1,by rw[EQ hi];exact h.2.1,by simp only[hc,h.2.2.1];lia,?_⟩;rw[hc];exact sg.app (fs:=fs) h.2.2.2 p.2.2 λj hj=>m j (q0k _ hj)
end
structure Inv(stk:List Nat)(aa:Calls)(s:su)(E:List Nat):Prop where
 wf:lY aa
 kd:∀i,i<aa.length->0<=iu aa i/\iu aa i<8
 par:∀i,i<aa.length->0<=fG aa i->iu aa (fG aa i).toNat<4
 path:fz aa stk
 fs:sg aa s.fs stk 0
 perm:(E++stk).Perm (List.range aa.length)
 u:kH s.ga s.gb=E.foldl (iw aa) (λ_=>none)
section
variable{aa:Calls}{stk E:List Nat}{s:su}
theorem Inv.push{kd c:Int}(I:Inv stk aa s E)(h0:0<=kd)(h8:kd<8)(hs:∀i∈stk,iu aa i<4):Inv (aa.length::stk) (aa++[(kd,mK stk,c)]) ⟨⟨iN kd.toNat,c,0⟩::s.fs,s.ga,s.gb⟩ E:=by
 have pl:=I.path.lt;have ht:mK stk<(aa.length:Int):=by
  cases stk with
  |nil=>show(-1:Int)<_;lia
  |cons i r=>have:=pl i q0g;show(i:Int)<_;lia
 have nd:(E++stk).Nodup:=I.perm.nodup_iff.mpr List.nodup_range;have hE:∀i∈E,i<aa.length/\i∉stk:=λi hi=>⟨q1m.mp (I.perm.mem_iff.mp (q1q.mpr (.inl hi))),λh=>(List.nodup_append.mp nd).2.2 i hi i h rfl⟩
 have tp:=I.path.top (c0:=(kd,mK stk,c)) rfl;have kn:iu (aa++[(kd,mK stk,c)]) aa.length=kd:=by unfold iu;rw[kC]
 have pn:fG (aa++[(kd,mK stk,c)]) aa.length=mK stk:=by unfold fG;rw[kC]
 have ll:(aa++[(kd,mK stk,c)]).length=aa.length+1:=by simp
 have cn:=AN I.wf (c0:=(kd,mK stk,c));refine⟨NQ I.wf ht,λi hi=>?_,λi hi hp=>?_,⟨tp,by rw[ll];exact q2n _,I.path.app⟩,⟨?_,?_,?_,?_⟩,?_,?_⟩
 ·rw[ll] at hi
  by_cases h:i<aa.length
  ·rw[lK h];exact I.kd i h
  ·obtain rfl:i=aa.length:=by lia
   rw[kn];exact⟨h0,h8⟩
 ·rw[ll] at hi
  by_cases h:i<aa.length
  ·rw[Do h] at hp ⊢
   have hw:fG aa i<(i:Int):=I.wf i (aa.getD i (0,0,0)) (by simp[h]);rw[lK (by lia)];exact I.par i h hp
  ·obtain rfl:i=aa.length:=by lia
   rw[pn] at hp ⊢;cases stk with
   |nil=>exact q1t hp (by decide)
   |cons j r=>
    show iu _ (Int.toNat (j:Int))<4;simp only[Int.toNat_natCast,lK (pl j q0g)];exact hs j q0g
 ·unfold gc;rw[kn]
 ·unfold Gm;rw[kC]
 ·rw[cn];show c+0=c-0;lia
 ·rw[cn]
  have:=I.fs.app (c0:=(kd,mK stk,c)) I.path λi hi=>by rw[tp];exact q1q.mpr (.inl (List.mem_reverse.mpr hi))
  rwa[Int.zero_add] at this
 ·simp only[ll,List.range_succ]
  exact List.perm_middle.trans ((List.Perm.cons _ I.perm).trans (List.perm_append_singleton _ _).symm)
 ·refine I.u.trans (oN λi hi g=>?_)
  obtain⟨h1,h2⟩:=hE i hi;refine(F0 I.wf h1 ?_ g).symm;rw[tp];intro h;rcases q1q.mp h with h | h
  ·exact h2 (List.mem_reverse.mp h)
  ·have:=q2e.mp h;lia
theorem rj:∀i,i<8->∀j,j<8->(iN i==iN j)=(i==j):=by decide +kernel
theorem ur:∀{fs:List EF}{r:List Nat}{t:Int}{kd:Int},sg aa fs r t->fz aa r->(∀i,i<aa.length->0<=iu aa i/\iu aa i<8)->0<=kd->kd<8->(fs.any λf=>f.key==iN kd.toNat)=(r.map (iu aa)).any λx=>x==kd
 |[],[],_,_,_,_,_,_,_=>rfl
 |F::fs,i::r,t,kd,h,p,k,h0,h8=>by
  have hk:=k i p.2.1;rw[List.any_cons,q1p,List.any_cons,ur h.2.2.2 p.2.2 k h0 h8,h.1];unfold gc;rw[rj _ (l8 hk.1 hk.2) _ (l8 h0 h8)];congr 1;rw[Bool.eq_iff_iff,q1v,q1v];exact NZ hk.1 h0
theorem KB{fs:List EF}{r:List Nat}{t:Int}(h:sg aa fs r t):sg aa (bump fs t) r 0:=by
 cases fs with
 |nil=>cases r with
  |nil=>trivial
  |cons i r=>exact h
 |cons F fs=>cases r with
  |nil=>exact h
  |cons i r=>exact⟨h.1,h.2.1,by have:=h.2.2.1;show F.own+(F.below+t)=_;lia,h.2.2.2⟩
theorem RE{fs:List EF}{i:Nat}{r:List Nat}{t:Int}{q:Q4}(W:lY aa)(h:sg aa fs r t)(p:fz aa (i::r)):qD fs q=if fG aa i<0 then λ_=>none else λj=>if j=gc aa (fG aa i).toNat then some q else none:=by
 have e:=zg W p.2.1;rw[p.1,show(aa.getD i (0,0,0)).2.1=fG aa i from rfl] at e;by_cases hp:fG aa i<0
 ·rw[q1k hp] at e ⊢
  have:r=[]:=List.reverse_eq_nil_iff.mp e;subst this;cases fs with
  |nil=>rfl
  |cons F fs=>exact False.elim h
 ·rw[q1l hp] at e ⊢
  cases r with
  |nil=>exact q1t e (by simp)
  |cons j r=>
   rw[List.reverse_cons] at e;obtain⟨_,e2⟩:=List.append_inj' e rfl;injection e2 with e3
   cases fs with
   |nil=>exact False.elim h
   |cons F fs=>
    show(λx=>if x=F.key then some q else none)=_;rw[h.1,e3]
theorem Inv.pop{i:Nat}{r:List Nat}(I:Inv (i::r) aa s E):Inv r aa (jM s) (E++[i]):=by
 obtain⟨fs,ga,gb⟩:=s;obtain⟨wf,kd,par,path,fo,perm,u⟩:=I;cases fs with
 |nil=>exact False.elim fo
 |cons F fs=>
  obtain⟨f1,f2,f3,f4⟩:=fo;have hk:=kd i path.2.1;rw[Int.sub_zero] at f3;have ff:bB fs F.key=eO aa i:=by unfold bB eO ww;rw[f1,path.1,show gc aa i=iN (iu aa i).toNat from rfl,ur f4 path.2.2 kd hk.1 hk.2,List.map_reverse,List.any_reverse];rfl
  have q:jM ⟨F::fs,ga,gb⟩=⟨bump fs (gA aa i),gb,iw aa ga i⟩:=by show(⟨bump fs (F.own+F.below),gb,jo ga F.key (bB fs F.key,1,F.own,bB fs F.key*(F.own+F.below)) (qD fs (1,bB fs F.key,F.own,bB fs F.key*(F.own+F.below)))⟩:su)=_;rw[RE wf f4 path,ff,f3,f2,f1];rfl
  rw[q];refine⟨wf,kd,par,path.2.2,KB f4,by rw[q0i];exact perm,?_⟩;show kH gb (iw aa ga i)=_;rw[qz,show iw aa ga i=jo ga (gc aa i) (C8 aa i) (Fh aa i) from rfl,EO,List.foldl_append];show jo (kH ga gb) _ _ _=iw aa _ i;rw[show kH ga gb=_ from u];rfl
end
structure Ym(fs:List d9)(aa:Calls)(tr:List Op)(stk E:List Nat):Prop where
 pl:fs.map d9.place=stk.map Int.ofNat++[-1]
 inv:Inv stk aa (iV tr) E
 lo:∀i∈stk,iu aa i<4
 bal:∀rest,wY stk.length rest->wY 0 (tr++rest)
 ok:∀o∈tr,o.ok
theorem lR(tr:List Op)(o:Op):iV (tr++[o])=ib (iV tr) o:=by unfold iV;rw[List.foldl_append];rfl
theorem QT(k0:0<=k)(k1:k<4):pH k=iN k.toNat/\rB k=iN (4+k).toNat:=lO (P:=λk=>pH k=iN k.toNat/\rB k=iN (4+k).toNat) ⟨rfl,rfl⟩ ⟨rfl,rfl⟩ ⟨rfl,rfl⟩ ⟨rfl,rfl⟩ k0 k1
theorem kd_new:iu (aa++[(a,b,c)]) aa.length=a:=by unfold iu;rw[kC]
theorem rg{tr:List Op}{o:Op}(h:∀o∈tr,o.ok)(ho:o.ok):∀o'∈tr++[o],o'.ok:=λo' h'=>by
 rcases q1q.mp h' with g | g
 ·exact h o' g
 ·rw[q2e.mp g];exact ho
theorem Fw{fs:List d9}{aa:Calls}{tr:List Op}{stk E:List Nat}{x:Int}(B:Ym fs aa tr stk E):∃GP E',Ym (cC x fs aa).1 (cC x fs aa).2 (tr++vX x fs.length) GP E':=by
 obtain⟨k0,k1⟩:=kx x;obtain⟨c0,c1⟩:=kF x;obtain⟨n1,n2⟩:=QT k0 k1;obtain⟨pl,inv,lo,bal,ok⟩:=B;have lt:=inv.path.lt;cases fs with
 |nil=>cases stk<;>simp at pl
 |cons F r=>
  have hF:F.place=mK stk:=by
   cases stk with
   |nil=>exact(List.cons.inj pl).1
   |cons i r'=>exact(List.cons.inj pl).1
  unfold cC vX;by_cases h1:x.fmod 4 > 1
  ·rw[q1k h1,q1k h1]
   dsimp only;rw[hF];refine⟨aa.length::stk,E,by rw[q1p,pl];rfl,?_,λi hi=>?_,λrest h=>by rw[q0i];exact bal _ h,rg ok ⟨⟨k0,k1⟩,c0,c1⟩⟩
   ·rw[lR]
    show Inv _ _ ⟨⟨pH (kindOf x),dp x,0⟩::_,_,_⟩ _;rw[n1];exact inv.push k0 (by lia) lo
   ·rcases q0m.mp hi with rfl | hi
    ·rw[kd_new];exact k1
    ·rw[lK (lt i hi)];exact lo i hi
  ·rw[q1l h1,q1l h1]
   by_cases h2:x.fmod 4=1
   ·rw[q1k h2,q1k h2]
    dsimp only;rw[hF];refine⟨stk,E++[aa.length],pl,?_,λi hi=>?_,λrest h=>by rw[q0i];exact bal _ h,rg ok ⟨⟨k0,k1⟩,c0,c1⟩⟩
    ·rw[lR]
     show Inv _ _ (jM ⟨⟨rB (kindOf x),dp x,0⟩::_,_,_⟩) _;rw[n2];exact(inv.push (by lia) (by lia) lo).pop
    ·rw[lK (lt i hi)];exact lo i hi
   ·rw[q1l h2,q1l h2]
    cases r with
    |nil=>exact⟨stk,E,pl,by rw[q1l (by simp),List.append_nil];exact inv,lo,by rw[q1l (by simp),List.append_nil];exact bal,by rw[q1l (by simp),List.append_nil];exact ok⟩
    |cons G r=>
     rw[q1k (by simp)];cases stk with
     |nil=>simp at pl
     |cons i stk=>
      refine⟨stk,E++[i],(List.cons.inj pl).2,?_,λj hj=>lo j (q0k _ hj),λrest h=>by rw[q0i];exact bal _ h,rg ok trivial⟩;rw[lR];exact inv.pop
theorem KG{ns:List Int}{s:(List d9×Calls)×List Op}{stk E:List Nat}(B:Ym s.1.1 s.1.2 s.2 stk E):∃GP E',Ym (ns.foldl sm s).1.1 (ns.foldl sm s).1.2 (ns.foldl sm s).2 GP E':=by
 induction ns generalizing s stk E with
 |nil=>exact⟨_,_,B⟩
 |cons x ns ih=>
  obtain⟨GP,E',B'⟩:=Fw (x:=x) B;exact ih (s:=sm s x) B'
theorem VG:∀{stk E:List Nat}{aa:Calls}{s:su},Inv stk aa s E->∃E',Inv [] aa ((List.replicate stk.length Op.fin).foldl ib s) E'
 |[],E,_,_,I=>⟨E,I⟩
 |_::r,_,_,s,I=>VG (stk:=r) (s:=jM s) I.pop
theorem uF:∀d,wY d (List.replicate d Op.fin)
 |0=>trivial
 |d+1=>uF d
theorem NY(ns:List Int)(s:(List d9×Calls)×List Op):(ns.foldl sm s).2.length<=s.2.length+ns.length/\(ns.foldl sm s).1.1.length<=s.1.1.length+ns.length:=by
 induction ns generalizing s with
 |nil=>exact⟨q0c _,q0c _⟩
 |cons x ns ih=>
  obtain⟨a,b⟩:=ih (sm s x);have h1:(sm s x).2.length<=s.2.length+1:=by
   show(s.2++vX x _).length<=_;rw[q0x];unfold vX;split
   ·exact q0c _
   ·split
    ·exact q0c _
    ·split
     ·exact q0c _
     ·exact q2g _
  have h2:(sm s x).1.1.length<=s.1.1.length+1:=by
   obtain⟨⟨fs,cs⟩,tr⟩:=s;show(cC x fs cs).1.length<=fs.length+1;unfold cC;split
   ·cases fs<;>simp
   ·split
    ·cases fs<;>simp
    ·cases fs with
     |nil=>simp
     |cons F r=>cases r<;>simp<;>lia
  simp only[List.foldl_cons,List.length_cons];exact⟨by lia,by lia⟩
structure a0N(xs:List Int):Prop where
 bal:wY 0 (mO xs)
 ok:∀o∈mO xs,o.ok
 len:(mO xs).length<=44
 inv:∃E,Inv [] (bZ xs).2 (iV (mO xs)) E
theorem IS(xs:List Int):a0N xs:=by
 have h0:Ym [⟨"",0,"",-1⟩] [] [] [] []:=⟨rfl,⟨λi c h=>(by simp at h),λi h=>q1t h (q2f _),λi h=>q1t h (q2f _),trivial,trivial,.refl _,by funext j;rfl⟩,λi h=>q1t h q2c,λ_ h=>h,λo h=>q1t h q2c⟩
 obtain⟨stk,E,B⟩:=KG (ns:=bA xs) (s:=(([⟨"",0,"",-1⟩],[]),[])) h0;have e:=BL (bA xs) (([⟨"",0,"",-1⟩],[]),[]);have l:=NY (bA xs) (([⟨"",0,"",-1⟩],[]),[]);have hn:=fQ xs;have e2:(bZ xs).2=((bA xs).foldl sm (([⟨"",0,"",-1⟩],[]),[])).1.2:=(q1s Prod.snd e).symm;have e3:mO xs=((bA xs).foldl sm (([⟨"",0,"",-1⟩],[]),[])).2++List.replicate (((bA xs).foldl sm (([⟨"",0,"",-1⟩],[]),[])).1.1.length-1) .fin:=rfl;clear h0 e;generalize (bA xs).foldl sm (([⟨"",0,"",-1⟩],[]),[])=s at B l e2 e3;obtain⟨pl,inv,lo,bal,ok⟩:=B;have hl:s.1.1.length-1=stk.length:=by have:=q1s List.length pl;simp at this;omega
 rw[hl] at e3;simp only[List.length_nil,List.length_singleton] at l;refine⟨by rw[e3];exact bal _ (uF _),λo ho=>?_,?_,?_⟩
 ·rw[e3] at ho
  rcases q1q.mp ho with g | g
  ·exact ok o g
  ·rw[List.eq_of_mem_replicate g];trivial
 ·simp only[e3,List.length_append,List.length_replicate];omega
 ·obtain⟨E',I⟩:=VG inv
  refine⟨E',?_⟩;simp only[e2,e3];unfold iV at I ⊢;rw[List.foldl_append];exact I
section
variable{aa:Calls}
noncomputable def Ge(aa:Calls)(m:Nat)(j:Str):List Nat:=(List.range m).filter λi=>gc aa i==j
noncomputable def JH(aa:Calls)(l:List Nat)(p:Str):List Nat:=l.filter λi=>decide (fG aa i≥0)&&gc aa (fG aa i).toNat==p
theorem AD(l:List Nat)(i:Nat):f6 aa (l++[i])=fg (1,eO aa i,Gm aa i,jT aa i) (f6 aa l):=by unfold f6 fg;simp only[List.length_append,List.length_singleton,List.map_append,List.map_cons,List.map_nil,List.sum_append,List.sum_cons,List.sum_nil,Prod.mk.injEq];lia
theorem zY(l:List Nat)(i:Nat):pE aa (l++[i])=fg (C8 aa i) (pE aa l):=by unfold pE C8 fg;simp only[List.length_append,List.length_singleton,List.map_append,List.map_cons,List.map_nil,List.sum_append,List.sum_cons,List.sum_nil,Prod.mk.injEq];lia
noncomputable def AY(aa:Calls)(l:List Nat):TF:=λp=>if JH aa l p=[] then none else some (f6 aa (JH aa l p))
noncomputable def sL(aa:Calls)(m:Nat):TG:=λj=>if Ge aa m j=[] then none else some (pE aa (Ge aa m j),AY aa (Ge aa m j))
theorem AX(l:List Nat)(i:Nat):AY aa (l++[i])=λp=>fO (AY aa l p) (Fh aa i p):=by
 funext p;have e:JH aa (l++[i]) p=JH aa l p++(if fG aa i≥0/\gc aa (fG aa i).toNat=p then[i] else[]):=by unfold JH;rw[List.filter_append,List.filter_cons];simp only[Bool.and_eq_true,decide_eq_true_eq,q1v,List.filter_nil]
 unfold AY Fh;simp only[e];by_cases h0:fG aa i<0
 ·rw[q1k h0,qH]
  simp only[show ¬(fG aa i≥0/\gc aa (fG aa i).toNat=p) from λh=>by lia,if_false,List.append_nil]
 ·rw[q1l h0]
  by_cases hp:p=gc aa (fG aa i).toNat
  ·simp only[show fG aa i≥0/\gc aa (fG aa i).toNat=p from⟨by lia,hp.symm⟩,and_self,if_true]
   rw[q1l (by simp),AD];by_cases hl:JH aa l p=[]
   ·rw[q1k hl,hl,show f6 aa [] = (0,0,0,0) from rfl,Bg];rfl
   ·rw[q1l hl];rfl
  ·simp only[show ¬(fG aa i≥0/\gc aa (fG aa i).toNat=p) from λh=>hp h.2.symm,if_false,List.append_nil]
   rw[q1l hp,qH]
theorem zB(m:Nat):sL aa (m+1)=iw aa (sL aa m) m:=by
 funext j;have e:Ge aa (m+1) j=Ge aa m j++(if gc aa m=j then[m] else[]):=by unfold Ge;rw[List.range_succ,List.filter_append,List.filter_cons];simp only[q1v,List.filter_nil]
 unfold iw;rw[cw];by_cases h:j=gc aa m
 ·rw[q1k h]
  unfold sL;rw[e,q1k h.symm,q1l (by simp),<-h,zY,AX];by_cases hl:Ge aa m j=[]
  ·rw[q1k hl,hl];rfl
  ·rw[q1l hl];rfl
 ·unfold sL
  rw[q1l h,e,q1l (Ne.symm h),q0q]
theorem pU(aa:Calls):∀m,(List.range m).foldl (iw aa) (λ_=>none)=sL aa m
 |0=>rfl
 |m+1=>by simp only[List.range_succ,List.foldl_append,pU aa m,zB];rfl
theorem Jo(k:∀i,i<aa.length->0<=iu aa i/\iu aa i<8){kd:Nat}(h:kd<8):Ge aa aa.length (iN kd)=bp aa kd:=by unfold Ge bp;refine List.filter_congr λi hi=>?_;have:=k i (q1m.mp hi);unfold gc;rw[rj _ (l8 this.1 this.2) _ h,Bool.eq_iff_iff,q1v,q1v];exact BQ this.1
theorem N1(W:lY aa)(k:∀i,i<aa.length->0<=iu aa i/\iu aa i<8)(kd:Nat){ot:Nat}(h:ot<4):JH aa (bp aa kd) (iN ot)=ip aa kd ot:=by
 unfold JH ip;refine List.filter_congr λi hi=>?_;have JM:=kr hi;by_cases hp:fG aa i≥0
 ·have hw:fG aa i<(i:Int):=W i (aa.getD i (0,0,0)) (by simp[JM])
  have:=k (fG aa i).toNat (Nat.lt_trans (l8 hp hw) JM);congr 1;unfold gc;rw[rj _ (l8 this.1 this.2) _ (Nat.lt_trans h (by decide)),Bool.eq_iff_iff,q1v,q1v];exact BQ this.1
 ·rw[q1x hp];rfl
theorem yU(kd m:Nat)(p:Str):mW aa kd (m+1) p=if ip aa kd m=[] then mW aa kd m p else if p=iN m then some (f6 aa (ip aa kd m)) else mW aa kd m p:=by rw[mW];split<;>rfl
theorem yH(m:Nat)(p:Str):jN aa (m+1) p=if bp aa m=[] then jN aa m p else if p=iN m then some (pE aa (bp aa m),mW aa m 4) else jN aa m p:=by rw[jN];split<;>rfl
section
variable{α:Type}{X:Nat->Str->Option α}{e:Nat->List Nat}{v:Nat->α}(h0:∀p,X 0 p=none)(hs:∀m p,X (m+1) p=if e m=[] then X m p else if p=iN m then some (v m) else X m p)
include h0 hs
theorem m7{p:Str}:∀m,(∀kd,kd<m->p≠iN kd)->X m p=none
 |0,_=>h0 p
 |m+1,h=>by
  have ih:=m7 (p:=p) m λo ho=>h o (by lia);rw[hs,q1l (h m (by lia)),ih];split<;>rfl
theorem vh:∀m,m<=8->∀kd,kd<m->X m (iN kd)=if e kd=[] then none else some (v kd)
 |m+1,hm,kd,hk=>by
  have ne:∀q,q<8->kd≠q->iN kd≠iN q:=λq hq h e=>by
   have nj:=rj kd (by lia) q hq;rw[q1v.mpr e] at nj;exact h (q1v.mp nj.symm)
  rw[hs];by_cases h:kd=m
  ·subst h
   rw[q1k rfl,m7 h0 hs kd λq hq=>ne q (by lia) (by lia)]
  ·rw[q1l (ne m (by lia) h),vh m (by lia) kd (by lia),ite_self]
end
theorem Ku(W:lY aa)(k:∀i,i<aa.length->0<=iu aa i/\iu aa i<8)(par:∀i,i<aa.length->0<=fG aa i->iu aa (fG aa i).toNat<4)(kd:Nat):mW aa kd 4=AY aa (bp aa kd):=by
 funext p;unfold AY;by_cases h:∃ot,ot<4/\p=iN ot
 ·obtain⟨ot,h1,rfl⟩:=h
  rw[vh (λ_=>rfl) (yU kd) 4 (by decide) ot h1,N1 W k kd h1]
 ·rw[m7 (λ_=>rfl) (yU kd) 4 λot ho e=>h ⟨ot,ho,e⟩,q1k]
  unfold JH;rw[List.filter_eq_nil_iff];intro i hi;have JM:=kr hi;rw[Bool.and_eq_true,decide_eq_true_eq,q1v]
  rintro⟨hp,e⟩
  have hw:fG aa i<(i:Int):=W i (aa.getD i (0,0,0)) (by simp[JM]);have h1:=par i JM hp;have h2:=k (fG aa i).toNat (by lia);exact h ⟨(iu aa (fG aa i).toNat).toNat,by lia,e.symm⟩
theorem Kb(W:lY aa)(k:∀i,i<aa.length->0<=iu aa i/\iu aa i<8)(par:∀i,i<aa.length->0<=fG aa i->iu aa (fG aa i).toNat<4)(j:Str):jN aa 8 j=sL aa aa.length j:=by
 by_cases h:∃kd,kd<8/\j=iN kd
 ·obtain⟨kd,h1,rfl⟩:=h
  unfold sL;rw[vh (λ_=>rfl) yH 8 (q0c _) kd h1,Jo k h1,Ku W k par kd]
 ·rw[m7 (λ_=>rfl) yH 8 λkd hk e=>h ⟨kd,hk,e⟩]
  unfold sL;rw[q1k];unfold Ge;rw[List.filter_eq_nil_iff];intro i hi e;have h2:=k i (q1m.mp hi);exact h ⟨(iu aa i).toNat,by lia,(q1v.mp e).symm⟩
end
theorem qA:∀{r:List d9}{F:d9},eS (F::r)->(jO F r).text.length+20<=wt (F::r)
 |[],F,_=>by show F.text.length+20<=F.text.length+20+0;lia
 |G::r,F,h=>by
  have h1:=nU (F:=F) (G:=G) (w:="") h.1 (by decide);have h2:=qA (kA (F':=bO F G "") h.2 rfl rfl);simp only[wt] at h1 h2 ⊢;show(jO (bO F G "") r).text.length+20<=_;lia
theorem Jd(o:Op):(oi o).length<=5:=by
 cases o with
 |beg k c=>exact q0c _
 |blt k c=>
  unfold oi
  repeat' split
  all_goals simp
 |fin=>decide
theorem tH:∀dZ:List Op,(dY dZ).length<=5*dZ.length
 |[]=>q0c _
 |o::dZ=>by
  have:=Jd o;have:=tH dZ;rw[show dY (o::dZ)=oi o++dY dZ from rfl,q0x,List.length_cons];lia
theorem DR{L:Nat}(hL:1000<L)(xs:List Int):Yg L xs (mO xs):=by
 obtain⟨bal,ok,len,E,I⟩:=IS xs;have hg:=jB (xs:=bA xs) (s:=([⟨"",0,"",-1⟩],[])) trivial;have hn:=fQ xs;have h3:wt ([⟨"",0,"",-1⟩]:List d9)=20:=rfl;have tl:(textOf (bZ xs).1).length<=880:=by
  have hg':eS (bZ xs).1/\wt (bZ xs).1<=900:=⟨hg.1,by have:=hg.2.1;unfold bZ;dsimp only at this;lia⟩
  generalize (bZ xs).1=fs at hg';cases fs with
  |nil=>exact Nat.zero_le _
  |cons F r=>have:=qA hg'.1;show(jO F r).text.length<=880;lia
 have cl:(bZ xs).2.length<=22:=by have:=hg.2.2;unfold bZ;simp only[List.length_nil] at this;lia
 have ml:=tH (mO xs);have key:kH (iV (mO xs)).ga (iV (mO xs)).gb=jN (bZ xs).2 8:=by
  have P:E.Perm (List.range (bZ xs).2.length):=by have:=I.perm;rwa[q0q] at this
  rw[I.u,Az P,pU];funext j;exact(Kb I.wf I.kd I.par j).symm
 refine⟨ok,bal,by lia,Ah (by show(textOf (bZ xs).1).length<L;lia),by lia,by lia,(xU xs).1,I.wf,by lia,λj=>?_,λj=>?_⟩
 ·rw[<-key,qz];rfl
 ·rw[<-key];rfl
theorem DQ{L n k sc:Nat}{H:List O}{xs:List Int}(hL:2000<L){ob:Obj}(hs:H[sc]?=some (.arg ob))(ho:pL ob=xs.map V.int)(hx:xs.length<=100):∃H',Fo L n k [.ref sc] H=some (.bool true,H')/\H'[sc]?=some (.arg ob):=DS hL (DR (by lia) xs) hs ho hx
def Fy(P:Params):BT:=(zy P).set 55 λo=>{o with data:=.freed}
noncomputable def BH(w:World):Heap:=absHeap (Fy w.params) 810 {}
noncomputable def ly(P:Params)(i:Nat):Option Obj:=((Fy P).get i).bind alive
noncomputable def fragOf(f:Nat->Option Obj):List Nat->Frag
 |[]=>[]
 |i::l=>match f i with
  |none=>fragOf f l
  |some o=>(i,o)::fragOf f l
theorem iU{f:Nat->Option Obj}:∀{l:List Nat}{a:Nat}{o:Obj},(fragOf f l).lookup a=some o->a∈l/\f a=some o
 |[],a,o,h=>by cases h
 |i::l,a,o,h=>by
  unfold fragOf at h;cases e:f i with
  |none=>rw[e] at h;exact(iU h).imp (q0k _) id
  |some u=>
   rw[e] at h;dsimp only at h;rw[List.lookup_cons] at h;cases q:a==i with
   |true=>rw[q] at h;rw[q1v.mp q,e];exact⟨q0g,h⟩
   |false=>rw[q] at h;exact(iU h).imp (q0k _) id
noncomputable def KH(w:World):Frag:=fragOf (ly w.params) (List.range 810)
theorem uT(w:World){a:Nat}{o:Obj}(h:ly w.params a=some o)(ha:a<810):(BH w).get? a=some o:=by obtain⟨u,h1,h2⟩:=q1a.mp h;unfold BH;rw[abs_get ha h1];exact h2
theorem zk(w:World):(KH w).In (BH w):=λa o h=>by
 obtain⟨h1,h2⟩:=iU h;exact uT w h2 (q1m.mp h1)
theorem c1:(λw=>(plainGet (KH w) 743 "",hasDictIn (KH w) 743,findIn (KH w) (.ref 743) "__setattr__",plainOver (KH w) 743))=λ_=>(true,true,some (some (.builtin "object.__setattr__")),true):=by kernel_rfl
theorem c2:(λw=>(plainGet (KH w) 608 "",hasDictIn (KH w) 608,findIn (KH w) (.ref 608) "__setattr__",plainOver (KH w) 608))=λ_=>(true,true,some (some (.builtin "object.__setattr__")),true):=by kernel_rfl
def Yd(r:aQ):Prop:=r.fd.globals=mainGlobals/\r.fd.builtins=builtinsNs/\r.fd.scope.kind=.function/\r.fd.scope.isCoroutine=false/\r.fd.scope.isGenerator=false/\(r.fd.scope.names.map (·.1)).Nodup/\∀p∈r.fd.scope.names,p.2≠.free
def a0O(r:aQ):Prop:=r.params.Nodup/\∀x∈r.params,r.fd.scope.names.lookup x=some .local\/r.fd.scope.names.lookup x=some .cell
noncomputable def No:ScopeKind->Bool
 |.function=>true
 |_=>false
theorem DU{k:ScopeKind}(h:No k=true):k=.function:=by cases k<;>first | rfl | cases h
noncomputable def j8(r:aQ):Bool:=(r.fd.globals==mainGlobals&&r.fd.builtins==builtinsNs&&No r.fd.scope.kind&&!r.fd.scope.isCoroutine&&!r.fd.scope.isGenerator)&&decide ((r.fd.scope.names.map (·.1)).Nodup)&&decide (∀p∈r.fd.scope.names,p.2≠.free)
noncomputable def th(r:aQ):Bool:=decide r.params.Nodup&&decide (∀x∈r.params,r.fd.scope.names.lookup x=some .local\/r.fd.scope.names.lookup x=some .cell)
theorem C9{r:aQ}(h:j8 r=true):Yd r:=by unfold j8 at h;simp only[Bool.and_eq_true,q1v,Bool.not_eq_true',decide_eq_true_eq] at h;obtain⟨⟨⟨⟨⟨⟨a,b⟩,c⟩,d⟩,e⟩,f⟩,g⟩:=h;exact⟨a,b,DU c,d,e,f,g⟩
theorem xT{r:aQ}(h:th r=true):a0O r:=by unfold th at h;simp only[Bool.and_eq_true,decide_eq_true_eq] at h;exact h
noncomputable def Vt:Value->Option Addr
 |.ref c=>some c
 |_=>none
noncomputable def Uf:Value->Option Str
 |.str x _=>some x
 |_=>none
noncomputable def yC:Data->Option (Array Value)
 |.fields vs=>some vs
 |_=>none
theorem zZ{v:Value}{c:Addr}(h:Vt v=some c):v=.ref c:=by cases v<;>cases h;rfl
theorem zC{v:Value}{x:Str}(h:Uf v=some x):∃t,v=.str x t:=by cases v<;>cases h;exact⟨_,rfl⟩
theorem rJ{v:Data}{x:Array Value}(h:yC v=some x):v=.fields x:=by cases v<;>cases h;rfl
noncomputable def mA(P:Params)(cd:Value):Option (Bool×Str):=(Vt cd).bind λc=>(ly P c).bind λo=>(yC o.data).bind λvs=>(vs[1]?).bind λv=>(Uf v).map λx=>(decide (c<810),x)
theorem EP{w:World}{cd:Value}{q:Str}(h:mA w.params cd=some (true,q)):(BH w).CodeRec cd q:=by obtain⟨c,h1,h⟩:=q1a.mp h;obtain⟨o,h2,h⟩:=q1a.mp h;obtain⟨vs,h3,h⟩:=q1a.mp h;obtain⟨v,h4,h⟩:=q1a.mp h;obtain⟨x,h5,h7⟩:=q0z.mp h;obtain⟨h6,rfl⟩:=q0v h7;obtain⟨t,rfl⟩:=zC h5;exact⟨c,o,vs,t,zZ h1,uT w h2 (of_decide_eq_true h6),rJ h3,h4⟩
theorem lQ{w:World}{f:Addr}{r:aQ}(hf:f<810)(h1:(ly w.params f).map (·.data)=some (.func r.fd))(h2:mA w.params r.fd.code=some (true,r.fd.qualname))(h3:j8 r=true)(h4:r.fd.closure=[])(h5:r.fd.body=.stmts r.body):FnOk0 (BH w) f r:=by obtain⟨o,ho,hd⟩:=q0z.mp h1;obtain⟨a,b,c,d,e,g,i⟩:=C9 h3;exact⟨⟨o,uT w ho hf,hd⟩,EP h2,a,b,h4,h5,c,d,e,g,i⟩
theorem uq{w:World}{f:Addr}{r:aQ}(F:FnOk0 (BH w) f r)(p:th r=true)(h:∀xs:List Value,xs.length=r.params.length->∀S,peek (KH w) S (bindArgs r.fd ⟨xs,[]⟩)=some (r.params.zip xs)):dc (BH w) f r:={F with pnd:=(xT p).1,par:=(xT p).2,bind:=λs hs xs hx=>kp_binds (K:=KH w) (λa o e=>hs a o (zk w a o e)) (h xs hx)}
theorem lenZ{p:List Value->Prop}(h:p []):∀xs:List Value,xs.length=0->p xs:=λxs hx=>(List.eq_nil_of_length_eq_zero hx)▸h
theorem jI{p:List Value->Prop}{n:Nat}(h:∀a,∀xs:List Value,xs.length=n->p (a::xs)):∀xs:List Value,xs.length=n+1->p xs:=λxs hx=>by
 cases xs with
 |nil=>cases hx
 |cons a xs=>exact h a xs (Nat.succ.inj hx)
theorem Gk(n:r.params.length=1)(l:f<810)(d:(λw:World=>(ly w.params f).map (·.data))=λw=>some (.func r.fd))(e:(λw:World=>mA w.params r.fd.code)=λw=>some (true,r.fd.qualname))(p:j8 r=true)(c:r.fd.closure=[])(b:r.fd.body=.stmts r.body)(q:th r=true)(v:(λ(w:World)(S:Setting)(x0:Value)=>peek (KH w) S (bindArgs r.fd ⟨[x0],[]⟩))=λw S x0=>some (r.params.zip [x0]))(w:World):dc (BH w) f r:=uq (lQ l (q1j d w) (q1j e w) p c b) q λxs hx=>(jI (p:=λxs=>∀S:Setting,peek (KH w) S (bindArgs r.fd ⟨xs,[]⟩)=some (r.params.zip xs)) λx0=>lenZ λS=>q1j (q1j (q1j v w) S) x0) xs (hx.trans n)
theorem Nw(n:r.params.length=2)(l:f<810)(d:(λw:World=>(ly w.params f).map (·.data))=λw=>some (.func r.fd))(e:(λw:World=>mA w.params r.fd.code)=λw=>some (true,r.fd.qualname))(p:j8 r=true)(c:r.fd.closure=[])(b:r.fd.body=.stmts r.body)(q:th r=true)(v:(λ(w:World)(S:Setting)(x0 x1:Value)=>peek (KH w) S (bindArgs r.fd ⟨[x0,x1],[]⟩))=λw S x0 x1=>some (r.params.zip [x0,x1]))(w:World):dc (BH w) f r:=uq (lQ l (q1j d w) (q1j e w) p c b) q λxs hx=>(jI (p:=λxs=>∀S:Setting,peek (KH w) S (bindArgs r.fd ⟨xs,[]⟩)=some (r.params.zip xs)) λx0=>jI λx1=>lenZ λS=>q1j (q1j (q1j (q1j v w) S) x0) x1) xs (hx.trans n)
theorem fd3(n:r.params.length=3)(l:f<810)(d:(λw:World=>(ly w.params f).map (·.data))=λw=>some (.func r.fd))(e:(λw:World=>mA w.params r.fd.code)=λw=>some (true,r.fd.qualname))(p:j8 r=true)(c:r.fd.closure=[])(b:r.fd.body=.stmts r.body)(q:th r=true)(v:(λ(w:World)(S:Setting)(x0 x1 x2:Value)=>peek (KH w) S (bindArgs r.fd ⟨[x0,x1,x2],[]⟩))=λw S x0 x1 x2=>some (r.params.zip [x0,x1,x2]))(w:World):dc (BH w) f r:=uq (lQ l (q1j d w) (q1j e w) p c b) q λxs hx=>(jI (p:=λxs=>∀S:Setting,peek (KH w) S (bindArgs r.fd ⟨xs,[]⟩)=some (r.params.zip xs)) λx0=>jI λx1=>jI λx2=>lenZ λS=>q1j (q1j (q1j (q1j (q1j v w) S) x0) x1) x2) xs (hx.trans n)
theorem fd4(n:r.params.length=4)(l:f<810)(d:(λw:World=>(ly w.params f).map (·.data))=λw=>some (.func r.fd))(e:(λw:World=>mA w.params r.fd.code)=λw=>some (true,r.fd.qualname))(p:j8 r=true)(c:r.fd.closure=[])(b:r.fd.body=.stmts r.body)(q:th r=true)(v:(λ(w:World)(S:Setting)(x0 x1 x2 x3:Value)=>peek (KH w) S (bindArgs r.fd ⟨[x0,x1,x2,x3],[]⟩))=λw S x0 x1 x2 x3=>some (r.params.zip [x0,x1,x2,x3]))(w:World):dc (BH w) f r:=uq (lQ l (q1j d w) (q1j e w) p c b) q λxs hx=>(jI (p:=λxs=>∀S:Setting,peek (KH w) S (bindArgs r.fd ⟨xs,[]⟩)=some (r.params.zip xs)) λx0=>jI λx1=>jI λx2=>jI λx3=>lenZ λS=>q1j (q1j (q1j (q1j (q1j (q1j v w) S) x0) x1) x2) x3) xs (hx.trans n)
theorem fd5(n:r.params.length=5)(l:f<810)(d:(λw:World=>(ly w.params f).map (·.data))=λw=>some (.func r.fd))(e:(λw:World=>mA w.params r.fd.code)=λw=>some (true,r.fd.qualname))(p:j8 r=true)(c:r.fd.closure=[])(b:r.fd.body=.stmts r.body)(q:th r=true)(v:(λ(w:World)(S:Setting)(x0 x1 x2 x3 x4:Value)=>peek (KH w) S (bindArgs r.fd ⟨[x0,x1,x2,x3,x4],[]⟩))=λw S x0 x1 x2 x3 x4=>some (r.params.zip [x0,x1,x2,x3,x4]))(w:World):dc (BH w) f r:=uq (lQ l (q1j d w) (q1j e w) p c b) q λxs hx=>(jI (p:=λxs=>∀S:Setting,peek (KH w) S (bindArgs r.fd ⟨xs,[]⟩)=some (r.params.zip xs)) λx0=>jI λx1=>jI λx2=>jI λx3=>jI λx4=>lenZ λS=>q1j (q1j (q1j (q1j (q1j (q1j (q1j v w) S) x0) x1) x2) x3) x4) xs (hx.trans n)
theorem VM:∀w,dc (BH w) Tb Dc:=Gk (by kernel_rfl) (by decide) (by kernel_rfl) (by kernel_rfl) (by kernel_rfl) (by kernel_rfl) (by kernel_rfl) (by kernel_rfl) (by kernel_rfl)
theorem VZ:∀w,dc (BH w) Tj Dl:=Nw (by kernel_rfl) (by decide) (by kernel_rfl) (by kernel_rfl) (by kernel_rfl) (by kernel_rfl) (by kernel_rfl) (by kernel_rfl) (by kernel_rfl)
theorem VY:∀w,dc (BH w) Ti Dk:=Nw (by kernel_rfl) (by decide) (by kernel_rfl) (by kernel_rfl) (by kernel_rfl) (by kernel_rfl) (by kernel_rfl) (by kernel_rfl) (by kernel_rfl)
theorem VT:∀w,dc (BH w) Te Dg:=Nw (by kernel_rfl) (by decide) (by kernel_rfl) (by kernel_rfl) (by kernel_rfl) (by kernel_rfl) (by kernel_rfl) (by kernel_rfl) (by kernel_rfl)
theorem VS:∀w,dc (BH w) wR mM:=fd3 (by kernel_rfl) (by decide) (by kernel_rfl) (by kernel_rfl) (by kernel_rfl) (by kernel_rfl) (by kernel_rfl) (by kernel_rfl) (by kernel_rfl)
theorem VK:∀w,dc (BH w) LX Da:=Nw (by kernel_rfl) (by decide) (by kernel_rfl) (by kernel_rfl) (by kernel_rfl) (by kernel_rfl) (by kernel_rfl) (by kernel_rfl) (by kernel_rfl)
theorem VX:∀w,dc (BH w) L3 Dj:=Gk (by kernel_rfl) (by decide) (by kernel_rfl) (by kernel_rfl) (by kernel_rfl) (by kernel_rfl) (by kernel_rfl) (by kernel_rfl) (by kernel_rfl)
theorem Zz:∀w,dc (BH w) YY Vu:=Nw (by kernel_rfl) (by decide) (by kernel_rfl) (by kernel_rfl) (by kernel_rfl) (by kernel_rfl) (by kernel_rfl) (by kernel_rfl) (by kernel_rfl)
theorem VN:∀w,dc (BH w) F5 vO:=fd5 (by kernel_rfl) (by decide) (by kernel_rfl) (by kernel_rfl) (by kernel_rfl) (by kernel_rfl) (by kernel_rfl) (by kernel_rfl) (by kernel_rfl)
theorem VQ:∀w,dc (BH w) LZ Df:=Gk (by kernel_rfl) (by decide) (by kernel_rfl) (by kernel_rfl) (by kernel_rfl) (by kernel_rfl) (by kernel_rfl) (by kernel_rfl) (by kernel_rfl)
theorem VU:∀w,dc (BH w) L2 vQ:=Gk (by kernel_rfl) (by decide) (by kernel_rfl) (by kernel_rfl) (by kernel_rfl) (by kernel_rfl) (by kernel_rfl) (by kernel_rfl) (by kernel_rfl)
theorem VL:∀w,dc (BH w) LY Db:=Gk (by kernel_rfl) (by decide) (by kernel_rfl) (by kernel_rfl) (by kernel_rfl) (by kernel_rfl) (by kernel_rfl) (by kernel_rfl) (by kernel_rfl)
theorem VP:∀w,dc (BH w) Td De:=fd3 (by kernel_rfl) (by decide) (by kernel_rfl) (by kernel_rfl) (by kernel_rfl) (by kernel_rfl) (by kernel_rfl) (by kernel_rfl) (by kernel_rfl)
theorem QB:∀w,dc (BH w) F4 tv:=Nw (by kernel_rfl) (by decide) (by kernel_rfl) (by kernel_rfl) (by kernel_rfl) (by kernel_rfl) (by kernel_rfl) (by kernel_rfl) (by kernel_rfl)
theorem VO:∀w,dc (BH w) Tc Dd:=Gk (by kernel_rfl) (by decide) (by kernel_rfl) (by kernel_rfl) (by kernel_rfl) (by kernel_rfl) (by kernel_rfl) (by kernel_rfl) (by kernel_rfl)
theorem Je:∀w,dc (BH w) wQ n5:=Gk (by kernel_rfl) (by decide) (by kernel_rfl) (by kernel_rfl) (by kernel_rfl) (by kernel_rfl) (by kernel_rfl) (by kernel_rfl) (by kernel_rfl)
theorem Jf:∀w,dc (BH w) wS n6:=Nw (by kernel_rfl) (by decide) (by kernel_rfl) (by kernel_rfl) (by kernel_rfl) (by kernel_rfl) (by kernel_rfl) (by kernel_rfl) (by kernel_rfl)
theorem Dy:∀w,dc (BH w) se j9:=Gk (by kernel_rfl) (by decide) (by kernel_rfl) (by kernel_rfl) (by kernel_rfl) (by kernel_rfl) (by kernel_rfl) (by kernel_rfl) (by kernel_rfl)
theorem Dz:∀w,dc (BH w) sf ke:=Nw (by kernel_rfl) (by decide) (by kernel_rfl) (by kernel_rfl) (by kernel_rfl) (by kernel_rfl) (by kernel_rfl) (by kernel_rfl) (by kernel_rfl)
theorem VV:∀w,dc (BH w) Tf Dh:=fd4 (by kernel_rfl) (by decide) (by kernel_rfl) (by kernel_rfl) (by kernel_rfl) (by kernel_rfl) (by kernel_rfl) (by kernel_rfl) (by kernel_rfl)
theorem VW:∀w,dc (BH w) Th Di:=Gk (by kernel_rfl) (by decide) (by kernel_rfl) (by kernel_rfl) (by kernel_rfl) (by kernel_rfl) (by kernel_rfl) (by kernel_rfl) (by kernel_rfl)
theorem Na:∀w,dc (BH w) uM q8:=Gk (by kernel_rfl) (by decide) (by kernel_rfl) (by kernel_rfl) (by kernel_rfl) (by kernel_rfl) (by kernel_rfl) (by kernel_rfl) (by kernel_rfl)
noncomputable def JD:Option (Option Value)->Bool
 |some none=>true
 |_=>false
theorem JC(h:JD x=true):x=some none:=by
 cases x with
 |none=>cases h
 |some y=>cases y with
  |none=>rfl
  |some _=>cases h
theorem Av:(λw=>(plainGet (KH w) 743 "",hasDictIn (KH w) 743,findIn (KH w) (.ref 743) "__setattr__",plainOver (KH w) 743,aI.all λx=>JD (findIn (KH w) (.ref 743) x)))=λ_=>(true,true,some (some (.builtin "object.__setattr__")),true,true):=by kernel_rfl
theorem Gh:(λw=>(plainGet (KH w) 608 "",hasDictIn (KH w) 608,findIn (KH w) (.ref 608) "__setattr__",plainOver (KH w) 608,aI.all λx=>JD (findIn (KH w) (.ref 608) x)))=λ_=>(true,true,some (some (.builtin "object.__setattr__")),true,true):=by kernel_rfl
theorem hp5{α β γ δ ε:Type}{a a':α}{b b':β}{c c':γ}{d d':δ}{e e':ε}(h:(a,b,c,d,e)=(a',b',c',d',e')):a=a'/\b=b'/\c=c'/\d=d'/\e=e':=by simpa only[Prod.mk.injEq] using h
theorem yu{w:World}{C:Addr}(h:(plainGet (KH w) C "",hasDictIn (KH w) C,findIn (KH w) (.ref C) "__setattr__",plainOver (KH w) C,aI.all λx=>JD (findIn (KH w) (.ref C) x))=(true,true,some (some (.builtin "object.__setattr__")),true,true)):NL (KH w) C:=by obtain⟨a,b,c,d,e⟩:=hp5 h;exact⟨λ_=>a,b,c,d,λx hx=>JC (List.all_eq_true.mp e x hx)⟩
theorem KJ(w:World):m5 (BH w) (KH w):=⟨zk w,λC h=>by
 rcases h with rfl | rfl
 ·exact yu (q1j Av w)
 ·exact yu (q1j Gh w)⟩
theorem hk3:(λw=>(makesIn (KH w) 743,findIn (KH w) (.ref 743) "__init__",typeIn (KH w) (.ref F5)))=λ_=>(true,some (some (.ref F5)),some (.type "function")):=by kernel_rfl
theorem Z4{α β γ:Type}{a a':α}{b b':β}{c c':γ}(h:(a,b,c)=(a',b',c')):a=a'/\b=b'/\c=c':=by simpa only[Prod.mk.injEq] using h
noncomputable def QG:List (Str×Addr×Addr):=[("get_token",aZ,L2),("read_token",aZ,LY),("read",aL,YY),("_StringIO__check",aL,L3),("_StringIO__translated",aL,LX)]
theorem hk4:(λw=>QG.map λe=>(plainGet (KH w) e.2.1 e.1,findIn (KH w) (.ref e.2.1) e.1,isFn (KH w) (.ref e.2.2),decide (e.1∈aI)))=λ_=>QG.map λe=>(true,some (some (.ref e.2.2)),true,false):=by kernel_rfl
theorem hk5:(λw=>(plainGet (KH w) 743 "",hasDictIn (KH w) 743,findIn (KH w) (.ref 743) "punctuation_chars",specialIn (KH w) (.ref 675) "__get__",(takesIn (KH w) (.ref 675),recIn (KH w) 675 "property")))=λ_=>(true,true,some (some (.ref 675)),some (some (.builtin "property.__get__")),(some true,some (.ref LZ::[.none,.none,.none,.str "punctuation_chars" 1073,.bool false]))):=by kernel_rfl
theorem hk6:(λw=>((BH w).isNs mainGlobals,(BH w).isNs builtinsNs,(BH w).isNs cStatics,(BH w).nsMap cStatics "sys.recursionlimit"))=λ_=>(true,true,true,none):=by kernel_rfl
noncomputable def Up(w:World)(x:Str):Option Value:=match (BH w).nsMap mainGlobals x with
 |some v=>some v
 |none=>(BH w).nsMap builtinsNs x
def Rf:List (Str×Value):=(TT 0).glb
theorem hk7:(λw=>Rf.map λe=>(Up w e.1,jJ e.2,e.1==("__debug__" : Str)))=λ_=>Rf.map λe=>(some e.2,true,false):=by kernel_rfl
theorem hk8:(λw=>((BH w).get? bw,(BH w).nsMap mainGlobals "__builtins__",(BH w).get? 4))=λ_=>(none,some (.ref 4),some ⟨.type "module",some 0,.plain,#[]⟩):=by kernel_rfl
theorem wj(w:World):(BH w).NoLimit:=by have h:=q1j hk6 w;simp only[Prod.mk.injEq] at h;exact⟨_,.of_isNs h.2.2.1,h.2.2.2⟩
theorem Rh(w:World):jn (BH w):=by have h:=q1j hk6 w;have g:=q1j hk8 w;simp only[Prod.mk.injEq] at h g;exact⟨g.1,⟨_,4,_,.of_isNs h.1,g.2.1,by decide,g.2.2,rfl,rfl,rfl⟩,wj w⟩
theorem ou{α β:Type}[BEq α][LawfulBEq α]{l:List (α×β)}{x:α}{v:β}(h:l.lookup x=some v):(x,v)∈l:=by
 induction l with
 |nil=>cases h
 |cons e l ih=>
  rw[List.lookup_cons] at h;cases q:x==e.1 with
  |true=>rw[q] at h;obtain rfl:=q0a h;rw[q1v.mp q];exact q0g
  |false=>rw[q] at h;exact q0k _ (ih h)
theorem Re(w:World){x:Str}{v:Value}(h:Rf.lookup x=some v):Gl (BH w) x v/\jJ v=true/\(x==("__debug__" : Str))=false:=by
 have hm:=ou h;have g:=List.map_inj_left.mp (q1j hk7 w) _ hm;have q:=q1j hk6 w;simp only[Prod.mk.injEq] at g q;refine⟨⟨_,_,.of_isNs q.1,.of_isNs q.2.1,?_⟩,g.2.1,g.2.2⟩;have e:=g.1;unfold Up at e;cases z:(BH w).nsMap mainGlobals x with
 |some u=>rw[z] at e;exact .inl e
 |none=>rw[z] at e;exact .inr ⟨rfl,e⟩
theorem QF(w:World){x:Str}{C f:Addr}(h:QG.lookup x=some (C,f)):wW (KH w) C x f/\x∉aI:=by have hm:=ou h;have g:=List.map_inj_left.mp (q1j hk4 w) _ hm;simp only[Prod.mk.injEq] at g;exact⟨⟨g.1,g.2.1,g.2.2.1⟩,of_decide_eq_false g.2.2.2⟩
theorem aP{P:Addr×aQ->Prop}{a:Addr×aQ}{l:List (Addr×aQ)}(h:P a)(t:∀p∈l,P p):∀p∈a::l,P p:=q2p.mpr ⟨h,t⟩
theorem JV(w:World)(L:Nat):∀p∈(TT L).fns,(λp:Addr×aQ=>dc (BH w) p.1 p.2) p:=aP (VM w) (aP (VZ w) (aP (VY w) (aP (VT w) (aP (VS w) (aP (VK w) (aP (VX w) (aP (Zz w) (aP (VN w) (aP (VQ w) (aP (VU w) (aP (VL w) (aP (VP w) (aP (QB w) (aP (VO w) (aP (Je w) (aP (Jf w) (aP (Dy w) (aP (Dz w) (aP (VV w) (aP (VW w) (aP (Na w) (λ_ h=>q1t h q2c))))))))))))))))))))))
theorem Rj(w:World){L:Nat}{f:Addr}{r:aQ}(h:(TT L).fns.lookup f=some r):dc (BH w) f r:=JV w L (f,r) (ou h)
theorem qR(w:World)(L:Nat):cZ (BH w) (KH w) (TT L):=by
 refine⟨KJ w,wj w,λx v h=>Re w h,λf r h=>Rj w h,λC f h=>?_,λx C f h=>QF w h,λx C f h=>?_⟩
 ·have hm:=ou h
  simp only[TT,List.mem_cons,q2c,or_false,Prod.mk.injEq] at hm;obtain⟨rfl,rfl⟩:=hm;obtain⟨a,b,c⟩:=Z4 (q1j hk3 w);exact⟨⟨a,b,c⟩,by decide⟩
 ·have hm:=ou h
  simp only[TT,List.mem_cons,q2c,or_false,Prod.mk.injEq] at hm;obtain⟨rfl,rfl,rfl⟩:=hm;obtain⟨a,b,c,d,e⟩:=hp5 (q1j hk5 w);have e1:=(q0v e).1;have e2:=(q0v e).2;exact⟨a,b,675,c,d,e1,_,e2⟩
theorem TP:(λw:World=>(ly w.params L1).map (·.data))=λw=>some (.func gX.fd):=by kernel_rfl
theorem TN:(λw:World=>mA w.params gX.fd.code)=λw=>some (true,gX.fd.qualname):=by kernel_rfl
theorem TM:j8 gX=true:=by kernel_rfl
theorem TJ:gX.fd.body=.stmts gX.body:=by kernel_rfl
theorem a0f(w:World):FnOk0 (BH w) L1 gX:=lQ (by decide) (q1j TP w) (q1j TN w) TM (by kernel_rfl) TJ
theorem TQ:(λx y:Value=>bindArgs gX.fd ⟨[x,y],[]⟩)=λx y=>(newTuple [y]>>=λt=>alloc {cls:=.type "dict",data:=.dict #[]}>>=λd=>pure [(("cls" : PySem.Str),x),("args",t),("kwargs",.ref d)]):=by kernel_rfl
theorem ZO:(λ(w:World)(S:Setting)(x y:Value)=>peek (KH w) S (bindArgs mM.fd ⟨[x,y],[]⟩))=λw S x y=>some [(("self" : PySem.Str),x),("initial_value",y),("newline",.str "\n" 710)]:=by kernel_rfl
theorem YE:(λw=>(typeIn (KH w) (.ref aL),readsIn (KH w) aL (.type "type"),findCls (KH w) (.ref aL) (.type "type") (PySem.Str.ofString "__new__")))=λ_=>(some (.type "type"),true,some (.get (.builtin "staticmethod.__get__") (.ref 105) .none (.ref aL))):=by kernel_rfl
theorem Tt:(λw=>(recIn (KH w) 105 "staticmethod",findIn (KH w) (.ref aL) "__init__",typeIn (KH w) (.ref wR)))=λ_=>(some [.ref L1],some (some (.ref wR)),some (.type "function")):=by kernel_rfl
theorem hn0:(λw:World=>(ly w.params aL).map λo=>match o.data with | .cls cd=>(cd.abstract,cd.hasDel,cd.mro.isEmpty) | _=>(true,true,true))=λ_=>some (false,false,false):=by kernel_rfl
theorem hn1:(λw:World=>peek (KH w) ⟨br,w.params⟩ (Bind.staticBase (.ref aL)))=λ_=>some (.type "object"):=by kernel_rfl
theorem hn2:(λw:World=>peek (KH w) ⟨br,w.params⟩ (Bind.madeBy (.type "object")))=λ_=>some (some "object.__new__"):=by kernel_rfl
theorem hn3:(λw:World=>peek (KH w) ⟨br,w.params⟩ (Bind.madeBy (.ref aL)))=λ_=>some none:=by kernel_rfl
theorem hn4:(λw:World=>peek (KH w) ⟨br,w.params⟩ (isSubtype (.ref aL) (.ref aL)))=λ_=>some true:=by kernel_rfl
theorem hn5:(λw:World=>peek (KH w) ⟨br,w.params⟩ (isSubtype (.ref aL) (.type "object")))=λ_=>some true:=by kernel_rfl
theorem hn6:(λw:World=>peek (KH w) ⟨br,w.params⟩ (specialOf (.ref aL) "__call__"))=λ_=>some (some (.builtin "type.__call__")):=by kernel_rfl
theorem hn7:(λw:World=>peek (KH w) ⟨br,w.params⟩ (isInstance (.ref aL) (.type "type")))=λ_=>some true:=by kernel_rfl
theorem hn8:(λw:World=>peek (KH w) ⟨br,w.params⟩ (checkBuiltinCall "object.__new__" ⟨[.ref aL],[]⟩))=λ_=>some ():=by kernel_rfl
theorem hn9:(λw:World=>peek (KH w) ⟨br,w.params⟩ (isType (.ref aL)))=λ_=>some true:=by kernel_rfl
theorem Z7:(λw:World=>peek (KH w) ⟨br,w.params⟩ (Bind.madeHere "object.__new__" (.ref aL)))=λ_=>some ():=by kernel_rfl
theorem DB(w:World)(h:Heap)(st:i4 (BH w) h):qI (model br w) h aL:=by
 have X:(KH w).In h:=λa o e=>st a o (zk w a o e);refine⟨?_,.of_peek X (q1j hn8 w),.of_peek X (q1j hn9 w),.of_peek X (q1j Z7 w),.of_peek X (q1j hn1 w),.of_peek X (q1j hn2 w),.of_peek X (q1j hn3 w),.of_peek X (q1j hn4 w),.of_peek X (q1j hn5 w),.of_peek X (q1j hn6 w),.of_peek X (q1j hn7 w)⟩;obtain⟨⟨oc,od,dt,sl⟩,ho,hd⟩:=q0z.mp (q1j hn0 w);dsimp only at hd;have hh:=st _ _ (uT w ho (by decide));cases dt with
 |cls cd=>
  simp only[Prod.mk.injEq] at hd;exact⟨oc,od,cd,sl,hh,hd.1,hd.2.1,hd.2.2⟩
 |_=>cases hd
abbrev KX(w:World):Kx:=⟨br,w,BH w⟩
theorem N6(w:World)(rI:aQ)(h:(TT 0).fns.lookup wR=some rI):mE (KX w) (KH w) (SS gX) rI:=by
 have e:(TT 0).fns.lookup wR=some mM:=by kernel_rfl
 rw[e] at h;obtain rfl:=q0a h;obtain⟨a1,a2,a3⟩:=Z4 (q1j YE w);obtain⟨b1,b2,b3⟩:=Z4 (q1j Tt w);exact⟨DB w,a0f w,λx y=>q1j (q1j TQ x) y,by decide +kernel,λs st x y=>⟨710,kp_binds (K:=KH w) (λa o e=>st a o (zk w a o e)) λS=>q1j (q1j (q1j (q1j ZO w) S) x) y⟩,by decide +kernel,a1,a2,⟨105,[],a3,b1⟩,b2,b3⟩
theorem Y4(w:World)(L:Nat):XOk (KX w) (Ej (TT L) (SS gX)):=Ei (Kx:=KX w) (qR w L) (Rh w) (λrI h=>N6 w rI h) (DB w)
theorem W4(w:World)(L n:Nat):Good (KX w) (EE L n):=yD (K:=KX w) (qR w L) (Y4 w L) (Eh (Kx:=KX w) (qR w L)) n
noncomputable def v59:Array Value:=#[(.str "add_callers" 314),(.str "add_callers" 315),(.str "/claim/cut.py" 316),(.int 19 0),(.int 2 0),(.int 0 0),(.int 0 0),(.int 3 0),(.ref 54),(.bool true),(.int 273 0),(.ref 55),.none,(.ref 56),(.ref 57),(.ref 58),(.int 322 0),(.int 19 0),(.str "/claim/cut.py" 323)]
theorem Tr:(λw:World=>(((zy w.params).get 59).bind alive,((zy w.params).get 55).bind alive))=λw=>(some ⟨.type "code",none,.fields v59,#[]⟩,some ⟨.none,none,.fields #[],#[]⟩):=by kernel_rfl
theorem Ee:(λw:World=>iX.map λa=>(ly w.params a).map (·.cls))=λ_=>iX.map λ_=>some (.type "type"):=by kernel_rfl
theorem qQ(w:World)(h:((zy w.params).get a).bind alive=some o)(ha:a<810):(eJ w).get? a=some o:=by obtain⟨u,h1,h2⟩:=q1a.mp h;unfold eJ;rw[abs_get ha h1];exact h2
def Bk(w:World)(h:Heap):Prop:=∀a o,(eJ w).get? a=some o->h.get? a=some o
theorem Fx(w:World):i4 (BH w) (eJ w):=λa o h=>by
 have ha:a<810:=by have:=q0s h;unfold BH at this;rwa[absHeap_size] at this
 unfold BH Fy at h;cases q:(zy w.params).get a with
 |none=>
  have e:((zy w.params).set 55 λo=>{o with data:=.freed}).get a=none:=by
   rw[BT.get_set];by_cases Rc:a=55
   ·rw[q1k Rc,<-Rc,q];rfl
   ·rw[q1l Rc];exact q
  unfold Heap.get? at h;rw[absHeap_at,q1k ha,e] at h;unfold eJ Heap.get?;rw[absHeap_at,q1k ha,q];exact h
 |some u=>
  by_cases Rc:a=55
  ·have e:((zy w.params).set 55 λo=>{o with data:=.freed}).get a=some {u with data:=.freed}:=by rw[BT.get_set,q1k Rc,<-Rc,q];rfl
   rw[abs_get ha e] at h;cases h
  ·have e:((zy w.params).set 55 λo=>{o with data:=.freed}).get a=some u:=by rw[BT.get_set,q1l Rc];exact q
   rw[abs_get ha e] at h;unfold eJ;rw[abs_get ha q];exact h
theorem N3(w:World)(X:Bk w h):fj h:=by have z:=q1j Tr w;have a:=X _ _ (qQ w (q0v z).1 (by decide));have b:=X _ _ (qQ w (q0v z).2 (by decide));exact⟨#[],⟨_,_,_,_,_,_,_,_,_,_,a,rfl,rfl,rfl,rfl,rfl,rfl,b,rfl,by first | trivial | exact TriplesOk.nil | (unfold TriplesOk;simp),by decide⟩,⟨_,_,a,rfl,rfl,rfl⟩,b⟩
theorem bok(w:World):BOk (BH w):=λa ha=>by
 have z:(ly w.params a).map (·.cls)=some (.type "type"):=List.map_inj_left.mp (q1j Ee w) a ha;obtain⟨o,q,e⟩:=q0z.mp z;have lt:∀a∈iX,a<810:=by decide
 exact⟨o,uT w q (lt a ha),by rw[e];decide⟩
theorem ZQ:(λw:World=>((((zy w.params).get 809).bind alive).map λo=>match o.cls with | .type s=>s | _=>""))=λ_=>some "function" :=by kernel_rfl
theorem ZR(w:World):∃o,(eJ w).get? 809=some o/\o.cls≠.type "list" :=by obtain⟨o,h,e⟩:=q0z.mp (q1j ZQ w);exact⟨o,qQ w h (by decide),λh=>by rw[h] at e;exact q1t e (by decide)⟩
theorem ZS:(λw:World=>(((zy w.params).get 809).bind alive).isSome)=λ_=>true:=by kernel_rfl
theorem hz3(w:World):∃o,(eJ w).get? 809=some o:=by obtain⟨o,h⟩:=Option.isSome_iff_exists.mp (q1j ZS w);exact⟨o,qQ w h (by decide)⟩
theorem nf:q8.params=[("script" : Str)]:=by kernel_rfl
theorem own_one(h:dJ z [(la,la)] a):a=la:=by
 obtain⟨n,p,_,h2,h3⟩:=h;cases n with
 |zero=>obtain rfl:=q0a h2;rcases h3 with h |h<;>exact h
 |succ n=>cases h2
theorem sI(w:World)(X:Bk w h):810<=h.objs.size:=by obtain⟨o,z⟩:=hz3 w;exact Nat.succ_le_of_lt (q0s (X _ _ z))
theorem CV(e:fV r mb vs H=some (v,H')):∃fl σ,mb ⟨H,lF r (r.params.zip vs)⟩=some (fl,σ)/\v=dX fl/\H'=σ.H:=by
 unfold fV at e;by_cases h:vs.length=r.params.length
 ·rw[q1k h] at e
  cases q:mb ⟨H,lF r (r.params.zip vs)⟩ with
  |none=>rw[q] at e;exact cE e
  |some c=>
   rw[q] at e;obtain⟨h1,h2⟩:=q0v (q0a e);exact⟨c.1,c.2,rfl,h1.symm,h2.symm⟩
 ·rw[q1l h] at e;exact cE e
theorem LU{K:Kx}(r:OR K ρ h (.arg ob) a d):h.get? a=some ob:=by
 cases r with
 |arg x _=>exact x
theorem Jy(w:World){s:Shared}{la:Addr}{ob:Obj}{xs:List Int}(X:Bk w s.heap)(hg:s.gens=#[])(hl:810<=la)(ha:s.heap.get? la=some ob)(ho:Gc ob)(hx:pL ob=xs.map V.int)(hn:xs.length<=100):codeAny (model br w) callerA (.call (.ref uM) ⟨[.ref la],[]⟩) (cD λy s'=>y=.bool true/\OldK s.heap s'.heap/\s'.os=s.os/\AllBare s'.gens) s:=by
 have sz:(BH w).objs.size=810:=absHeap_size _ _ _;have st:i4 (BH w) s.heap:=λa o h=>X a o (Fx w a o h);have R:HR (KX w) [(la,la)] [.arg ob] s.heap:=by
  refine⟨rfl,λn o p h1 h2=>?_,λi j p q h1 h2 WA=>?_,λn p h=>?_,st,by rw[sz];exact sI w X,by rw[sz];exact q0c _⟩
  ·cases n with
   |zero=>obtain rfl:=q0a h1;obtain rfl:=q0a h2;exact .arg ha ho
   |succ n=>cases h1
  ·cases i with
   |zero=>cases j with
    |zero=>exact q1t rfl WA
    |succ j=>cases h2
   |succ i=>cases h1
  ·cases n with
   |zero=>obtain rfl:=q0a h;rw[sz];exact⟨hl,hl⟩
   |succ n=>cases h
 obtain⟨H',e,hk⟩:=DQ (L:=2001) (n:=0) (k:=0) (sc:=0) (H:=[.arg ob]) (xs:=xs) (by decide) rfl hx hn;unfold Fo bc at e;obtain⟨fl,σ,hm,hv,rfl⟩:=CV e;have T:=N3 w X;have OK:=Na w;have bd:=OK.bind s st [.ref la] (by rw[nf];rfl);have c:=qC (K:=KX w) (A':=callerA) (f:=uM) (r:=q8) (k:=6) (bs:=q8.params.zip [.ref 0]) (binds:=q8.params.zip [.ref la]) (xs:=[.ref la]) (s:=s) (s₀:=s) (ρ:=[(la,la)]) (H:=[.arg ob]) (by rw[sz];decide) (by rw[sz];decide) (bok w) st R T (by rw[hg];exact .empty) OK.toFnOk0 (wj w) ⟨rfl,by decide +kernel,by decide +kernel⟩
  (λQ E h=>bd _ _ E Q h) (by rw[nf];exact .cons (.ref (d:=la) rfl) .nil) (by rw[nf];decide) (λx hx=>OK.par x (by rw[nf] at hx ⊢;exact hx)) (λF h1 h2=>h2▸(W4 w 2001 44).b F h1 _) hm
 refine cD.use c λy s' g=>?_;obtain⟨ρ₂,q⟩:=g;have vr:=q.vr;rw[<-hv] at vr;obtain rfl:y=.bool true:=vr.bool_inv;have p0:ρ₂[0]?=some (la,la):=q.pre 0 _ rfl;have g1:s'.heap.get? la=some ob:=LU (q.hr.obj 0 _ _ hk p0);have keep:∀b o,s.heap.get? b=some o->asItWas s.heap s'.heap b o/\∃o',s'.heap.get? b=some o':=λb o e=>by
  by_cases h1:b=bw
  ·subst h1
   obtain⟨ps,_,t⟩:=T;have e2:=t.2;rw[e] at e2;obtain rfl:=q0a e2;obtain⟨more,g2⟩:=q.zA _ e;exact⟨.inr (.inl ⟨t.isCodeTable,rfl,_,more,rfl,g2⟩),_,g2⟩
  ·by_cases h2:b=la
   ·subst h2
    rw[ha] at e;obtain rfl:=q0a e;exact⟨.inl g1,_,g1⟩
   ·have:=q.key b o (λh=>h2 (own_one h)) h1 e
    exact⟨.inl this,_,this⟩
 show _/\_;exact⟨rfl,⟨λb o e=>(keep b o e).1,λb o e=>(keep b o e).2⟩,q.os,q.bare⟩
theorem dh1:(defOf qL "law").isSome=true:=by kernel_rfl
theorem dh2:(defOf qL "law").map (λx=>(x.1.params,x.1.body,x.1.scope))=br.theDef "law" :=by kernel_rfl
theorem dh3:(defOf qL "law").bind (λx=>kwWritten? x.1.params.kwonlyargs x.1.params.kw_defaults)=(defOf qL "law").map (·.2):=by kernel_rfl
theorem dh4:(chainsOk qL&&opensWell br&&(PySem.W.frees RL.row.toRowW&&RL.row.within.isEmpty))=true:=by kernel_rfl
theorem dh5:(λw:World=>((eJ w).isNs mainGlobals,(eJ w).nsMap mainGlobals "law"))=λ_=>(true,some (.ref uM)):=by kernel_rfl
theorem dh6:RL.row.toRowW.promised:=⟨[.list []],by decide +kernel,by decide +kernel⟩
theorem dh7:br.bare:=⟨rfl,rfl,rfl,rfl,rfl,by decide +kernel⟩
theorem Ja(w:World)(X:Bk w h)(g:h.Ns mainGlobals mg):mg "law" = some (.ref uM):=by have e:=q1j dh5 w;have n:=(Heap.Ns.of_isNs (q0v e).1).keeps X;obtain⟨o,es,ep,a1,a2,_,a3⟩:=g;obtain⟨o',uY,ep',b1,b2,_,b3⟩:=n;rw[a1] at b1;obtain rfl:=q0a b1;rw[a2] at b2;obtain⟨rfl,rfl⟩:=Data.dict.inj b2;rw[<-a3,b3];exact(q0v e).2
theorem Bs(h:WShape.has R d (.list .int)=true):∃ds,d=.list ds/\WShape.hasItems R ds .int=true:=by
 cases d
 case list ds=>exact⟨ds,rfl,(Bool.or_false _).symm.trans h⟩
 all_goals exact Bool.noConfusion (show false=true from h)
theorem QV(h:WShape.has R d .int=true):∃i,d=.int i:=by
 cases d
 case int i=>exact⟨i,rfl⟩
 all_goals exact Bool.noConfusion (show false=true from h)
theorem zd:∀{ds:List WData},WShape.hasItems R ds .int=true->∃xs:List Int,ds=xs.map WData.int
 |[],_=>⟨[],rfl⟩
 |d::ds,h=>by
  unfold WShape.hasItems at h;obtain⟨a,b⟩:=Bool.and_eq_true_iff.mp h;obtain⟨i,rfl⟩:=QV a;obtain⟨xs,rfl⟩:=zd b;exact⟨i::xs,rfl⟩
def Wm(R:WRecords)(cl:Str->Option Addr)(h:Heap)(v:Value)(d:WData)(as:List Addr):Prop:=match d with
 |.int i=>∃t,v=.int i t
 |.list xs=>∃a o vs n bs,v=.ref a/\as=a::bs/\h.get? a=some o/\o.cls=.type "list" /\ o.data=.seq vs n/\ReadsAllW R cl h vs.toList xs bs
 |_=>True
theorem yk(r:ReadsW R cl h v d as):Wm R cl h v d as:=by
 refine ReadsW.casesOn (motive_1:=λv d as _=>Wm R cl h v d as) r ?_ ?_ ?_ ?_ ?_ ?_ ?_ ?_ ?_ ?_ ?_ ?_ ?_<;>intros
 any_goals exact trivial
 ·exact⟨_,rfl⟩
 ·exact⟨_,_,_,_,_,rfl,rfl,‹_›,‹_›,‹_›,‹_›⟩
def ZL(R:WRecords)(cl:Str->Option Addr)(h:Heap)(vs:List Value)(ds:List WData)(as:List Addr):Prop:=match ds with
 |[]=>vs=[]
 |d::ds=>∃v ws bs cs,vs=v::ws/\ReadsW R cl h v d bs/\ReadsAllW R cl h ws ds cs
theorem ny(r:ReadsAllW R cl h vs ds as):ZL R cl h vs ds as:=by
 cases r with
 |nil=>exact rfl
 |cons r1 r2=>exact⟨_,_,_,_,rfl,r1,r2⟩
theorem vN{R:WRecords}{cl:Str->Option Addr}{h:Heap}{xs:List Int}:∀{vs:List Value}{as:List Addr},ReadsAllW R cl h vs (xs.map WData.int) as->(∀x∈vs,∃i t,x=.int i t)/\vs.map YX=xs.map V.int:=by
 induction xs with
 |nil=>
  intro vs as r;have e:vs=[]:=ny r;rw[e];exact⟨λ_ h=>q1t h q2c,rfl⟩
 |cons i xs ih=>
  intro vs as r;obtain⟨v,ws,bs,cs,e,r1,r2⟩:=ny r;obtain⟨t,e1⟩:=yk r1;obtain⟨a,b⟩:=ih r2;rw[e,e1];refine⟨λx hx=>?_,q1s (V.int i :: ·) b⟩;rcases q0m.mp hx with hx | hx
  ·exact⟨_,_,hx⟩
  ·exact a x hx
theorem z0{R:WRecords}{cl:Str->Option Addr}{h:Heap}{xs:List Int}{vs:List Value}{as:List Addr}(r:ReadsAllW R cl h vs [.list (xs.map WData.int)] as):∃la o items n,vs=[.ref la]/\h.get? la=some o/\o.cls=.type "list" /\ o.data=.seq items n/\(∀x∈items.toList,∃i t,x=.int i t)/\items.toList.map YX=xs.map V.int:=by obtain⟨v,ws,bs,cs,e,r1,r2⟩:=ny r;obtain⟨a,o,us,n,ds,e1,_,h1,h2,h3,h4⟩:=yk r1;have e2:ws=[]:=ny r2;exact⟨a,o,us,n,by rw[e,e1,e2],h1,h2,h3,vN h4⟩
theorem tV:∀{xs:List Int}{s:Shared}{vs:List Value}{s':Shared},layAllW R cl P ord (xs.map WData.int) s=some (vs,s')->s'.heap=s.heap
 |[],s,vs,s',h=>by
  rw[List.map_nil,layAllW] at h;rw[(q0v (q0a h)).2]
 |i::xs,s,vs,s',h=>by
  rw[q1p,layAllW,layW] at h;dsimp only at h;cases e:layAllW R cl P ord (xs.map WData.int) {s with toks:=s.toks+1} with
  |none=>rw[e] at h;cases h
  |some r=>
   rw[e] at h;rw[<-(q0v (q0a h)).2];exact tV (xs:=xs) (s:={s with toks:=s.toks+1}) (vs:=r.1) (s':=r.2) e
theorem I3:(λxs:List Int=>RL.row.pre.holds [] {args:=[.list (xs.map WData.int)]})=λxs=>WTm.holds [] (.and (.lit (.bool (!(decide ((63:Int)<((xs.map WData.int).length:Int)))))) (.lit (.bool true))) {args:=[.list (xs.map WData.int)]}:=by kernel_rfl
theorem Qw:(λxs:List Int=>WTm.holds [] (.and (.lit (.bool (!true))) (.lit (.bool true))) {args:=[.list (xs.map WData.int)]})=λ_=>false:=by kernel_rfl
theorem post_eq:(λxs:List Int=>RL.row.toRowW.claim.post [.list (xs.map WData.int)] (.bool true) [.list (xs.map WData.int)])=λ_=>true:=by kernel_rfl
theorem IZ{xs:List Int}(h:RL.row.pre.holds [] {args:=[.list (xs.map WData.int)]}=true):xs.length<=100:=by
 have h:=(q1j I3 xs).symm.trans h;rw[q0w] at h;by_cases q:(63:Int)<(xs.length:Int)
 ·rw[q1w q] at h;exact q1t ((q1j Qw xs).symm.trans h) q0f
 ·lia
theorem Kq(w:World)(s₀ s₁:Shared)(mg mb:Str->Option Value)(G:Ground qL g8 RL.row.toRowW.records (λ_ _=>True) w s₀ mg mb s₁.heap)(X:Bk w s₁.heap)(args:List WData)(vs:List Value)(as:List Addr)(pre:RL.row.toRowW.claim.pre args=true)(L:Laid RL.row.toRowW.records w s₀ s₁ args vs as):∃f,mg RL.row.toRowW.name=some f/\wpAny (model RL.row.toRowW.prog w) callerA (PySem.call f vs) (λv s'=>GoodWG RL.row.toRowW.claim (classAt s₀.heap) (ExcName.means s₀.heap) args s₁ (.ok (.ret v)) s') (λe s'=>GoodWG RL.row.toRowW.claim (classAt s₀.heap) (ExcName.means s₀.heap) args s₁ (.error e) s') s₁:=by
 refine cps λPq kq=>?_;obtain⟨h1,h2⟩:=pre_splitW pre;have TC:WShape.hasAll [] args [.list .int] = true:=h1;obtain⟨d,r,rfl,h3,h4⟩:=hasAllW_cons TC;obtain rfl:r=[]:=by cases r with
  |nil=>rfl
  |cons _ _=>cases h4
 obtain⟨ds,rfl,h5⟩:=Bs h3;obtain⟨xs,rfl⟩:=zd h5;have hn:=IZ h2;obtain⟨⟨ord,_,hl⟩,hr,_,_,keeps,hg,_⟩:=L;obtain⟨la,o,items,n,rfl,ha,hc,hd,a1,a2⟩:=z0 hr;have ho:Gc o:=⟨hc,items,n,hd,a1⟩
 have hx:pL o=xs.map V.int:=by unfold pL;rw[hd];exact a2
 have sz:s₁.heap.objs.size=s₀.heap.objs.size+1/\la=s₀.heap.objs.size:=by
  rw[layAllW,layW] at hl;dsimp only at hl;cases e:layAllW RL.row.toRowW.records (classAt s₀.heap) w.params ord (xs.map WData.int) s₀ with
  |none=>rw[e] at hl;cases hl
  |some q=>
   rw[e] at hl;dsimp only at hl;rw[layAllW] at hl;have hh:=tV (vs:=q.1) (s':=q.2) e;obtain⟨g1,g2⟩:=q0v (q0a hl);rw[<-g2];obtain⟨g3,_⟩:=List.cons.inj g1;refine⟨by show(q.2.heap.push _).objs.size=_;rw[Heap.size_push,hh],?_⟩;rw[hh] at g3;exact(Value.ref.inj g3).symm
 have a0T:=sI w X;have hla:810<=la:=by
  rcases Nat.lt_or_ge la 810 with q | q
  ·exfalso
   have z:(809:Nat)<=la:=by rw[sz.2];lia
   obtain rfl:la=809:=Nat.le_antisymm (Nat.le_of_lt_succ q) z;obtain⟨o',z1,z2⟩:=ZR w;rw[X _ _ z1] at ha;obtain rfl:=q0a ha;exact z2 hc
  ·exact q
 refine kq ⟨.ref uM,Ja w X G.T.g,wpAny_call (cD.use (Jy w X hg hla ha ho hx hn) λy s' g=>?_)⟩;obtain⟨e,old,os,bare⟩:=g;subst e;exact⟨.inl ⟨.bool true,.bool true,[],rfl,λ_=>rfl,.bool true,q1j post_eq xs,λ_=>⟨List.nodup_nil,λ_ h=>q1t h q2c⟩⟩,old,os,bare⟩
theorem Qu(Zp:RL.row.wellSaid=true):RL.row.Holds:=by
 refine⟨Zp,dh6,open_anyG (r:=RL.row.toRowW) (run:=λf vs=>PySem.call f vs) (tree:=λvs=>do match <-nsGet mainNs RL.row.name with
  |some f=>do ret (<-PySem.call f vs)
  |none=>unsupported "claim.caller:no-such-global") (q:=qL) (loose:=g8) (XP:=λ_ _=>True) (YP:=Bk) Wi (λw s e=>(by rw[show s.heap=eJ w from e];exact λ_ _ h=>h)) (λw h h' X k a o e=>k a o (X a o e)) (λ_ _=>trivial) (λ_ _ _ _ _=>trivial) (λ_ _=>recFacts_of rfl) rfl dh4 dh7 dh6
  (λvs w s mg f Q E hg hf h=>q1f (wpAny_nsGet hg (by rw[hf];exact q1f (q1h h (λ_ _ x=>q1e x) λ_ _ x=>x)))) (λw s hg G n hn=>?_) λw s₀ s₁ mg mb G X args vs as pre _ L _=>Kq w s₀ s₁ mg mb G X args vs as pre L⟩
 obtain⟨⟨d,kwd⟩,WH⟩:=Option.isSome_iff_exists.mp dh1;obtain rfl:n="law" :=by have:n∈[("law" : Str)]:=hn;exact q2e.mp this
 have e2:=dh2;have e3:=dh3;rw[WH] at e2 e3;exact pinned_of_view hg G WH e2.symm e3
theorem S8:RL.Holds:=holds_law Y5 Qu
end Mine.Internal
end
theorem PySem.Challenge.cw_nq0206_01_holds : PySem.Challenge.rw_nq0206_01.Holds := by
 exact Mine.Internal.S8
