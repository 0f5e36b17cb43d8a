import PyProof.Rows.All
import Wide.FinOn
import OpenK.ZGo
import KE.KSuperObj
import Lean
import PySem.Challenge.RW_io0005_01
open PySem PySem.W PyProof.Rows PySem.Calls PySem.W.X
set_option Elab.async false
set_option linter.all false
set_option maxRecDepth 100000
set_option maxHeartbeats 8000000
set_option genInjectivity false
set_option genSizeOf false
set_option bootstrap.genMatcherCode false
namespace Mine
open Sem (wp finPost)
open _root_.And renaming right -> Fe, left -> Fv
open _root_.Bool renaming false_ne_true -> Fg, false_eq_true -> Gc, true -> HL
open _root_.Classical renaming em -> FI, byContradiction -> Hw
open _root_.Int renaming toNat_natCast -> F2, fmod_eq_emod_of_nonneg -> GL, min_eq_right -> Hr, max_eq_right -> H5
open _root_.List renaming mem_cons_self -> EZ, mem_cons_of_mem -> E2, getElem?_eq_some_iff -> E8, mem_map_of_mem -> Fa, length_cons -> Fb, map_append -> Fd, getElem?_eq_getElem -> Ff, mem_cons -> Fh, getElem?_map -> Fi, mem_map -> Fj, length -> Fl, append_assoc -> Fm, length_map -> Fo, mem_append -> Fr, getElem?_toArray -> Ft, map_cons -> Fu, exists_cons_of_ne_nil -> Fy, mem_of_getElem? -> Fz, perm_append_comm -> FD, mem_append_right -> FF, mem_reverse -> FG, append_nil -> FJ, length_take -> FN, length_append -> FU, replicate -> FV, mem_singleton -> FX, mem_append_left -> F3, mem_iff_getElem -> F6, nodup_cons -> F9, mem_singleton -> Gb, flatten_append -> Gd, mem_map -> Gj, nodup_append -> Gk, mem_reverse -> Gl, mem_filter -> Gm, idxOf_lt_length_of_mem -> Gr, nodup_nil -> Gt, map -> Gv, map_congr_left -> Gx, mem_append -> GB, nodup_cons -> GD, reverse_reverse -> GG, take_length -> GH, filter_cons -> GI, length_eq_zero_iff -> GJ, getD_eq_getElem?_getD -> GK, getElem_take -> GM, flatMap_cons -> GN, nodup_cons -> GO, mem_cons -> GP, map_map -> GS, length_drop -> G7, length_pos_iff -> Hc, length_nil -> Hf, count_pos_iff -> Hk, count_eq_zero -> Hl, append_of_mem -> Hs, drop_eq_getElem_cons -> Hv, nil_append -> Hz, find?_append -> HB, reverse -> HG, flatMap_append -> HJ, range'_succ -> HN, find?_cons_of_neg -> HP, range' -> HU, foldl_cons -> HW, length_replicate -> HX, count_pos_iff -> HY, cons_append -> H4, mem_filter -> Ia, length_reverse -> Ib, mem_iff_getElem -> Is
open _root_.Monad renaming toBind -> HV
open _root_.Nat renaming le_refl -> FM, le_trans -> FZ, zero_le -> Gg, le_of_ble_eq_true -> GU, ble -> GZ
open _root_.Option renaming some -> FC, map_some -> GA, bind_eq_some_iff -> HZ, map_eq_some_iff -> H3
open _root_.PySem renaming wpAny_bind -> E1, wpAny_pure -> E3, DictEntry -> E4, Params -> E6, World -> E7, Value -> E9, Shared -> Fc, wpAny -> Fp, denote -> FK, wpAny_seqItems -> FL, wpAny_dictEntries -> FO, model -> FQ, rawInt -> FT, wpAny_field -> FY, wpCode_iff_wp -> F1, wpAny_setField -> F8, wpAny_newObj_type -> Ge, wpAny_holding -> Gh, wpAny_dictEpoch -> Gi, Fin -> Gn, letOwnedTupleGo -> Gp, sizeLine -> Gu, strKind_is -> Gw, wpAny_standAt -> Gz, wpAny_updateSeq -> GT, wpAny_typeNameOfWhole_itemiter -> GV, wpAny_rule -> GX, wpAny_typeNameOfWhole_valiter -> G9, wpAny_typeNameOfWhole_keyiter -> Ha, execs -> Hb, theTreesLotGoes -> Hd, recursionLimit -> Ht, wpAny_typeNameOf_itemiter -> Hu, wpAny_typeNameOf_valiter -> HD, wpAny_typeNameOf_keyiter -> HE, Result -> HF, loadName -> HI, wpAny_call_entry -> HM, unitsOf -> HR, noteFrame -> HS, newFields -> HT, wpAny_fieldsOf -> H1, markedBehindIn -> H2, wpAny_letGo -> H7, wpAny_fresh -> H8, slicePicked -> H9, execs_cons -> Ip, eval -> Iq
open _root_.PySem.Builtin.Dict renaming showsAll -> Gq, selfAndRest -> Gy, updateFrom -> GE, mergeDict -> Hn, dictSlotNone -> Hy, samePairs -> HQ, noArgs -> Ic
open _root_.PySem.Builtin.Dict_items renaming ownsTuple -> Ga, newIterator -> GW, dictOf -> Hx, ownedTupleFields -> Il
open _root_.PySem.Builtin.Int renaming intBits -> Hg
open _root_.PySem.Builtin.List renaming listItems -> Fw, listSubscript? -> GF, listExtendWith -> Hh
open _root_.PySem.Builtin.Str renaming subAt -> HC, occurrences -> HK
open _root_.PySem.Code renaming isCreation -> HA
open _root_.PySem.Fin renaming done -> GQ
open _root_.PySem.Heap renaming get?_push_of_some -> Hm, lt_size -> Ir
open _root_.PySem.Obj renaming mapSeq -> FH, mapFields -> F7, mapDictKeys -> He
open _root_.PySem.Sem renaming wp_bind' -> E5, wp_mono -> Fs, wp_onRaise -> Gs, wp_holding -> HO
open _root_.PySem.Value renaming ref -> Fq, type -> Fx, none -> FW, int -> Gf, str -> GR
open _root_.PySem.W renaming SharedT -> Hq
open _root_.PySem.W.Fast renaming tw12456147031677567982 -> FS, tw14364793385576792824 -> F4, tw11892475500146522536 -> F5, te14364793385576792824 -> Hi, te11892475500146522536 -> Hj, tw3180786681173009314 -> Ho, tw2956504954644400088 -> Hp, tw15578638425004381011 -> Ie, tw12377390311714414960 -> Ig, tw10795953022449502792 -> Ih, tw10648789137845014744 -> Ii, tw10156331382660048174 -> Ij, te10156331382660048174 -> Ik
open _root_.Std.Legacy.Range renaming forIn_eq_forIn_range' -> GY
local macro_rules (kind:=Lean.Parser.Command.declaration)
 |x=>do
  if x[0].getArgs.all (·.getArgs.isEmpty)&&(x[1].getKind==`Lean.Parser.Command.definition||x[1].getKind==`Lean.Parser.Command.abbrev)&&x[1][1][0].getId !=`rowO then
   return x.setArg 0 (<-`(command|noncomputable def a:=0)).raw[0]
  else Lean.Macro.throwUnsupported
local macro_rules | `(tactic| omega) => `(tactic| first | assumption | decide | exact FZ (by assumption) (by decide) | exact FZ (by assumption) (FZ (by assumption) (by decide)) | exact FZ (Nat.le_of_lt (by assumption)) (FZ (by assumption) (by decide)) | lia | omega +splitDisjunctions)
theorem ws:PySem.Challenge.rw_io0005_01.wellSaid=true:=by kernel_rfl
theorem BW (h:PySem.Challenge.rw_io0005_01.row.wellSaid=true->PySem.Challenge.rw_io0005_01.row.Holds):PySem.Challenge.rw_io0005_01.Holds:=holds_law ws h
abbrev pw:Program:=PySem.Challenge.pw_io0005_01
abbrev pq:Program:=pw
theorem sW:pw=pq:=rfl
def lz (i:Nat):Stmt:=pq.main.body.getD i (.Pass default)
def nE:Expr:= .Name ⟨⟨[]⟩⟩ default
def sP (s:Stmt):Expr×Expr×List Stmt×List Stmt×List ExceptHandler×Pos×List (Str×Arguments×Scope):=match s with
 | .FunctionDef n a b _ _ _ c _ _ p=>(nE,nE,b,[],[],p,[(n,a,c)])
 | .ClassDef _ _ _ b _ _ _ _ _ _ p=>(nE,nE,b,[],[],p,[])
 | .Return v p=>(nE,v.getD nE,[],[],[],p,[])
 | .Assign _ v p=>(nE,v,[],[],[],p,[])
 | .For t v b o p=>(t,v,b,o,[],p,[])
 | .While v b o p=>(nE,v,b,o,[],p,[])
 | .If v b o p=>(nE,v,b,o,[],p,[])
 | .Try b h _ _ p=>(nE,nE,b,[],h,p,[])
 | .Expr v p=>(nE,v,[],[],[],p,[])
 | _=>(nE,nE,[],[],[],default,[])
def eP (e:Expr):Expr×Expr×Pos×Scope×List Comprehension×List Str:=match e with
 | .Compare l _ r p=>(l,r.headD e,p,default,[],[])
 | .BinOp l _ r p=>(l,r,p,default,[],[])
 | .ListComp l g c p=>(l,e,p,c,g,[])
 | .DictComp l r g c p=>(l,r,p,c,g,[])
 | .Call f a _ p=>(f,a.headD e,p,default,[],[])
 | .Name n p=>(e,e,p,default,[],[n])
 | .Attribute o n p=>(o,e,p,default,[],[n])
 | _=>(e,e,default,default,[],[])
def cL (i j:Nat):Stmt:=(sP (lz i)).2.2.1.getD j (.Pass default)
def rq:Nat->Nat->List Nat
 | 0,_=>[]
 | f+1,n=>match GZ n 1 with
  | true=>[]
  | false=>(n %256)::rq f (n/256)
def sn (n:Nat):Str:=⟨⟨rq 200 n⟩⟩
def vs (n:Nat) (t:Tok):E9:= .str (sn n) t
def de (P:E6) (n:Nat) (t:Tok) (v:E9):E4:=⟨PyData.keyHash P (sn n), .str (sn n) t,v⟩
def cj (s:Stmt) (q:Nat) (b:List (Str×Addr)) (dflt k d p code ct:E9):FuncData:=match (sP s).2.2.2.2.2.2 with
 | x::_=>{name:=x.1,qualname:=sn q,params:=x.2.1,body:= .stmts (sP s).2.2.1,scope:=x.2.2,globals:=3,closure:=b,defaults:=dflt,kwdefaults:=k,doc:=d,pyModule:=p,annotations:=none,code:=code,closureTuple:=ct,builtins:=0}
 | []=>default
def o0 (P:E6):Obj:=⟨(.type "dict"),none,(.dict ⟨[de P 0x15f5f656d616e5f5f 1 (vs 0x1736e69746c697562 160),de P 98902597500690271 2 (.builtin "builtins.__doc__:str#opaque"),de P 0x15f5f6567616b6361705f5f 3 (.builtin "builtins.__package__:str#opaque"),de P 0x15f5f726564616f6c5f5f 4 (.builtin "builtins.__loader__:shared#opaque"),de P 0x15f5f636570735f5f 5 (.builtin "builtins.__spec__#opaque"),de P 0x15f5f7373616c635f646c6975625f5f 6 (.builtin "__build_class__"),de P 0x15f5f74726f706d695f5f 7 (.builtin "__import__"),de P 24339041 8 (.builtin "abs"),de P 23882849 9 (.builtin "all"),de P 24735329 10 (.builtin "any"),de P 1552251319137 11 (.builtin "ascii"),de P 24013154 12 (.builtin "bin"),de P 0x1746e696f706b61657262 13 (.builtin "breakpoint"),de P 0x1656c62616c6c6163 14 (.builtin "callable"),de P 24275043 15 (.builtin "chr"),de P 0x1656c69706d6f63 16 (.builtin "compile"),de P 0x1727474616c6564 17 (.builtin "delattr"),de P 24275300 18 (.builtin "dir"),de P 391904717334884 19 (.builtin "divmod"),de P 6113293925 20 (.builtin "eval"),de P 5962561637 21 (.builtin "exec"),de P 409436773576550 22 (.builtin "format"),de P 0x172747461746567 23 (.builtin "getattr"),de P 0x1736c61626f6c67 24 (.builtin "globals"),de P 0x172747461736168 25 (.builtin "hasattr"),de P 6047359336 26 (.builtin "hash"),de P 24667496 27 (.builtin "hex"),de P 91241 28 (.builtin "id"),de P 1599698136681 29 (.builtin "input"),de P 0x165636e6174736e697369 30 (.builtin "isinstance"),de P 0x17373616c636275737369 31 (.builtin "issubclass"),de P 6214218857 32 (.builtin "iter"),de P 1590840027489 33 (.builtin "aiter"),de P 24012140 34 (.builtin "len"),de P 408384304279404 35 (.builtin "locals"),de P 24666477 36 (.builtin "max"),de P 24013165 37 (.builtin "min"),de P 6249014638 38 (.builtin "next"),de P 1599747747425 39 (.builtin "anext"),de P 24404847 40 (.builtin "oct"),de P 23360111 41 (.builtin "ord"),de P 24604528 42 (.builtin "pow"),de P 1599580238448 43 (.builtin "print"),de P 6214935922 44 (.builtin "repr"),de P 1530861547378 45 (.builtin "round"),de P 0x172747461746573 46 (.builtin "setattr"),de P 391861884841843 47 (.builtin "sorted"),de P 23950707 48 (.builtin "sum"),de P 6231843190 49 (.builtin "vars"),de P 5996703566 50 .none,de P 0x173697370696c6c45 51 .ellipsis,de P 0x16465746e656d656c706d49746f4e 52 .notImplemented,de P 1535239807302 53 (.bool false),de P 5997163092 54 (.bool true),de P 6114209634 55 (.type "bool"),de P 0x17765697679726f6d656d 56 (.type "memoryview"),de P 0x1796172726165747962 57 (.type "bytearray"),de P 1595134998882 58 (.type "bytes"),de P 0x1646f6874656d7373616c63 59 (.type "classmethod"),de P 0x178656c706d6f63 60 (.type "complex"),de P 6247639396 61 (.type "dict"),de P 0x165746172656d756e65 62 (.type "enumerate"),de P 407255047235942 63 (.type "filter"),de P 1599362526310 64 (.type "float"),de P 0x17465736e657a6f7266 65 (.type "frozenset"),de P 0x179747265706f7270 66 (.type "property"),de P 24407657 67 (.type "int"),de P 6248687980 68 (.type "list"),de P 24142189 69 (.type "map"),de P 409445228765807 70 (.type "object"),de P 1535038611826 71 (.type "range"),de P 0x16465737265766572 72 (.type "reversed"),de P 24405363 73 (.type "set"),de P 1534971178099 74 (.type "slice"),de P 0x1646f6874656d636974617473 75 (.type "staticmethod"),de P 24278131 76 (.type "str"),de P 1590839768435 77 (.type "super"),de P 1535122634100 78 (.type "tuple"),de P 5996837236 79 (.type "type"),de P 24144250 80 (.type "zip"),de P 0x15f5f67756265645f5f 81 (.bool true),de P 0x16e6f6974706563784565736142 82 (.type "BaseException"),de P 0x170756f72476e6f6974706563784565736142 83 (.type "BaseExceptionGroup"),de P 0x16e6f69747065637845 84 (.type "Exception"),de P 0x174697845726f746172656e6547 85 (.type "GeneratorExit"),de P 0x1747075727265746e496472616f6279654b 86 (.type "KeyboardInterrupt"),de P 0x1746978456d6574737953 87 (.type "SystemExit"),de P 0x1726f727245636974656d6874697241 88 (.type "ArithmeticError"),de P 0x1726f7272456e6f69747265737341 89 (.type "AssertionError"),de P 0x1726f727245657475626972747441 90 (.type "AttributeError"),de P 0x1726f727245726566667542 91 (.type "BufferError"),de P 0x1726f727245464f45 92 (.type "EOFError"),de P 0x1726f72724574726f706d49 93 (.type "ImportError"),de P 0x1726f72724570756b6f6f4c 94 (.type "LookupError"),de P 0x1726f72724579726f6d654d 95 (.type "MemoryError"),de P 0x1726f727245656d614e 96 (.type "NameError"),de P 0x1726f727245534f 97 (.type "OSError"),de P 0x1726f72724565636e657265666552 98 (.type "ReferenceError"),de P 0x1726f727245656d69746e7552 99 (.type "RuntimeError"),de P 0x16e6f69746172657449636e797341706f7453 100 (.type "StopAsyncIteration"),de P 0x16e6f69746172657449706f7453 101 (.type "StopIteration"),de P 0x1726f7272457861746e7953 102 (.type "SyntaxError"),de P 0x1726f7272456d6574737953 103 (.type "SystemError"),de P 0x1726f72724565707954 104 (.type "TypeError"),de P 0x1726f72724565756c6156 105 (.type "ValueError"),de P 0x1676e696e726157 106 (.type "Warning"),de P 0x1726f727245746e696f50676e6974616f6c46 107 (.type "FloatingPointError"),de P 0x1726f727245776f6c667265764f 108 (.type "OverflowError"),de P 0x1726f7272456e6f6973697669446f72655a 109 (.type "ZeroDivisionError"),de P 0x1676e696e7261577365747942 110 (.type "BytesWarning"),de P 0x1676e696e7261576e6f697461636572706544 111 (.type "DeprecationWarning"),de P 0x1676e696e726157676e69646f636e45 112 (.type "EncodingWarning"),de P 0x1676e696e726157657275747546 113 (.type "FutureWarning"),de P 0x1676e696e72615774726f706d49 114 (.type "ImportWarning"),de P 0x1676e696e7261576e6f697461636572706544676e69646e6550 115 (.type "PendingDeprecationWarning"),de P 0x1676e696e726157656372756f736552 116 (.type "ResourceWarning"),de P 0x1676e696e726157656d69746e7552 117 (.type "RuntimeWarning"),de P 0x1676e696e7261577861746e7953 118 (.type "SyntaxWarning"),de P 0x1676e696e72615765646f63696e55 119 (.type "UnicodeWarning"),de P 0x1676e696e72615772657355 120 (.type "UserWarning"),de P 0x1726f7272454f49676e696b636f6c42 121 (.type "BlockingIOError"),de P 0x1726f727245737365636f7250646c696843 122 (.type "ChildProcessError"),de P 0x1726f7272456e6f697463656e6e6f43 123 (.type "ConnectionError"),de P 0x1726f727245737473697845656c6946 124 (.type "FileExistsError"),de P 0x1726f727245646e756f46746f4e656c6946 125 (.type "FileNotFoundError"),de P 0x1726f7272456465747075727265746e49 126 (.type "InterruptedError"),de P 0x1726f72724579726f746365726944417349 127 (.type "IsADirectoryError"),de P 0x1726f72724579726f74636572694441746f4e 128 (.type "NotADirectoryError"),de P 0x1726f7272456e6f697373696d726550 129 (.type "PermissionError"),de P 0x1726f72724570756b6f6f4c737365636f7250 130 (.type "ProcessLookupError"),de P 0x1726f72724574756f656d6954 131 (.type "TimeoutError"),de P 0x1726f7272456e6f697461746e65646e49 132 (.type "IndentationError"),de P 0x1726f7272457475706e496574656c706d6f636e495f 133 (.type "_IncompleteInputError"),de P 0x1726f7272457865646e49 134 (.type "IndexError"),de P 0x1726f72724579654b 135 (.type "KeyError"),de P 0x1726f727245646e756f46746f4e656c75646f4d 136 (.type "ModuleNotFoundError"),de P 0x1726f7272456465746e656d656c706d49746f4e 137 (.type "NotImplementedError"),de P 0x1726f7272456e6f6974617a696c616e69466e6f68747950 138 (.type "PythonFinalizationError"),de P 0x1726f7272456e6f69737275636552 139 (.type "RecursionError"),de P 0x1726f7272456c61636f4c646e756f626e55 140 (.type "UnboundLocalError"),de P 0x1726f72724565646f63696e55 141 (.type "UnicodeError"),de P 0x1726f727245657069506e656b6f7242 142 (.type "BrokenPipeError"),de P 0x1726f727245646574726f62416e6f697463656e6e6f43 143 (.type "ConnectionAbortedError"),de P 0x1726f727245646573756665526e6f697463656e6e6f43 144 (.type "ConnectionRefusedError"),de P 0x1726f72724574657365526e6f697463656e6e6f43 145 (.type "ConnectionResetError"),de P 0x1726f727245626154 146 (.type "TabError"),de P 0x1726f72724565646f63654465646f63696e55 147 (.type "UnicodeDecodeError"),de P 0x1726f72724565646f636e4565646f63696e55 148 (.type "UnicodeEncodeError"),de P 0x1726f7272456574616c736e61725465646f63696e55 149 (.type "UnicodeTranslateError"),de P 0x170756f72476e6f69747065637845 150 (.type "ExceptionGroup"),de P 0x1726f727245746e656d6e6f7269766e45 151 (.type "OSError"),de P 0x1726f7272454f49 152 (.type "OSError"),de P 6147108975 153 (.builtin "open"),de P 6248035697 154 (.builtin "builtins.quit#opaque"),de P 6248036453 155 (.builtin "builtins.exit#opaque"),de P 0x1746867697279706f63 156 (.builtin "builtins.copyright#opaque"),de P 0x173746964657263 157 (.builtin "builtins.credits#opaque"),de P 0x165736e6563696c 158 (.builtin "builtins.license#opaque"),de P 6181119336 159 (.builtin "builtins.help#opaque")]⟩ 159), #[]⟩
def o2 (P:E6):Obj:=⟨.none,none,(.dict ⟨[de P 0x1736e6f697463656c6c6f635f2e646564616f6c2e74726f706d69 185 (.bool true),de P 0x1726574726f706d496e69746c6975422e62696c74726f706d695f6e657a6f72665f2e7373616c63 187 (.ref 15),de P 0x174726f706d692e64656863746177 208 (.ref 19),de P 0x163657053656c75646f4d2e62696c74726f706d695f6e657a6f72665f2e7373616c63 218 (.ref 23),de P 0x168636f70652d64656b6f6f622e73656c75646f6d2e737973 247 (.int 4 0),de P 0x1736e6f697463656c6c6f635f2e6465646e616c2e73656c75646f6d2e737973 248 (.bool true),de P 0x1736e6f697463656c6c6f635f2e6469616c2d726574616c2e74726f706d69 263 (.bool true),de P 0x17972617262696c2e64656863746177 265 (.ref 28),de P 0x1737463656a626f2d7972617262696c2e64656863746177 0 (.str ⟨⟨[13,31]⟩⟩ 0),de P 0x1736e6f697463656c6c6f635f2e706565642d7972617262696c2e64656863746177 266 (.str ⟨⟨[4,0,0,12,4,0,0,12,4,0,0,3,4,0,0,12,8,4,100,105,99,116,2]⟩⟩ 0),de P 0x171706165685f2e646564616f6c2e74726f706d69 278 (.bool true),de P 0x1736369736142726564616f4c5f2e6c616e72657478655f62696c74726f706d695f6e657a6f72665f2e7373616c63 283 (.ref 34),de P 0x1726564616f4c656c69462e6c616e72657478655f62696c74726f706d695f6e657a6f72665f2e7373616c63 299 (.ref 39),de P 0x1726564616f4c656c69466e6f69736e657478452e6c616e72657478655f62696c74726f706d695f6e657a6f72665f2e7373616c63 320 (.ref 44),de P 0x171706165685f2e6469616c2d726574616c2e74726f706d69 368 (.bool true)]⟩ 15), #[]⟩
def o3 (P:E6):Obj:=⟨(.type "dict"),none,(.dict ⟨[de P 0x15f5f656d616e5f5f 165 (vs 0x131305f353030306f695f77616c 1945),de P 98902597500690271 166 .none,de P 0x15f5f6567616b6361705f5f 167 .none,de P 0x15f5f726564616f6c5f5f 168 (.builtin "__main__.__loader__#opaque"),de P 0x15f5f636570735f5f 169 .none,de P 0x15f5f736e6f697461746f6e6e615f5f 170 (.ref 6),de P 0x15f5f736e69746c6975625f5f 171 (.ref 4),de P 0x15f5f656c69665f5f 173 (vs 0x179702e7475632f6d69616c632f 172),de P 0x15f5f6465686361635f5f 174 .none,de P 1535273690468 272 (.type "collections.deque"),de P 0x179666970616568 375 (.builtin "_heapq.heapify"),de P 0x16563616c70657270616568 378 (.builtin "_heapq.heapreplace"),de P 1565186422623 391 (.ref 60),de P 0x173746e656d656c655f746e756f635f 403 (.ref 67),de P 99488645215633985 429 (.ref 84),de P 0x1656b694c4342415f 472 (.ref 117),de P 0x16174656d5f6e69616c705f6362615f 479 (.ref 126),de P 0x1726574695f7361685f6362615f 486 (.ref 133),de P 0x16e656c5f7361685f6362615f 493 (.ref 140),de P 0x1736e6961746e6f635f7361685f6362615f 500 (.ref 147),de P 0x179786f7270676e697070616d5f73695f6362615f 507 (.ref 154),de P 0x16e6f697463656c6c6f635f6e69746c6975625f73695f6362615f 514 (.ref 161),de P 0x1656c626172657449 555 (.ref 194),de P 1530710878547 592 (.ref 224),de P 0x172656e6961746e6f43 639 (.ref 260),de P 0x16e6f697463656c6c6f43 669 (.ref 283),de P 24405331 826 (.ref 399),de P 0x1676e697070614d 914 (.ref 471),de P 0x177656956676e697070614d 982 (.ref 521),de P 0x1776569567379654b 1042 (.ref 568),de P 0x177656956736d657449 1106 (.ref 613),de P 0x1776569567365756c6156 1149 (.ref 648),de P 0x17473656772616c6e 1157 (.ref 656),de P 0x1746e695f73695f 1167 (.ref 663),de P 392991376701279 1176 (.ref 670),de P 1565187731551 1183 (.ref 677),de P 0x16e65766947746f4e5f 1203 (.ref 687),de P 1573726021731 1278 (.ref 734),de P 409436639225202 1342 (.ref 786),de P 0x170616d72617473 1391 (.ref 823),de P 0x17265747465676d657469 1449 (.ref 867),de P 0x17265746e756f43 1762 (.ref 1093),de P 0x154554f5f45444f4e5f 1767 (.int (-1) 1766),de P 0x1454e4f445f45444f4e5f 1770 (.int (-2) 1769),de P 0x16f666e4965646f4e5f 1807 (.ref 1116),de P 0x1726f727245656c637943 1825 (.ref 1131),de P 0x1726574726f536c616369676f6c6f706f54 1944 (.ref 1213),de P 0x1736c6576656c5f77616c5f 1952 (.ref 1222),de P 24600940 1958 (.ref 1227)]⟩ 49), #[]⟩
def Ao (P:E6):Obj:=⟨(.type "dict"),none,(.dict ⟨[de P 0x15f5f656c75646f6d5f5f 413 (vs 23290465 404),de P 0x15f5f6f6e656e696c74737269665f5f 417 (.int 12 416),de P 0x17265747369676572 425 (.ref 81),de P 0x15f5f736574756269727474615f6369746174735f5f 426 (.ref 82),de P 98902597500690271 427 .none]⟩ 2), #[]⟩
def Am (P:E6):Obj:=⟨(.type "type"),none,(.cls ⟨(sn 99488645215633985),[(.type "type")],[(.ref 84),(.type "type"),(.type "object")],83,(sn 99488645215633985),true,[],[(.ref 117)],false,none,false⟩), #[(some (.ref 68)),none,(some (vs 99488645215633985 406)),(some (vs 99488645215633985 414)),(some (.builtin "type.__new__")),(some (.bool true))]⟩
def Ae (P:E6):Obj:=⟨(.type "code"),none,(.fields ⟨[(vs 0x15f5f6b6365686365636e6174736e695f5f 444),(vs 0x15f5f6b6365686365636e6174736e695f5f2e656b694c4342415f 445),(vs 0x179702e7475632f6d69616c632f 446),(.int 19 0),(.int 2 0),(.int 0 0),(.int 0 0),(.int 3 0),(.ref 94),(.bool true),(.int 379 0),(.ref 95), .none,(.ref 96),(.ref 97),(.ref 98),(.int 450 0),(.int 19 0),(vs 0x179702e7475632f6d69616c632f 451)]⟩), #[]⟩
def A7 (P:E6):Obj:=⟨(.type "function"),none,(.func (cj (cL 8 0) 0x15f5f6b6365686365636e6174736e695f5f2e656b694c4342415f [] .none .none .none (vs 0x16362612e736e6f697463656c6c6f63 430) (.ref 99) .none)), #[]⟩
def AJ (P:E6):Obj:=⟨(.type "dict"),none,(.dict ⟨[de P 0x15f5f656c75646f6d5f5f 439 (vs 0x16362612e736e6f697463656c6c6f63 430),de P 0x15f5f6f6e656e696c74737269665f5f 443 (.int 17 442),de P 0x15f5f6b6365686365636e6174736e695f5f 452 (.ref 100),de P 0x15f5f6b636568637373616c636275735f5f 460 (.ref 107),de P 0x17265747369676572 468 (.ref 114),de P 0x15f5f736574756269727474615f6369746174735f5f 469 (.ref 115),de P 98902597500690271 470 .none]⟩ 2), #[]⟩
def AG (P:E6):Obj:=⟨(.type "type"),none,(.cls ⟨(sn 0x1656b694c4342415f),[(.ref 84)],[(.ref 117),(.ref 84),(.type "type"),(.type "object")],116,(sn 0x1656b694c4342415f),true,[],[],false,none,false⟩), #[(some (.ref 87)),none,(some (vs 0x1656b694c4342415f 432)),(some (vs 0x1656b694c4342415f 440)),(some (.builtin "type.__new__")),(some (.bool true))]⟩
def Av (P:E6):Obj:=⟨(.type "code"),none,(.fields ⟨[(vs 0x179786f7270676e697070616d5f73695f6362615f 501),(vs 0x179786f7270676e697070616d5f73695f6362615f 502),(vs 0x179702e7475632f6d69616c632f 503),(.int 44 0),(.int 1 0),(.int 0 0),(.int 0 0),(.int 3 0),(.ref 148),(.bool true),(.int 379 0),(.ref 149), .none,(.ref 150),(.ref 151),(.ref 152),(.int 505 0),(.int 44 0),(vs 0x179702e7475632f6d69616c632f 506)]⟩), #[]⟩
def Au (P:E6):Obj:=⟨(.type "function"),none,(.func (cj (lz 13) 0x179786f7270676e697070616d5f73695f6362615f [] .none .none .none (vs 0x16362612e736e6f697463656c6c6f63 430) (.ref 153) .none)), #[]⟩
def As (P:E6):Obj:=⟨(.type "code"),none,(.fields ⟨[(vs 0x1646e696b5f6362615f 902),(vs 0x1646e696b5f6362615f2e676e697070614d 903),(vs 0x179702e7475632f6d69616c632f 904),(.int 226 0),(.int 2 0),(.int 0 0),(.int 0 0),(.int 3 0),(.ref 461),(.bool true),(.int 379 0),(.ref 462), .none,(.ref 463),(.ref 464),(.ref 465),(.int 907 0),(.int 226 0),(vs 0x179702e7475632f6d69616c632f 908)]⟩), #[]⟩
def Ar (P:E6):Obj:=⟨(.type "function"),none,(.func (cj (cL 25 9) 0x1646e696b5f6362615f2e676e697070614d [] .none .none .none (vs 0x16362612e736e6f697463656c6c6f63 430) (.ref 466) .none)), #[]⟩
def Aq (P:E6):Obj:=⟨(.type "dict"),none,(.dict ⟨[de P 0x15f5f656c75646f6d5f5f 841 (vs 0x16362612e736e6f697463656c6c6f63 430),de P 0x15f5f6f6e656e696c74737269665f5f 845 (.int 191 844),de P 0x15f5f73746f6c735f5f 846 (.ref 410),de P 0x15f5f6d6574697465675f5f 854 (.ref 417),de P 24405351 863 (.ref 425),de P 0x15f5f736e6961746e6f635f5f 871 (.ref 432),de P 6232302955 878 (.ref 439),de P 1595268232297 885 (.ref 446),de P 408354575638902 892 (.ref 453),de P 386338505711455 900 (.ref 460),de P 0x15f5f64657372657665725f5f 901 .none,de P 0x1646e696b5f6362615f 909 (.ref 467),de P 0x15f5f736574756269727474615f6369746174735f5f 910 (.ref 468),de P 98902597500690271 911 .none,de P 0x15f5f687361685f5f 912 .none,de P 0x15f5f73646f6874656d74636172747362615f5f 921 (.ref 474)]⟩ 4), #[]⟩
def Ap (P:E6):Obj:=⟨(.ref 117),none,(.cls ⟨(sn 0x1676e697070614d),[(.ref 283)],[(.ref 471),(.ref 283),(.ref 224),(.ref 194),(.ref 260),(.type "object")],470,(sn 0x1676e697070614d),false,[],[],true,none,false⟩), #[(some (.ref 403)),none,(some (vs 0x1676e697070614d 834)),(some (vs 0x1676e697070614d 842)),(some (.builtin "object.__new__")),(some (.bool false))]⟩
def Al (P:E6):Obj:=⟨(.type "cell"),none,(.cell (some (.ref 1093))), #[]⟩
def Ak (P:E6):Obj:=⟨(.type "tuple"),none,(.seq ⟨[.none]⟩ 0), #[]⟩
def tt (P:E6):Obj:=⟨(.type "code"),none,(.fields ⟨[(vs 0x15f5f74696e695f5f 1464),(vs 0x15f5f74696e695f5f2e7265746e756f43 1465),(vs 0x179702e7475632f6d69616c632f 1466),(.int 507 0),(.int 2 0),(.int 2 0),(.int 0 0),(.int 11 0),(.ref 881),(.bool true),(.int 379 0),(.ref 882), .none,(.ref 883),(.ref 884),(.ref 885),(.int 1471 0),(.int 507 0),(vs 0x179702e7475632f6d69616c632f 1472)]⟩), #[]⟩
def lS (P:E6):Obj:=⟨(.type "function"),none,(.func (cj (cL 44 0) 0x15f5f74696e695f5f2e7265746e756f43 [((sn 0x15f5f7373616c635f5f),874)] (.ref 879) .none .none (vs 0x1736e6f697463656c6c6f632e333133797063 1450) (.ref 886) (.ref 880))), #[]⟩
def Aj (P:E6):Obj:=⟨(.type "code"),none,(.fields ⟨[(vs 0x15f5f676e697373696d5f5f 1474),(vs 0x15f5f676e697373696d5f5f2e7265746e756f43 1475),(vs 0x179702e7475632f6d69616c632f 1476),(.int 511 0),(.int 2 0),(.int 0 0),(.int 0 0),(.int 3 0),(.ref 888),(.bool true),(.int 379 0),(.ref 889), .none,(.ref 890),(.ref 891),(.ref 892),(.int 1479 0),(.int 511 0),(vs 0x179702e7475632f6d69616c632f 1480)]⟩), #[]⟩
def Ai (P:E6):Obj:=⟨(.type "function"),none,(.func (cj (cL 44 1) 0x15f5f676e697373696d5f5f2e7265746e756f43 [] .none .none .none (vs 0x1736e6f697463656c6c6f632e333133797063 1450) (.ref 893) .none)), #[]⟩
def Ah (P:E6):Obj:=⟨(.type "tuple"),none,(.seq ⟨[.none]⟩ 0), #[]⟩
def ts (P:E6):Obj:=⟨(.type "code"),none,(.fields ⟨[(vs 393025501294709 1525),(vs 0x16574616470752e7265746e756f43 1526),(vs 0x179702e7475632f6d69616c632f 1527),(.int 530 0),(.int 2 0),(.int 2 0),(.int 0 0),(.int 11 0),(.ref 930),(.bool true),(.int 379 0),(.ref 931), .none,(.ref 932),(.ref 933),(.ref 934),(.int 1535 0),(.int 530 0),(vs 0x179702e7475632f6d69616c632f 1536)]⟩), #[]⟩
def lR (P:E6):Obj:=⟨(.type "function"),none,(.func (cj (cL 44 6) 0x16574616470752e7265746e756f43 [((sn 0x15f5f7373616c635f5f),874)] (.ref 928) .none .none (vs 0x1736e6f697463656c6c6f632e333133797063 1450) (.ref 935) (.ref 929))), #[]⟩
def Ag (P:E6):Obj:=⟨(.type "tuple"),none,(.seq ⟨[.none]⟩ 0), #[]⟩
def Af (P:E6):Obj:=⟨(.type "code"),none,(.fields ⟨[(vs 0x17463617274627573 1538),(vs 0x174636172746275732e7265746e756f43 1539),(vs 0x179702e7475632f6d69616c632f 1540),(.int 544 0),(.int 2 0),(.int 2 0),(.int 0 0),(.int 11 0),(.ref 938),(.bool true),(.int 379 0),(.ref 939), .none,(.ref 940),(.ref 941),(.ref 942),(.int 1547 0),(.int 544 0),(vs 0x179702e7475632f6d69616c632f 1548)]⟩), #[]⟩
def n9 (P:E6):Obj:=⟨(.type "function"),none,(.func (cj (cL 44 7) 0x174636172746275732e7265746e756f43 [] (.ref 937) .none .none (vs 0x1736e6f697463656c6c6f632e333133797063 1450) (.ref 943) .none)), #[]⟩
def AZ (P:E6):Obj:=⟨(.type "code"),none,(.fields ⟨[(vs 98902593307369311 1647),(vs 0x15f5f6275735f5f2e7265746e756f43 1648),(vs 0x179702e7475632f6d69616c632f 1649),(.int 618 0),(.int 2 0),(.int 0 0),(.int 0 0),(.int 3 0),(.ref 1023),(.bool true),(.int 379 0),(.ref 1024), .none,(.ref 1025),(.ref 1026),(.ref 1027),(.int 1656 0),(.int 618 0),(vs 0x179702e7475632f6d69616c632f 1657)]⟩), #[]⟩
def lU (P:E6):Obj:=⟨(.type "function"),none,(.func (cj (cL 44 19) 0x15f5f6275735f5f2e7265746e756f43 [] .none .none .none (vs 0x1736e6f697463656c6c6f632e333133797063 1450) (.ref 1028) .none)), #[]⟩
def AY (P:E6):Obj:=⟨(.type "code"),none,(.fields ⟨[(vs 386338523144031 1659),(vs 0x15f5f726f5f5f2e7265746e756f43 1660),(vs 0x179702e7475632f6d69616c632f 1661),(.int 631 0),(.int 2 0),(.int 0 0),(.int 0 0),(.int 3 0),(.ref 1030),(.bool true),(.int 379 0),(.ref 1031), .none,(.ref 1032),(.ref 1033),(.ref 1034),(.int 1669 0),(.int 631 0),(vs 0x179702e7475632f6d69616c632f 1670)]⟩), #[]⟩
def lT (P:E6):Obj:=⟨(.type "function"),none,(.func (cj (cL 44 20) 0x15f5f726f5f5f2e7265746e756f43 [] .none .none .none (vs 0x1736e6f697463656c6c6f632e333133797063 1450) (.ref 1035) .none)), #[]⟩
def AX (P:E6):Obj:=⟨(.type "code"),none,(.fields ⟨[(vs 98902601778683743 1672),(vs 0x15f5f646e615f5f2e7265746e756f43 1673),(vs 0x179702e7475632f6d69616c632f 1674),(.int 645 0),(.int 2 0),(.int 0 0),(.int 0 0),(.int 3 0),(.ref 1037),(.bool true),(.int 379 0),(.ref 1038), .none,(.ref 1039),(.ref 1040),(.ref 1041),(.int 1682 0),(.int 645 0),(vs 0x179702e7475632f6d69616c632f 1683)]⟩), #[]⟩
def oj (P:E6):Obj:=⟨(.type "function"),none,(.func (cj (cL 44 21) 0x15f5f646e615f5f2e7265746e756f43 [] .none .none .none (vs 0x1736e6f697463656c6c6f632e333133797063 1450) (.ref 1042) .none)), #[]⟩
def AW (P:E6):Obj:=⟨(.type "dict"),none,(.dict ⟨[de P 0x15f5f656c75646f6d5f5f 1459 (vs 0x1736e6f697463656c6c6f632e333133797063 1450),de P 0x15f5f6f6e656e696c74737269665f5f 1463 (.int 505 1462),de P 0x15f5f74696e695f5f 1473 (.ref 887),de P 0x15f5f676e697373696d5f5f 1481 (.ref 894),de P 1565003116404 1488 (.ref 901),de P 0x16e6f6d6d6f635f74736f6d 1496 (.ref 909),de P 0x173746e656d656c65 1503 (.ref 916),de P 0x17379656b6d6f7266 1524 (.ref 926),de P 393025501294709 1537 (.ref 936),de P 0x17463617274627573 1549 (.ref 944),de P 6332378979 1556 (.ref 951),de P 0x15f5f6563756465725f5f 1563 (.ref 958),de P 0x15f5f6d6574696c65645f5f 1572 (.ref 966),de P 0x15f5f727065725f5f 1580 (.ref 973),de P 386338505711455 1590 (.ref 980),de P 386338304974687 1598 (.ref 987),de P 386338304843615 1608 (.ref 994),de P 386338556501855 1616 (.ref 1001),de P 386338304515935 1626 (.ref 1008),de P 386338556174175 1634 (.ref 1015),de P 98902601610911583 1646 (.ref 1022),de P 98902593307369311 1658 (.ref 1029),de P 386338523144031 1671 (.ref 1036),de P 98902601778683743 1684 (.ref 1043),de P 98902666220953439 1694 (.ref 1050),de P 98902614513442655 1704 (.ref 1057),de P 0x16576697469736f705f7065656b5f 1710 (.ref 1062),de P 0x15f5f646461695f5f 1720 (.ref 1069),de P 0x15f5f627573695f5f 1730 (.ref 1076),de P 98902661925527391 1741 (.ref 1083),de P 0x15f5f646e61695f5f 1752 (.ref 1090),de P 0x15f5f736574756269727474615f6369746174735f5f 1753 (.ref 1091),de P 0x15f5f746369645f5f 1756 (.ref 1094),de P 0x15f5f6665726b6165775f5f 1758 (.ref 1095),de P 98902597500690271 1759 .none,de P 0x15f5f687361685f5f 1760 .none]⟩ 6), #[]⟩
def oi (P:E6):Obj:=⟨(.type "type"),none,(.cls ⟨(sn 0x17265746e756f43),[(.type "dict")],[(.ref 1093),(.type "dict"),(.type "object")],1092,(sn 0x17265746e756f43),true,[],[],false,none,false⟩), #[(some (.ref 871)),none,(some (vs 0x17265746e756f43 1452)),(some (vs 0x17265746e756f43 1460)),(some (.builtin "dict.__new__")),(some (.bool true))]⟩
def AV (P:E6):Obj:=⟨(.type "code"),none,(.fields ⟨[(vs 0x15f5f74696e695f5f 1787),(vs 0x15f5f74696e695f5f2e6f666e4965646f4e5f 1788),(vs 0x179702e7475632f6d69616c632f 1789),(.int 705 0),(.int 2 0),(.int 0 0),(.int 0 0),(.int 3 0),(.ref 1106),(.bool true),(.int 379 0),(.ref 1107), .none,(.ref 1108),(.ref 1109),(.ref 1110),(.int 1792 0),(.int 705 0),(vs 0x179702e7475632f6d69616c632f 1793)]⟩), #[]⟩
def AU (P:E6):Obj:=⟨(.type "function"),none,(.func (cj (cL 48 1) 0x15f5f74696e695f5f2e6f666e4965646f4e5f [] .none .none .none (vs 0x162696c68706172672e333133797063 1763) (.ref 1111) .none)), #[]⟩
def AT (P:E6):Obj:=⟨(.type "dict"),none,(.dict ⟨[de P 0x15f5f656c75646f6d5f5f 1778 (vs 0x162696c68706172672e333133797063 1763),de P 0x15f5f6f6e656e696c74737269665f5f 1782 (.int 702 1781),de P 0x15f5f73746f6c735f5f 1786 (.ref 1105),de P 0x15f5f74696e695f5f 1794 (.ref 1112),de P 0x15f5f736574756269727474615f6369746174735f5f 1798 (.ref 1113),de P 5996048238 1800 (.ref 1117),de P 0x173726f7373656365646572706e 1802 (.ref 1118),de P 0x173726f73736563637573 1804 (.ref 1119),de P 98902597500690271 1805 .none]⟩ 5), #[]⟩
def AS (P:E6):Obj:=⟨(.type "type"),none,(.cls ⟨(sn 0x16f666e4965646f4e5f),[(.type "object")],[(.ref 1116),(.type "object")],1115,(sn 0x16f666e4965646f4e5f),false,[(sn 5996048238),(sn 0x173726f7373656365646572706e),(sn 0x173726f73736563637573)],[],false,none,false⟩), #[none,none,(some (vs 0x16f666e4965646f4e5f 1771)),(some (vs 0x16f666e4965646f4e5f 1779)),(some (.builtin "object.__new__")),(some (.bool false))]⟩
def AR (P:E6):Obj:=⟨(.type "member_descriptor"),none,(.fields ⟨[(vs 5996048238 1799),(.ref 1116),(.builtin "proto.slot"),(.builtin "proto.slot#set"),(.int 2 0)]⟩), #[]⟩
def AQ (P:E6):Obj:=⟨(.type "member_descriptor"),none,(.fields ⟨[(vs 0x173726f7373656365646572706e 1801),(.ref 1116),(.builtin "proto.slot"),(.builtin "proto.slot#set"),(.int 1 0)]⟩), #[]⟩
def AP (P:E6):Obj:=⟨(.type "member_descriptor"),none,(.fields ⟨[(vs 0x173726f73736563637573 1803),(.ref 1116),(.builtin "proto.slot"),(.builtin "proto.slot#set"),(.int 0 0)]⟩), #[]⟩
def AO (P:E6):Obj:=⟨(.type "tuple"),none,(.seq ⟨[.none]⟩ 0), #[]⟩
def AN (P:E6):Obj:=⟨(.type "code"),none,(.fields ⟨[(vs 0x15f5f74696e695f5f 1838),(vs 0x15f5f74696e695f5f2e726574726f536c616369676f6c6f706f54 1839),(vs 0x179702e7475632f6d69616c632f 1840),(.int 713 0),(.int 2 0),(.int 0 0),(.int 0 0),(.int 3 0),(.ref 1143),(.bool true),(.int 379 0),(.ref 1144), .none,(.ref 1145),(.ref 1146),(.ref 1147),(.int 1845 0),(.int 713 0),(vs 0x179702e7475632f6d69616c632f 1846)]⟩), #[]⟩
def AM (P:E6):Obj:=⟨(.type "function"),none,(.func (cj (cL 50 0) 0x15f5f74696e695f5f2e726574726f536c616369676f6c6f706f54 [] (.ref 1142) .none .none (vs 0x162696c68706172672e333133797063 1763) (.ref 1148) .none)), #[]⟩
def AL (P:E6):Obj:=⟨(.type "code"),none,(.fields ⟨[(vs 0x16f666e6965646f6e5f7465675f 1848),(vs 0x16f666e6965646f6e5f7465675f2e726574726f536c616369676f6c6f706f54 1849),(vs 0x179702e7475632f6d69616c632f 1850),(.int 722 0),(.int 2 0),(.int 0 0),(.int 0 0),(.int 3 0),(.ref 1150),(.bool true),(.int 379 0),(.ref 1151), .none,(.ref 1152),(.ref 1153),(.ref 1154),(.int 1854 0),(.int 722 0),(vs 0x179702e7475632f6d69616c632f 1855)]⟩), #[]⟩
def AK (P:E6):Obj:=⟨(.type "function"),none,(.func (cj (cL 50 1) 0x16f666e6965646f6e5f7465675f2e726574726f536c616369676f6c6f706f54 [] .none .none .none (vs 0x162696c68706172672e333133797063 1763) (.ref 1155) .none)), #[]⟩
def AI (P:E6):Obj:=⟨(.type "code"),none,(.fields ⟨[(vs 23356513 1857),(vs 0x16464612e726574726f536c616369676f6c6f706f54 1858),(vs 0x179702e7475632f6d69616c632f 1859),(.int 727 0),(.int 2 0),(.int 0 0),(.int 0 0),(.int 7 0),(.ref 1157),(.bool true),(.int 379 0),(.ref 1158), .none,(.ref 1159),(.ref 1160),(.ref 1161),(.int 1866 0),(.int 727 0),(vs 0x179702e7475632f6d69616c632f 1867)]⟩), #[]⟩
def oh (P:E6):Obj:=⟨(.type "function"),none,(.func (cj (cL 50 2) 0x16464612e726574726f536c616369676f6c6f706f54 [] .none .none .none (vs 0x162696c68706172672e333133797063 1763) (.ref 1162) .none)), #[]⟩
def AH (P:E6):Obj:=⟨(.type "code"),none,(.fields ⟨[(vs 0x165726170657270 1869),(vs 0x1657261706572702e726574726f536c616369676f6c6f706f54 1870),(vs 0x179702e7475632f6d69616c632f 1871),(.int 736 0),(.int 1 0),(.int 0 0),(.int 0 0),(.int 3 0),(.ref 1164),(.bool true),(.int 379 0),(.ref 1165), .none, .none, .none,(.ref 1166),(.int 1872 0),(.int 736 0),(vs 0x179702e7475632f6d69616c632f 1873)]⟩), #[]⟩
def kr (P:E6):Obj:=⟨(.type "function"),none,(.func (cj (cL 50 3) 0x1657261706572702e726574726f536c616369676f6c6f706f54 [] .none .none .none (vs 0x162696c68706172672e333133797063 1763) (.ref 1167) .none)), #[]⟩
def AE (P:E6):Obj:=⟨(.type "code"),none,(.fields ⟨[(vs 0x179646165725f746567 1875),(vs 0x179646165725f7465672e726574726f536c616369676f6c6f706f54 1876),(vs 0x179702e7475632f6d69616c632f 1877),(.int 744 0),(.int 1 0),(.int 0 0),(.int 0 0),(.int 3 0),(.ref 1169),(.bool true),(.int 379 0),(.ref 1170), .none,(.ref 1171),(.ref 1172),(.ref 1173),(.int 1882 0),(.int 744 0),(vs 0x179702e7475632f6d69616c632f 1883)]⟩), #[]⟩
def oa (P:E6):Obj:=⟨(.type "function"),none,(.func (cj (cL 50 4) 0x179646165725f7465672e726574726f536c616369676f6c6f706f54 [] .none .none .none (vs 0x162696c68706172672e333133797063 1763) (.ref 1174) .none)), #[]⟩
def AD (P:E6):Obj:=⟨(.type "code"),none,(.fields ⟨[(vs 0x16576697463615f7369 1885),(vs 0x16576697463615f73692e726574726f536c616369676f6c6f706f54 1886),(vs 0x179702e7475632f6d69616c632f 1887),(.int 755 0),(.int 1 0),(.int 0 0),(.int 0 0),(.int 3 0),(.ref 1176),(.bool true),(.int 379 0),(.ref 1177), .none,(.ref 1178),(.ref 1179),(.ref 1180),(.int 1889 0),(.int 755 0),(vs 0x179702e7475632f6d69616c632f 1890)]⟩), #[]⟩
def AC (P:E6):Obj:=⟨(.type "function"),none,(.func (cj (cL 50 5) 0x16576697463615f73692e726574726f536c616369676f6c6f706f54 [] .none .none .none (vs 0x162696c68706172672e333133797063 1763) (.ref 1181) .none)), #[]⟩
def AB (P:E6):Obj:=⟨(.type "code"),none,(.fields ⟨[(vs 5996703588 1899),(vs 0x1656e6f642e726574726f536c616369676f6c6f706f54 1900),(vs 0x179702e7475632f6d69616c632f 1901),(.int 763 0),(.int 1 0),(.int 0 0),(.int 0 0),(.int 7 0),(.ref 1190),(.bool true),(.int 379 0),(.ref 1191), .none,(.ref 1192),(.ref 1193),(.ref 1194),(.int 1910 0),(.int 763 0),(vs 0x179702e7475632f6d69616c632f 1911)]⟩), #[]⟩
def kq (P:E6):Obj:=⟨(.type "function"),none,(.func (cj (cL 50 7) 0x1656e6f642e726574726f536c616369676f6c6f706f54 [] .none .none .none (vs 0x162696c68706172672e333133797063 1763) (.ref 1195) .none)), #[]⟩
def AA (P:E6):Obj:=⟨(.type "code"),none,(.fields ⟨[(vs 0x1656c6379635f646e69665f 1913),(vs 0x1656c6379635f646e69665f2e726574726f536c616369676f6c6f706f54 1914),(vs 0x179702e7475632f6d69616c632f 1915),(.int 786 0),(.int 1 0),(.int 0 0),(.int 0 0),(.int 3 0),(.ref 1197),(.bool true),(.int 379 0),(.ref 1198), .none,(.ref 1199),(.ref 1200),(.ref 1201),(.int 1923 0),(.int 786 0),(vs 0x179702e7475632f6d69616c632f 1924)]⟩), #[]⟩
def gT (P:E6):Obj:=⟨(.type "function"),none,(.func (cj (cL 50 8) 0x1656c6379635f646e69665f2e726574726f536c616369676f6c6f706f54 [] .none .none .none (vs 0x162696c68706172672e333133797063 1763) (.ref 1202) .none)), #[]⟩
def Az (P:E6):Obj:=⟨(.type "dict"),none,(.dict ⟨[de P 0x15f5f656c75646f6d5f5f 1833 (vs 0x162696c68706172672e333133797063 1763),de P 0x15f5f6f6e656e696c74737269665f5f 1837 (.int 711 1836),de P 0x15f5f74696e695f5f 1847 (.ref 1149),de P 0x16f666e6965646f6e5f7465675f 1856 (.ref 1156),de P 23356513 1868 (.ref 1163),de P 0x165726170657270 1874 (.ref 1168),de P 0x179646165725f746567 1884 (.ref 1175),de P 0x16576697463615f7369 1891 (.ref 1182),de P 0x15f5f6c6f6f625f5f 1898 (.ref 1189),de P 5996703588 1912 (.ref 1196),de P 0x1656c6379635f646e69665f 1925 (.ref 1203),de P 0x1726564726f5f636974617473 1932 (.ref 1210),de P 0x15f5f736574756269727474615f6369746174735f5f 1937 (.ref 1211),de P 0x15f5f746369645f5f 1939 (.ref 1214),de P 0x15f5f6665726b6165775f5f 1941 (.ref 1215),de P 98902597500690271 1942 .none]⟩ 4), #[]⟩
def Ay (P:E6):Obj:=⟨(.type "type"),none,(.cls ⟨(sn 0x1726574726f536c616369676f6c6f706f54),[(.type "object")],[(.ref 1213),(.type "object")],1212,(sn 0x1726574726f536c616369676f6c6f706f54),true,[],[],false,none,false⟩), #[none,none,(some (vs 0x1726574726f536c616369676f6c6f706f54 1826)),(some (vs 0x1726574726f536c616369676f6c6f706f54 1834)),(some (.builtin "object.__new__")),(some (.bool true))]⟩
def Ax (P:E6):Obj:=⟨(.type "code"),none,(.fields ⟨[(vs 0x1736c6576656c5f77616c5f 1947),(vs 0x1736c6576656c5f77616c5f 1948),(vs 0x179702e7475632f6d69616c632f 1949),(.int 818 0),(.int 4 0),(.int 0 0),(.int 0 0),(.int 3 0),(.ref 1218),(.bool true),(.int 379 0),(.ref 1219), .none, .none, .none,(.ref 1220),(.int 1950 0),(.int 818 0),(vs 0x179702e7475632f6d69616c632f 1951)]⟩), #[]⟩
def kp (P:E6):Obj:=⟨(.type "function"),none,(.func (cj (lz 52) 0x1736c6576656c5f77616c5f [] .none .none .none (vs 0x131305f353030306f695f77616c 1945) (.ref 1221) .none)), #[]⟩
def Aw (P:E6):Obj:=⟨(.type "code"),none,(.fields ⟨[(vs 24600940 1953),(vs 24600940 1954),(vs 0x179702e7475632f6d69616c632f 1955),(.int 840 0),(.int 1 0),(.int 0 0),(.int 0 0),(.int 3 0),(.ref 1223),(.bool true),(.int 379 0),(.ref 1224), .none, .none, .none,(.ref 1225),(.int 1956 0),(.int 840 0),(vs 0x179702e7475632f6d69616c632f 1957)]⟩), #[]⟩
def kj (P:E6):Obj:=⟨(.type "function"),none,(.func (cj (lz 53) 24600940 [] .none .none .none (vs 0x131305f353030306f695f77616c 1945) (.ref 1226) .none)), #[]⟩
def kQ:List Nat:=[0,2,3,83,84,99,100,116,117,153,154,466,467,470,471,874,879,886,887,893,894,928,935,936,937,943,944,1028,1029,1035,1036,1042,1043,1092,1093,1111,1112,1115,1116,1117,1118,1119,1142,1148,1149,1155,1156,1162,1163,1167,1168,1174,1175,1181,1182,1195,1196,1202,1203,1212,1213,1221,1222,1226,1227]
def base (P:E6):Frag:=[(0,o0 P),(2,o2 P),(3,o3 P),(83,Ao P),(84,Am P),(99,Ae P),(100,A7 P),(116,AJ P),(117,AG P),(153,Av P),(154,Au P),(466,As P),(467,Ar P),(470,Aq P),(471,Ap P),(874,Al P),(879,Ak P),(886,tt P),(887,lS P),(893,Aj P),(894,Ai P),(928,Ah P),(935,ts P),(936,lR P),(937,Ag P),(943,Af P),(944,n9 P),(1028,AZ P),(1029,lU P),(1035,AY P),(1036,lT P),(1042,AX P),(1043,oj P),(1092,AW P),(1093,oi P),(1111,AV P),(1112,AU P),(1115,AT P),(1116,AS P),(1117,AR P),(1118,AQ P),(1119,AP P),(1142,AO P),(1148,AN P),(1149,AM P),(1155,AL P),(1156,AK P),(1162,AI P),(1163,oh P),(1167,AH P),(1168,kr P),(1174,AE P),(1175,oa P),(1181,AD P),(1182,AC P),(1195,AB P),(1196,kq P),(1202,AA P),(1203,gT P),(1212,Az P),(1213,Ay P),(1221,Ax P),(1222,kp P),(1226,Aw P),(1227,kj P)]
def iw:List Obj->Nat->BT->BT
 | [],_,t=>t
 | o::l,i,t=>iw l (i+1) (t.ins i o)
theorem Cz (o:Obj):∀(n:Nat) (t:BT),(∀j,j< n->(t.get j).isSome=true)->((t.ins n o).get n).isSome=true:=by
 intro n
 induction n using Nat.strongRecOn with
 | ind n i=>
  intro t b
  cases t with
  | nil=>
   by_cases h:n=0
   .subst h;rfl
   .exact absurd (b 0 (by omega)) (by simp [BT.get])
  | node v l r=>
   rw [BT.ins_node]
   by_cases h:n=0
   .subst h;rw [if_pos rfl,BT.get_node,if_pos rfl];rfl
   .rw [if_neg h]
    by_cases p:n %2=1
    .rw [if_pos p,BT.get_node,if_neg h,if_pos p]
     refine i (n/2) (by omega) l λj d=> ?_
     have:=b (2*j+1) (by omega)
     rw [BT.get_node,if_neg (by omega),if_pos (by omega),show (2*j+1)/2=j by omega] at this
     exact this
    .rw [if_neg p,BT.get_node,if_neg h,if_neg p]
     refine i (n/2-1) (by omega) r λj d=> ?_
     have:=b (2*j+2) (by omega)
     rw [BT.get_node,if_neg (by omega),if_neg (by omega),show (2*j+2)/2-1=j by omega] at this
     exact this
theorem qx:∀(l:List Obj) (i:Nat) (t:BT),(∀j,j< i->(t.get j).isSome=true)->∀j,(iw l i t).get j=if i<=j/\j< i+l.length then l[j-i]? else t.get j
 | [],i,t,_,j=>by
  rw [if_neg (by simp only [Hf];omega)];rfl
 | o::l,i,t,b,j=>by
  have d:=Cz o i t b
  have h:=BT.get_ins o t i d
  show (iw l (i+1) (t.ins i o)).get j=_
  rw [qx l (i+1) (t.ins i o) (λk hk=>by
   rw [h]
   by_cases e:k=i
   .rw [if_pos e];rfl
   .rw [if_neg e];exact b k (by omega)) j,h]
  simp only [Fb]
  by_cases e:j=i
  .subst e
   rw [if_neg (by omega),if_pos rfl,if_pos (by omega),Nat.sub_self];rfl
  .by_cases c:i+1<=j/\j< i+1+l.length
   .rw [if_pos c,if_pos (by omega),show j-i=(j-(i+1))+1 by omega];rfl
   .rw [if_neg c,if_neg e,if_neg (by omega)]
def qF (s:Fc):Hq:=⟨iw s.heap.objs.toList 0 .nil,s.heap.objs.size,s.heap.life,s.gens,s.drawn,s.toks,s.os⟩
theorem xm (s:Fc):(qF s).abs=s:=by
 obtain ⟨⟨o,l⟩,g,drawn,toks,os⟩:=s
 have:absHeap (iw o.toList 0 .nil) o.size l=⟨o,l⟩:=by
  have e:(absHeap (iw o.toList 0 .nil) o.size l).objs=o:=by
   apply Array.ext_getElem?
   intro i
   rw [absHeap_at,qx o.toList 0 .nil (λj b=>by omega) i]
   by_cases h:i< o.size
   .rw [if_pos h,if_pos (by simpa using h),Nat.sub_zero,Array.getElem?_toList]
    rw [Array.getElem?_eq_getElem h];rfl
   .rw [if_neg h,Array.getElem?_eq_none (by omega)]
  show Heap.mk _ _=_
  exact congrArg (Heap.mk · l) e
 show Shared.mk _ _ _ _ _=_
 exact congrArg (Shared.mk · g drawn toks os) this
def pb {b:Type} (s:Hq) (k:Hq->b):b:=match s with
 | ⟨T,n,l,g,drawn,toks,os⟩=>match n with
  | 0=>(match toks with
   | 0=>k ⟨T,0,l,g,drawn,0,os⟩
   | t+1=>k ⟨T,0,l,g,drawn,t+1,os⟩)
  | m+1=>(match toks with
   | 0=>k ⟨T,m+1,l,g,drawn,0,os⟩
   | t+1=>k ⟨T,m+1,l,g,drawn,t+1,os⟩)
theorem uQ {b:Type} (s:Hq) (k:Hq->b):pb s k=k s:=by
 obtain ⟨T,n,l,g,drawn,toks,os⟩:=s
 cases n<;>cases toks<;>rfl
def jH (d:Code->Sem Fin) (p:Program) (w:E7) (e:Nat) (b:Option E9):Nat->Hq->Thread->Option Hq
 | 0,_,_=>none
 | n+1,s,t=>match through t with
  | true=>some s
  | false=>match stepOk e b t with
   | false=>none
   | true=>match stepT d p w s t with
    | some x=>jH d p w e b n x.1 x.2
    | none=>none
theorem qz {f:String->Option Builtin} {p:Program} {w:E7} {e:Nat} {b:Option E9}:∀(n:Nat) (s:Hq) (t:Thread) (r:Hq),
 jH (FK f) p w e b n s t=some r->topRun f p w e b n s.abs t=some r.abs
 | 0,_,_,_,h=>by cases h
 | n+1,s,t,r,h=>by
  unfold jH at h
  unfold topRun
  cases g:through t with
  | true=>rw [g] at h;cases h;rfl
  | false=>
   rw [g] at h
   cases hk:stepOk e b t with
   | false=>rw [hk] at h;cases h
   | true=>
    rw [hk] at h
    cases d:stepT (FK f) p w s t with
    | none=>rw [d] at h;cases h
    | some x=>obtain ⟨i,j⟩:=x;rw [d] at h;rw [stepT_spec d];exact qz n i j r h
def ls (p:Program) (w:E7) (d:Nat) (b:Option E9):Nat->Hq->Thread->Option Hq
 | 0,_,_=>none
 | n+1,s,t=>match through t with
  | true=>some s
  | false=>match PySem.W.Fast.tw6613529449190102663 d b t with
   | false=>none
   | true=>match Ij (F5 F4) p w s t with
    | some x=>pb x.1 λe=>ls p w d b n e x.2
    | none=>none
theorem qD {p:Program} {w:E7} {d:Nat} {b:Option E9}:∀(n:Nat) (s:Hq) (t:Thread),jH (FK treeTable) p w d b n s t=ls p w d b n s t
 | 0,_,_=>rfl
 | n+1,s,t=>by
  unfold jH ls
  rw [<-PySem.W.Fast.te6613529449190102663,<-Ik,<-Hj,<-Hi]
  simp only [qD n,uQ]
def kD (d:Code->Sem Fin) (p:Program) (w:E7):Nat->Hq->Thread->Option Hq
 | 0,_,_=>none
 | n+1,s,t=>match t.atExitBegin with
  | some l=>match l with
   | []=>some s
   | _::_=>none
  | none=>match stepT d p w s t with
   | some x=>kD d p w n x.1 x.2
   | none=>none
theorem uy {d:String->Option Builtin} {p:Program} {w:E7}:∀(n:Nat) (s:Hq) (t:Thread) (r:Hq),
 kD (FK d) p w n s t=some r->importEnds d p w n s.abs t=some r.abs
 | 0,_,_,_,h=>by cases h
 | n+1,s,t,r,h=>by
  unfold kD at h
  unfold importEnds
  cases e:t.atExitBegin with
  | some l=>
   rw [e] at h
   cases l with
   | nil=>cases h;rfl
   | cons=>cases h
  | none=>
   rw [e] at h
   cases b:stepT (FK d) p w s t with
   | none=>rw [b] at h;cases h
   | some x=>obtain ⟨f,g⟩:=x;rw [b] at h;dsimp only;rw [stepT_spec b];exact uy n f g r h
def l7 (p:Program) (w:E7):Nat->Hq->Thread->Option Hq
 | 0,_,_=>none
 | n+1,s,t=>match PySem.W.Fast.tw3805553451399329143 t with
  | some l=>match l with
   | []=>some s
   | _::_=>none
  | none=>match Ij (F5 F4) p w s t with
   | some x=>pb x.1 λb=>l7 p w n b x.2
   | none=>none
theorem uz {p:Program} {w:E7}:∀(n:Nat) (s:Hq) (t:Thread),kD (FK treeTable) p w n s t=l7 p w n s t
 | 0,_,_=>rfl
 | n+1,s,t=>by
  unfold kD l7
  rw [<-PySem.W.Fast.te3805553451399329143,<-Ik,<-Hj,<-Hi]
  simp only [uz n,uQ]
def qv (p:Program):Program:={p with main:={p.main with body:=p.main.body.drop 53}}
def ky (p:Program):List Str:=p.main.scope.names.filterMap λx=>if x.2== .local&&x.1 !=(⟨#[108,97,119]⟩:Str)&&x.1 !=(⟨#[95,95,110,97,109,101,95,95]⟩:Str) then some x.1 else none
def i6:List Str:=PySem.W.Fast.tw5923862056798008813 pq.main.body
theorem tL:importedModules pq.main.body=i6:=by unfold i6;rw [<-PySem.W.Fast.te5923862056798008813]
def sH:Hq:=⟨.nil,0,{}, #[],{},1,(start (opening pq)).1.os⟩
theorem zy:sH.abs=(start (opening pq)).1:=by kernel_rfl
def qE (w:E7) (s:Fc):Option Hq:=match s.heap.isNs mainGlobals&&s.gens.size==0 with
 | true=>(ls pq w s.heap.objs.size (PySem.W.Fast.tw8920871248978507458 s.heap mainGlobals "__annotations__") 22000 (qF s) (topStub pq)).bind λr=>
  match staticsOk i6 s.heap r.abs.heap&&namesBound pq r.abs.heap&&gensDone r.abs&&laidKept s.heap r.abs.heap with
  | true=>some r
  | false=>none
 | false=>none
def nZ (w:E7):Option Hq:=
 (l7 (opening pq) w 22000 sH (PySem.W.Fast.tw1435165496053646825 (opening pq)).2).bind λs=>(PySem.W.Fast.tw14289696077712309145 pq s.abs).bind (qE w)
theorem z9 (w:E7) (r:Hq) (h:nZ w=some r):openEnds treeTable pq w 22000=some r.abs:=by
 unfold nZ at h
 rw [<-uz,<-PySem.W.Fast.te1435165496053646825,<-PySem.W.Fast.te14289696077712309145] at h
 obtain ⟨s,m,n⟩:=HZ.mp h
 obtain ⟨e,o,d⟩:=HZ.mp n
 have g:=uy _ _ _ _ m
 rw [zy] at g
 unfold openEnds fencedOpening
 rw [g]
 show ((fenceModules? pq s.abs)).bind _=_
 rw [o]
 show topFrom treeTable pq w 22000 e=_
 unfold qE at d
 unfold topFrom
 cases l:(e.heap.isNs mainGlobals&&e.gens.size==0) with
 | false=>rw [l] at d;cases d
 | true=>
  rw [l] at d
  dsimp only at d⊢
  rw [<-PySem.W.Fast.te8920871248978507458] at d
  obtain ⟨b,i,f⟩:=HZ.mp d
  rw [<-qD] at i
  have j:=qz _ _ _ _ i
  rw [xm] at j
  rw [j,tL]
  show (match staticsOk i6 e.heap b.abs.heap&&namesBound pq b.abs.heap&&gensDone b.abs&&laidKept e.heap b.abs.heap with | true=>some b.abs | false=>none)=_
  cases k:(staticsOk i6 e.heap b.abs.heap&&namesBound pq b.abs.heap&&gensDone b.abs&&laidKept e.heap b.abs.heap) with
  | false=>rw [k] at f;cases f
  | true=>rw [k] at f;cases f;rfl
theorem Ex (w:E7):(nZ w).map (λs=>
 (PySem.W.Fast.tw4187177175401517315 (qv pq) (ky pq) i6 (λ_=>true) true s.abs,PySem.W.X.obsZ kQ s.abs))=
 some (openGood (qv pq) (ky pq),PySem.W.X.valZ base 1228 1959 w):=by kernel_rfl
theorem BQ:LeftO pq (qv pq) (ky pq) (λ_=>true) (PySem.W.X.obsZ kQ) (PySem.W.X.valZ base 1228 1959) 22000:=λw=>by
 have h:=Ex w
 rw [<-PySem.W.Fast.te4187177175401517315] at h
 obtain ⟨r,b,d⟩:=H3.mp h
 rw [z9 w r b,tL]
 exact congrArg some d
abbrev dR:=Addr×Obj
abbrev ao:=List dR
inductive cG where
 | base
 | ret (c:Code) (hd:Option E9) (p:Pos) (k:HF->Sem Fin) (κ:cG)
inductive St where
 | run (c:Code) (p:Pos) (κ:cG) (t:Sem Fin) (cells:ao)
 | enter (c:Code) (p:Pos) (κ:cG) (cells:ao)
 | ret (r:HF) (κ:cG) (cells:ao)
inductive dj where
 | bad
 | stop (st:St)
 | ob (x y:Nat) (o:dj)
def tr (o:dj):List Nat:=dj.rec (motive:=λ_=>List Nat) [] (λ_=>[]) (λx _ _ i=>x::i) o
def lQ (o:dj):List Nat:=dj.rec (motive:=λ_=>List Nat) [] (λ_=>[]) (λ_ y _ i=>y::i) o
def ph (o:dj):Option St:=dj.rec (motive:=λ_=>Option St) none (λst=>some st) (λ_ _ _ i=>i) o
def eA (l:ao) (i:Nat):Option dR:=List.rec (motive:=λ_=>Nat->Option dR) (λ_=>none) (λx _ b i=>Nat.rec (motive:=λ_=>Option dR) (some x) (λk _=>b k) i) l i
def put (l:ao) (i:Nat) (x:dR):ao:=List.rec (motive:=λ_=>Nat->ao) (λ_=>[]) (λy l b i=>Nat.rec (motive:=λ_=>ao) (x::l) (λk _=>y::b k) i) l i
theorem oo:∀(l:ao) (i:Nat),eA l i=l[i]?
 | [],_=>rfl
 | _::_,0=>rfl
 | _::l,i+1=>(oo l i).trans (by simp)
theorem sT (x:dR):∀(l:ao) (i:Nat),put l i x=l.set i x
 | [],_=>rfl
 | _::_,0=>rfl
 | y::l,i+1=>congrArg (y:: ·) (sT x l i)
def below (B:List (Code×Pos)):cG->List (Code×Pos)
 | .base=>B
 | .ret c _ p _ b=>(c,p)::below B b
def jn (H:Option E9):cG->Option E9
 | .base=>H
 | .ret _ h _ _ b=>match h with
  | some e=>some e
  | none=>jn H b
def j9 (h:Option E9):Bool:=match h with
 | none=>true
 | some v=>match v with
  | .notImplemented=>false
  | _=>true
def kg:cG->Prop
 | .base=>True
 | .ret _ h _ _ b=>j9 h=true/\kg b
def lvl:cG->Nat
 | .base=>0
 | .ret _ _ _ _ b=>lvl b+1
def cE (b:Ctx):cG->Code->Ctx
 | .base,c=>b.goto c
 | .ret d h p _ e,c=>(cE b e d).enter c h p
def lN (c:Code):Bool:=match c with
 | .builtin _ _=> !Ie ⟨.pure (.again c),c,default,[]⟩
 | _=>true
theorem zH {c:Code} (h:lN c=true):c.quiet=true:=by
 cases c with
 | builtin id d=>
  have b:(!Ie ⟨.pure (.again (.builtin id d)), .builtin id d,default,[]⟩)=true:=h
  rw [<-PySem.W.Fast.te15578638425004381011] at b
  unfold Code.quiet Thread.loud
  simp only [Bool.not_eq_true'] at b
  rw [b];rfl
 | _=>rfl
structure fz where
 D:Code->Sem Fin
 G:Setting
 kt:Nat->Option Obj
 B:List (Code×Pos)
 H:Option E9
 d:Nat
def xQ (V:fz) (v:Nat) (d j:Nat->St->dj) (N:Nat) (st:St):dj:=match st with
 | .run c p b t cells=>match t with
  | .pure fin=>match fin with
   | .done f=>d N (.ret (.ok f) b cells)
   | .again g=>match lN g with
    | true=>d N (.enter g p b cells)
    | false=> .bad
  | .raise e=>d N (.ret (.error e) b cells)
  | .rule _ k=>d N (.run c p b (k ()) cells)
  | .at q k=>d N (.run c q b (k ()) cells)
  | .point _ k=>d N (.run c p b (k ()) cells)
  | .ask k=>d N (.run c p b (k V.G) cells)
  | .load a _ k=>match N %4096 with
   | 0=>match V.kt a with
    | some o=>d (N/4096) (.run c p b (k o) cells)
    | none=> .bad
   | i+1=>match eA cells i with
    | some x=> .ob a x.1 (d (N/4096) (.run c p b (k x.2) cells))
    | none=> .bad
  | .loadIfAlive a k=>match N %4096 with
   | 0=>match V.kt a with
    | some o=>d (N/4096) (.run c p b (k (some o)) cells)
    | none=> .bad
   | i+1=>match eA cells i with
    | some x=> .ob a x.1 (d (N/4096) (.run c p b (k (some x.2)) cells))
    | none=> .bad
  | .update a _ f k=>match N %4096 with
   | 0=> .bad
   | i+1=>match eA cells i with
    | some x=>match (f x.2).isFreed with
     | true=> .bad
     | false=> .ob a x.1 (d (N/4096) (.run c p b (k ()) (put cells i (x.1,f x.2))))
    | none=> .bad
  | .alloc o k=>match o.isFreed with
   | true=> .bad
   | false=>j N (.run c p b (k v) ((v,o)::cells))
  | .fresh k=>j N (.run c p b (k v) cells)
  | .handled own k=>match own with
   | true=> .bad
   | false=>d N (.run c p b (k (jn V.H b)) cells)
  | .stack k=>d N (.run c p b (k ((c,p)::below V.B b)) cells)
  | .call g h _ _ k=>match j9 h with
   | true=>d N (.enter g p (.ret c h p k b) cells)
   | false=> .bad
  | _=> .bad
 | .enter c p b cells=>match N %4096 with
  | 0=> .stop st
  | _+1=>match GZ (lvl b) V.d with
   | true=>d (N/4096) (.run c p b (V.D c) cells)
   | false=> .bad
 | .ret r b cells=>match b with
  | .base=> .stop st
  | .ret c _ p k l=>d N (.run c p l (k r) cells)
def ly (V:fz) (b:Nat->Nat) (i:Nat->Nat->St->dj) (N j:Nat) (st:St):dj:=xQ V (b j) (λN=>i N j) (λN=>i N (j+1)) N st
def go (V:fz) (b:Nat->Nat) (f:Nat):Nat->Nat->St->dj:=Nat.rec (motive:=λ_=>Nat->Nat->St->dj) (λ_ _ _=> .bad) (λ_ i=>ly V b i) f
theorem xR {V:fz} {e f:Nat->Nat} {b d:Nat->Nat->St->dj} {j:Nat} (k:∀i,j<=i->e i=f i) (h:∀N st,b N j st=d N j st) (g:∀N st,b N (j+1) st=d N (j+1) st) (N:Nat) (st:St):
 ly V e b N j st=ly V f d N j st:=by
 unfold ly
 rw [k j (FM _),show (λN=>b N j)=λN=>d N j from funext λN=>funext λst=>h N st,show (λN=>b N (j+1))=λN=>d N (j+1) from funext λN=>funext λst=>g N st]
theorem mf {V:fz}:∀(f:Nat) {ν ν':Nat->Nat} {j:Nat},(∀i,j<=i->ν i=ν' i)->∀N st,go V ν f N j st=go V ν' f N j st
 | 0,_,_,_,_,_,_=>rfl
 | n+1,ν,ν',j,h,N,st=>xR h (λN st=>mf n h N st) (λN st=>mf n (λi b=>h i (Nat.le_of_succ_le b)) N st) N st
def dT (o:dj) (K:St->Prop):Prop:=tr o=lQ o/\(match ph o with | some st=>K st | none=>False)
def xh (o:dj) (K:St->Prop):Prop:=lQ o=lQ o/\(match ph o with | some st=>K st | none=>True)
theorem iX {x y:Nat} {o:dj} {K:St->Prop} (h:dT (.ob x y o) K):x=y/\dT o K:=by
 obtain ⟨d,f⟩:=h
 have e:x::tr o=y::lQ o:=d
 injection e with a b
 exact ⟨a,b,f⟩
theorem bS {K:St->Prop} (h:dT .bad K):False:=h.2
structure a9 (kt:Nat->Option Obj) (hs:Heap) (own:List Addr) (h:Heap) (cells:ao):Prop where
 has:∀p∈cells,h.get? p.1=some p.2
 nd:(cells.map (·.1)).Nodup
 old:∀b o,hs.get? b=some o->b∉own->h.get? b=some o
 frs:∀p∈cells,p.1∈own\/hs.objs.size<=p.1
 base:∀a o,kt a=some o->h.get? a=some o
 hi:∀p∈cells,kt p.1=none
 ow:∀a∈own,a< h.objs.size
 sz:hs.objs.size<=h.objs.size
 ge:∀p∈cells,1228<=p.1
 lo:1228<=hs.objs.size
section
variable {kt:Nat->Option Obj} {hs h:Heap} {own:List Addr} {cells:ao}
theorem a9.at (I:a9 kt hs own h cells) {i:Nat} {x:dR} (e:eA cells i=some x):h.get? x.1=some x.2:=by
 rw [oo] at e
 exact I.has x (Fz e)
theorem a9.alloc (I:a9 kt hs own h cells) {o:Obj} (g:o.isFreed=false):a9 kt hs own (h.push o) ((h.objs.size,o)::cells):=by
 have k:∀a x,h.get? a=some x->a≠h.objs.size:=λa x e=>Nat.ne_of_lt (Ir e)
 refine ⟨λp hp=> ?_, ?_,λb x e f=>Hm _ (I.old b x e f),λp hp=> ?_,λa x e=>Hm _ (I.base a x e),λp hp=> ?_,λa d=> ?_, ?_,λp hp=> ?_,I.lo⟩
 .rcases GP.mp hp with rfl | hp
  .exact Heap.get?_push_size _ g
  .exact Hm _ (I.has p hp)
 .rw [Fu]
  refine GO.mpr ⟨λi=> ?_,I.nd⟩
  obtain ⟨p,hp,e⟩:=Gj.mp i
  exact k _ _ (I.has p hp) e
 .rcases GP.mp hp with rfl | hp
  .exact .inr I.sz
  .exact I.frs p hp
 .rcases GP.mp hp with rfl | hp
  .cases q:kt h.objs.size with
   | none=>rfl
   | some x=>exact absurd rfl (k _ _ (I.base _ _ q))
  .exact I.hi p hp
 .rw [Heap.size_push];exact Nat.lt_succ_of_lt (I.ow a d)
 .rw [Heap.size_push];exact Nat.le_succ_of_le I.sz
 .rcases GP.mp hp with rfl | hp
  .exact FZ I.lo I.sz
  .exact I.ge p hp
theorem rh:∀{l:ao} {i:Nat} {x:dR} {o:Obj},l[i]? =some x->(l.set i (x.1,o)).map (·.1)=l.map (·.1)
 | [],_,_,_,e=>nomatch e
 | _::_,0,_,_,e=>by cases e;rfl
 | y::l,i+1,x,o,e=>by
  show y.1::(l.set i (x.1,o)).map (·.1)=y.1::l.map (·.1)
  rw [rh (by simpa using e)]
theorem tz:∀{l:ao},(l.map (·.1)).Nodup->∀{p q:dR},p∈l->q∈l->p.1=q.1->p=q
 | [],_,_,_,hp,_,_=>nomatch hp
 | x::l,f,p,q,hp,g,e=>by
  rw [Fu,GO] at f
  rcases GP.mp hp with d | d
  .rcases GP.mp g with b | b
   .rw [d,b]
   .exact absurd (by rw [<-d,e];exact Fa b) f.1
  .rcases GP.mp g with b | b
   .exact absurd (by rw [<-b,<-e];exact Fa d) f.1
   .exact tz f.2 d b e
theorem a9.update (I:a9 kt hs own h cells) {i:Nat} {x:dR} {f:Obj->Obj} (e:eA cells i=some x) (o:(f x.2).isFreed=false):a9 kt hs own (h.update x.1 f) (put cells i (x.1,f x.2)):=by
 have t:=I.at e
 rw [oo] at e
 rw [sT]
 have g:=Fz e
 have j:Heap.SameBut x.1 h (h.update x.1 f):=Heap.SameBut.update ..
 have keys:=rh (o:=f x.2) e
 have l:(h.update x.1 f).get? x.1=some (f x.2):=Heap.get?_update_self f t o
 have m:∀p,p∈cells.set i (x.1,f x.2)->p=(x.1,f x.2)\/(p∈cells/\p.1≠x.1):=λp hp=>by
  rcases List.mem_or_eq_of_mem_set hp with q | q
  .by_cases z:p.1=x.1
   .left
    have s:((cells.set i (x.1,f x.2)).map (·.1)).Nodup:=by rw [keys];exact I.nd
    obtain ⟨r,_⟩:=E8.mp e
    exact tz s hp (List.mem_set r _) z
   .exact .inr ⟨q,z⟩
  .exact .inl q
 refine ⟨λp hp=> ?_,by rw [keys];exact I.nd,λb y d k=> ?_,λp hp=> ?_,λa y d=> ?_,λp hp=> ?_,λa n=>by rw [j.1];exact I.ow a n,by rw [j.1];exact I.sz,λp hp=>(by rcases m p hp with rfl | ⟨q,z⟩<;>first | exact I.ge x g | exact I.ge p q),I.lo⟩
 .rcases m p hp with rfl | ⟨q,z⟩
  .exact l
  .exact (j.2 _ z).trans (I.has p q)
 .have z:b≠x.1:=by
   rintro rfl
   rcases I.frs x g with q | q
   .exact k q
   .exact absurd (Ir d) (Nat.not_lt_of_le q)
  exact (j.2 _ z).trans (I.old b y d k)
 .rcases m p hp with rfl | ⟨q,z⟩
  .exact I.frs x g
  .exact I.frs p q
 .have z:a≠x.1:=by
   rintro rfl
   have:=I.hi x g
   rw [d] at this;cases this
  exact (j.2 _ z).trans (I.base a y d)
 .rcases m p hp with rfl | ⟨q,z⟩
  .exact I.hi x g
  .exact I.hi p q
end
def cF (l:List (Code×Pos)):Nat:=((l.map (·.1)).map (·.frames)).sum+((l.map (·.1)).filter HA).length
theorem DR {c:Prop} [Decidable c] {f:c->Nat} {g:¬c->Nat} {n:Nat} (b:∀h,f h<=n) (d:∀h,g h<=n):dite c f g<=n:=by
 by_cases h:c
 .rw [dif_pos h];exact b h
 .rw [dif_neg h];exact d h
theorem uj (b:Bool):(if b=true then 1 else 0:Nat)<=3:=by cases b<;>decide
theorem uN (c:Code):c.frames<=3:=by
 cases c with
 | builtin id b=>
  delta Code.frames Code.frames.match_1
  dsimp only
  repeat' refine DR (λh=> ?_) (λh=> ?_)
  all_goals first | exact uj _ | (subst h;exact GU rfl)
 | _=>first | exact GU rfl | (show (if Code.isFrame _=true then 1 else 0)<=3;exact uj _)
theorem vB (c:Code) (p:Pos) (l:List (Code×Pos)):cF ((c,p)::l)<=cF l+4:=by
 have h:=uN c
 unfold cF
 simp only [Fu,List.sum_cons,GI]
 cases c.isCreation with
 | true=>rw [if_pos rfl,Fb];omega
 | false=>rw [if_neg Fg];omega
theorem vI (c:Code):c.cUnits<=10:=by
 have h:=Nat.mul_le_mul_left 3 (uN c)
 cases c with
 | builtin id b=>exact Nat.add_le_add_left h 1
 | call=>exact GU rfl
 | _=>exact FZ h (by decide)
theorem wT (c:Code) (p:Pos) (l:List (Code×Pos)):HR ((c,p)::l)<=HR l+10:=by
 have h:=vI c
 rw [unitsOf_cons];omega
theorem kJ (d:Ctx) (b:cG) (c:Code):(cE d b c).code=c:=by cases b<;>rfl
theorem kK (d:Ctx):∀(b:cG) (c:Code),(cE d b c).below=below d.below b
 | .base,_=>rfl
 | .ret e h p k b,c=>by
  show (((cE d b e).code,p)::(cE d b e).below)=(e,p)::below d.below b
  rw [kJ,kK d b e]
theorem El (e:Ctx) (b:cG) (c d:Code):(cE e b c).goto d=cE e b d:=by cases b<;>rfl
theorem Ab {b:Option E9} (h:j9 b=true):b≠some byPass:=by
 rintro rfl
 cases h
theorem pk (d:Ctx):∀(b:cG) (c:Code),kg b->(cE d b c).handled=jn d.handled b
 | .base,_,_=>rfl
 | .ret e f p k b,c,h=>by
  show markOver f (cE d b e).handled (cE d b e).past=_
  rw [markOver_of_ne (Ab h.1),pk d b e h.2]
  cases f<;>rfl
theorem vy (d:Ctx) (b:cG) (c:Code):cF (cE d b c).below<=cF d.below+4*lvl b:=by
 rw [kK]
 induction b generalizing c with
 | base=>exact FM _
 | ret e g p k b i=>
  have h:=vB e p (below d.below b)
  have f:=i e
  show cF ((e,p)::below d.below b)<=cF d.below+4*(lvl b+1)
  omega
theorem vx (d:Ctx) (b:cG) (c:Code):HR (cE d b c).below<=HR d.below+10*lvl b:=by
 rw [kK]
 induction b generalizing c with
 | base=>exact FM _
 | ret e g p k b i=>
  have h:=wT e p (below d.below b)
  have f:=i e
  show HR ((e,p)::below d.below b)<=HR d.below+10*(lvl b+1)
  omega
structure dQ (d:Nat) (Γ:Ctx):Prop where
 cnt:cF Γ.below+4*d<=640
 units:HR Γ.below+10*d<=2000
abbrev ca (kt:Nat->Option Obj) (h:Heap):Prop:=∀a o,kt a=some o->h.get? a=some o
structure wb (w:E7) (V:fz):Prop where
 G:V.G=⟨pq,w.params⟩
 ok:∀(c:Code) (Γ:Ctx),Γ.code=c->cF Γ.below<=640->HR Γ.below<=2000->∀(p:Pos) (s:Fc) (Q:Fin->Pos->Fc->Prop) (E:E9->Pos->Fc->Prop),
  wp (FQ pq w) Γ (V.D c) (λa p s'=>ca V.kt s'.heap/\Q a p s') (λe p s'=>ca V.kt s'.heap/\E e p s') p s->wp (FQ pq w) Γ (FK table c) Q E p s
def jx (M:Model) (b:Ctx) (kt:Nat->Option Obj) (F:HF->Fc->Prop):cG->HF->Fc->Prop
 | .base=>F
 | .ret c _ p k d=>λr s=>wp M (cE b d c) (k r) (λfin p s=>ca kt s.heap/\finPost M (cE b d c) (jx M b kt F d) fin p s) (λe _ s=>ca kt s.heap/\jx M b kt F d (.error e) s) p s
def FP (M:Model) (b:Ctx) (kt:Nat->Option Obj) (F:HF->Fc->Prop) (d:cG) (c:Code):Fin->Pos->Fc->Prop:=
 λfin p s=>ca kt s.heap/\finPost M (cE b d c) (jx M b kt F d) fin p s
def FE (M:Model) (b:Ctx) (kt:Nat->Option Obj) (F:HF->Fc->Prop) (d:cG):E9->Pos->Fc->Prop:=
 λe _ s=>ca kt s.heap/\jx M b kt F d (.error e) s
def pS (M:Model) (d:Ctx) (kt:Nat->Option Obj) (F:HF->Fc->Prop):St->Fc->Prop
 | .run c p b t _,s=>wp M (cE d b c) t (FP M d kt F b c) (FE M d kt F b) p s
 | .enter c p b _,s=>wpCode M (cE d b c) (jx M d kt F b) p s
 | .ret r b _,s=>jx M d kt F b r s
def oQ:St->cG
 | .run _ _ b _ _=>b
 | .enter _ _ b _=>b
 | .ret _ b _=>b
def kL:St->ao
 | .run _ _ _ _ cells=>cells
 | .enter _ _ _ cells=>cells
 | .ret _ _ cells=>cells
structure cZ (s s':Fc):Prop where
 gens:s'.gens=s.gens
 drawn:s'.drawn=s.drawn
 os:s'.os=s.os
theorem cZ.refl (s:Fc):cZ s s:=⟨rfl,rfl,rfl⟩
theorem cZ.trans {a b c:Fc} (x:cZ a b) (y:cZ b c):cZ a c:=⟨y.gens.trans x.gens,y.drawn.trans x.drawn,y.os.trans x.os⟩
def upd (b:Nat->Nat) (j v:Nat):Nat->Nat:=λi=>if i=j then v else b i
theorem ma {w:E7} {V:fz} (L:wb w V) {E:Ctx} (M:dQ V.d E) (P:V.B=E.below) (Q:V.H=E.handled) {hs:Heap} {own:List Addr} {F:HF->Fc->Prop}:
 ∀(X N j:Nat) (st:St) (s:Fc) (K:(Nat->Nat)->St->Prop),kg (oQ st)->a9 V.kt hs own s.heap (kL st)->(∀m,dT (go V m X N j st) (K m))->
  (∀A D,kg (oQ A)->a9 V.kt hs own D.heap (kL A)->cZ s D->(∃m,K m A)->pS (FQ pq w) E V.kt F A D)->pS (FQ pq w) E V.kt F st s
 | 0,N,j,st,s,K,hk,I,h,v=>(bS (h λ_=>0)).elim
 | n+1,N,j, .enter c p u cells,s,K,hk,I,h,v=>by
  have g:∀m,dT (match N %4096 with
   | 0=> .stop (.enter c p u cells)
   | _+1=>match GZ (lvl u) V.d with
    | true=>go V m n (N/4096) j (.run c p u (V.D c) cells)
    | false=> .bad) (K m):=h
  cases C:N %4096 with
  | zero=>
   simp only [C] at g
   exact v _ s hk I (cZ.refl s) ⟨λ_=>0,(g λ_=>0).2⟩
  | succ i=>
   simp only [C] at g
   cases T:GZ (lvl u) V.d with
   | false=>simp only [T] at g;exact (bS (g λ_=>0)).elim
   | true=>
    simp only [T] at g
    have Z:=ma L M P Q (F:=F) n (N/4096) j (.run c p u (V.D c) cells) s K hk I g v
    have l:=GU T
    have c1:=vy E u c
    have c2:=vx E u c
    have g1:=M.cnt
    have g2:=M.units
    show wpCode _ _ _ _ _
    rw [F1,kJ]
    exact L.ok c (cE E u c) (kJ ..) (by omega) (by omega) p s _ _ Z
 | n+1,N,j, .ret r u cells,s,K,hk,I,h,v=>by
  cases u with
  | base=>exact v _ s hk I (cZ.refl s) ⟨λ_=>0,(h λ_=>0).2⟩
  | ret c O p k u=>
   exact ma L M P Q (F:=F) n N j (.run c p u (k r) cells) s K hk.2 I h v
 | n+1,N,j, .run c p u t cells,s,K,hk,I,h,v=>by
  have y:=λN j st s K=>ma L M P Q (hs:=hs) (own:=own) (F:=F) n N j st s K
  show wp _ _ _ _ _ _ _
  cases t with
  | pure fin=>
   rw [Sem.wp_pure]
   refine ⟨I.base, ?_⟩
   cases fin with
   | done f=>exact y N j (.ret (.ok f) u cells) s K hk I h v
   | again G=>
    have g:∀m,dT (match lN G with | true=>go V m n N j (.enter G p u cells) | false=> .bad) (K m):=h
    cases W:lN G with
    | false=>simp only [W] at g;exact (bS (g λ_=>0)).elim
    | true=>
     simp only [W] at g
     refine ⟨zH W, ?_⟩
     rw [El]
     exact y N j (.enter G p u cells) s K hk I g v
  | raise e=>
   rw [Sem.wp_raise]
   exact ⟨I.base,y N j (.ret (.error e) u cells) s K hk I h v⟩
  | rule gt k=>rw [Sem.wp_rule];exact y N j (.run c p u (k ()) cells) s K hk I h v
  | «at» q k=>rw [Sem.wp_at];exact y N j (.run c q u (k ()) cells) s K hk I h v
  | point l k=>rw [Sem.wp_point];exact y N j (.run c p u (k ()) cells) s K hk I h v
  | ask k=>
   rw [Sem.wp_ask]
   have e:V.G=⟨(FQ pq w).prog,(FQ pq w).w.params⟩:=L.G
   rw [<-e]
   exact y N j (.run c p u (k V.G) cells) s K hk I h v
  | load a q k=>
   rw [Sem.wp_load]
   have g:∀m,dT (match N %4096 with
    | 0=>match V.kt a with
     | some o=>go V m n (N/4096) j (.run c p u (k o) cells)
     | none=> .bad
    | i+1=>match eA cells i with
     | some x=> .ob a x.1 (go V m n (N/4096) j (.run c p u (k x.2) cells))
     | none=> .bad) (K m):=h
   cases C:N %4096 with
   | zero=>
    simp only [C] at g
    cases H:V.kt a with
    | none=>simp only [H] at g;exact (bS (g λ_=>0)).elim
    | some o=>
     simp only [H] at g
     exact ⟨o,I.base a o H,y (N/4096) j (.run c p u (k o) cells) s K hk I g v⟩
   | succ i=>
    simp only [C] at g
    cases B:eA cells i with
    | none=>simp only [B] at g;exact (bS (g λ_=>0)).elim
    | some x=>
     simp only [B] at g
     obtain rfl:=(iX (g λ_=>0)).1
     exact ⟨x.2,I.at B,y (N/4096) j (.run c p u (k x.2) cells) s K hk I (λm=>(iX (g m)).2) v⟩
  | loadIfAlive a k=>
   rw [Sem.wp_loadIfAlive]
   have g:∀m,dT (match N %4096 with
    | 0=>match V.kt a with
     | some o=>go V m n (N/4096) j (.run c p u (k (some o)) cells)
     | none=> .bad
    | i+1=>match eA cells i with
     | some x=> .ob a x.1 (go V m n (N/4096) j (.run c p u (k (some x.2)) cells))
     | none=> .bad) (K m):=h
   cases C:N %4096 with
   | zero=>
    simp only [C] at g
    cases H:V.kt a with
    | none=>simp only [H] at g;exact (bS (g λ_=>0)).elim
    | some o=>
     simp only [H] at g
     rw [I.base a o H]
     exact y (N/4096) j (.run c p u (k (some o)) cells) s K hk I g v
   | succ i=>
    simp only [C] at g
    cases B:eA cells i with
    | none=>simp only [B] at g;exact (bS (g λ_=>0)).elim
    | some x=>
     simp only [B] at g
     obtain rfl:=(iX (g λ_=>0)).1
     rw [I.at B]
     exact y (N/4096) j (.run c p u (k (some x.2)) cells) s K hk I (λm=>(iX (g m)).2) v
  | update a q f k=>
   rw [Sem.wp_update]
   have g:∀m,dT (match N %4096 with
    | 0=> .bad
    | i+1=>match eA cells i with
     | some x=>match (f x.2).isFreed with
      | true=> .bad
      | false=> .ob a x.1 (go V m n (N/4096) j (.run c p u (k ()) (put cells i (x.1,f x.2))))
     | none=> .bad) (K m):=h
   cases C:N %4096 with
   | zero=>simp only [C] at g;exact (bS (g λ_=>0)).elim
   | succ i=>
    simp only [C] at g
    cases B:eA cells i with
    | none=>simp only [B] at g;exact (bS (g λ_=>0)).elim
    | some x=>
     simp only [B] at g
     cases J:(f x.2).isFreed with
     | true=>simp only [J] at g;exact (bS (g λ_=>0)).elim
     | false=>
      simp only [J] at g
      obtain rfl:=(iX (g λ_=>0)).1
      refine ⟨by rw [I.at B];rfl, ?_⟩
      exact y (N/4096) j (.run c p u (k ()) (put cells i (x.1,f x.2))) {s with heap:=s.heap.update x.1 f} K hk (I.update B J) (λm=>(iX (g m)).2) (λA D a b d e=>v A D a b ⟨d.gens,d.drawn,d.os⟩ e)
  | alloc o k=>
   rw [Sem.wp_alloc]
   have g:∀m,dT (match o.isFreed with
    | true=> .bad
    | false=>go V m n N (j+1) (.run c p u (k (m j)) ((m j,o)::cells))) (K m):=h
   cases J:o.isFreed with
   | true=>simp only [J] at g;exact (bS (g λ_=>0)).elim
   | false=>
    simp only [J] at g
    refine y N (j+1) (.run c p u (k s.heap.objs.size) ((s.heap.objs.size,o)::cells)) {s with heap:=s.heap.push o} (λm=>K (upd m j s.heap.objs.size)) hk (I.alloc J) (λm=> ?_)
     (λA D a b d e=>v A D a b ⟨d.gens,d.drawn,d.os⟩ (let ⟨m,q⟩:=e;⟨_,q⟩))
    have q:=g (upd m j s.heap.objs.size)
    have R:upd m j s.heap.objs.size j=s.heap.objs.size:=if_pos rfl
    have S:=λA=>mf (V:=V) n (ν:=upd m j s.heap.objs.size) (ν':=m) (j:=j+1) (λi Y=>if_neg (by omega)) N A
    rw [R,S] at q
    exact q
  | fresh k=>
   rw [Sem.wp_fresh]
   have g:∀m,dT (go V m n N (j+1) (.run c p u (k (m j)) cells)) (K m):=h
   refine y N (j+1) (.run c p u (k s.toks) cells) {s with toks:=s.toks+1} (λm=>K (upd m j s.toks)) hk I (λm=> ?_)
    (λA D a b d e=>v A D a b ⟨d.gens,d.drawn,d.os⟩ (let ⟨m,q⟩:=e;⟨_,q⟩))
   have q:=g (upd m j s.toks)
   have R:upd m j s.toks j=s.toks:=if_pos rfl
   have S:=λA=>mf (V:=V) n (ν:=upd m j s.toks) (ν':=m) (j:=j+1) (λi Y=>if_neg (by omega)) N A
   rw [R,S] at q
   exact q
  | handled own k=>
   rw [Sem.wp_handled]
   cases own with
   | true=>exact (bS (h λ_=>0)).elim
   | false=>
    rw [if_neg Fg,pk E u c hk,<-Q]
    exact y N j (.run c p u (k (jn V.H u)) cells) s K hk I h v
  | stack k=>
   rw [Sem.wp_stack,kJ,kK,<-P]
   exact y N j (.run c p u (k ((c,p)::below V.B u)) cells) s K hk I h v
  | call G O ac l k=>
   rw [Sem.wp_call]
   have g:∀m,dT (match j9 O with
    | true=>go V m n N j (.enter G p (.ret c O p k u) cells)
    | false=> .bad) (K m):=h
   cases U:j9 O with
   | false=>simp only [U] at g;exact (bS (g λ_=>0)).elim
   | true=>
    simp only [U] at g
    exact y N j (.enter G p (.ret c O p k u) cells) s K ⟨U,hk⟩ I g v
  | unsupported=>exact (bS (h λ_=>0)).elim
  | finish=>exact (bS (h λ_=>0)).elim
  | register=>exact (bS (h λ_=>0)).elim
  | choose=>exact (bS (h λ_=>0)).elim
  | os=>exact (bS (h λ_=>0)).elim
  | newGen=>exact (bS (h λ_=>0)).elim
  | genState=>exact (bS (h λ_=>0)).elim
  | resume=>exact (bS (h λ_=>0)).elim
  | «yield»=>exact (bS (h λ_=>0)).elim
  | fork=>exact (bS (h λ_=>0)).elim
  | thread=>exact (bS (h λ_=>0)).elim
  | await=>exact (bS (h λ_=>0)).elim
structure ap (s s':Fc) (own:List Addr) (all:ao):Prop where
 same:cZ s s'
 keep:∀b o,s.heap.get? b=some o->b∉own->s'.heap.get? b=some o
 has:∀q∈all,s'.heap.get? q.1=some q.2
 frs:∀q∈all,q.1∈own\/s.heap.objs.size<=q.1
 nd:(all.map (·.1)).Nodup
 size:s.heap.objs.size<=s'.heap.objs.size
structure af where
 d:Nat
 α:Type
 c:Code:=default
 need:ao
 r:α->HF:=λ_=> .ok .next
 put:α->List Obj:=λ_=>[]
 new:α->ao:=λ_=>[]
 post:α->Prop:=λ_=>True
 needB:List ao:=[]
 putB:α->List ao:=λ_=>[]
 newB:α->List ao:=λ_=>[]
 anyH:Bool:=false
 outer:Option (List Env):=none
def af.all (T:af):ao:=T.need++T.needB.flatten
def af.own (T:af):List Addr:=T.all.map (·.1)
def af.res (T:af) (x:T.α):ao:=(T.need.map (·.1)).zip (T.put x)++(T.new x++(T.putB x++T.newB x).flatten)
structure bu where
 w:E7
 kt:Nat->Option Obj
 D:Code->Sem Fin
 ok:∀B H d,wb w ⟨D,⟨pq,w.params⟩,kt,B,H,d⟩
structure d4 (kt:Nat->Option Obj) (all:ao) (s:Fc):Prop where
 base:ca kt s.heap
 has:∀q∈all,s.heap.get? q.1=some q.2
 nd:(all.map (·.1)).Nodup
 hi:∀q∈all,kt q.1=none
 ge:∀q∈all,1228<=q.1
 lo:1228<=s.heap.objs.size
def ab (e:bu) (T:af):Prop:=
 ∀(b:Ctx),b.code=T.c->(T.anyH=true\/b.handled=none)->(∀es,T.outer=some es->envsOf b.below=es)->dQ T.d b->∀(p:Pos) (s:Fc) (F:HF->Fc->Prop),d4 e.kt T.all s->
  (∀x d,T.post x->ap s d T.own (T.res x)->F (T.r x) d)->wpCode (FQ pq e.w) b F p s
abbrev keys (l:ao):List Addr:=l.map (·.1)
section
variable {kt:Nat->Option Obj} {hs h:Heap} {own:List Addr} {l l' r:ao} {s s':Fc}
theorem a9.perm (I:a9 kt hs own h l) (p:l.Perm l'):a9 kt hs own h l':=
 ⟨λq b=>I.has q (p.mem_iff.mpr b),(p.map _).nodup_iff.mp I.nd,I.old,λq b=>I.frs q (p.mem_iff.mpr b),I.base,λq b=>I.hi q (p.mem_iff.mpr b),I.ow,I.sz,λq b=>I.ge q (p.mem_iff.mpr b),I.lo⟩
theorem tI {a b:ao} (h:((a++b).map (·.1)).Nodup):(keys a).Nodup/\(keys b).Nodup/\∀x∈keys a,x∉keys b:=by
 rw [Fd,Gk] at h
 exact ⟨h.1,h.2.1,λx d e=>h.2.2 x d x e rfl⟩
theorem a9.sub (I:a9 kt hs own h (l++r)):a9 kt hs own h l:=
 have m:∀q∈l,q∈l++r:=λq b=>F3 _ b
 ⟨λq b=>I.has q (m q b),(tI I.nd).1,I.old,λq b=>I.frs q (m q b),I.base,λq b=>I.hi q (m q b),I.ow,I.sz,λq b=>I.ge q (m q b),I.lo⟩
theorem a9.start (P:d4 kt l s):a9 kt s.heap (keys l) s.heap l:=
 ⟨P.has,P.nd,λb o e _=>e,λp hp=> .inl (Fa hp),P.base,P.hi,λa d=>by
  obtain ⟨q,f,e⟩:=Gj.mp d
  exact e▸Ir (P.has q f),FM _,P.ge,P.lo⟩
theorem a9.pre (I:a9 kt hs own s.heap (l++r)):d4 kt l s:=
 have I:=I.sub
 ⟨I.base,I.has,I.nd,I.hi,I.ge,FZ I.lo I.sz⟩
theorem a9.after (I:a9 kt s.heap own s'.heap l) (hs:cZ s s'):ap s s' own l:=
 ⟨hs,I.old,I.has,I.frs,I.nd,I.sz⟩
theorem a9.rule {U res:ao} (I:a9 kt hs own s.heap (U++r)) (A:ap s s' (keys U) res):a9 kt hs own s'.heap (res++r):=by
 obtain ⟨E,C,D⟩:=tI I.nd
 have i:∀q∈U,q∈U++r:=λq d=>F3 _ d
 have m:∀q∈r,q∈U++r:=λq d=>FF _ d
 have k:∀a∈keys U,∃q∈U,q.1=a:=λa x=>by
  obtain ⟨q,d,e⟩:=Gj.mp x
  exact ⟨q,d,e⟩
 have u:∀q∈r,q.1∉keys U:=λq d g=>D _ g (Fa d)
 refine ⟨λp hp=> ?_, ?_,λb o e t=> ?_,λp hp=> ?_,λa o e=> ?_,λp hp=> ?_,λa B=>Nat.lt_of_lt_of_le (I.ow a B) A.size,FZ I.sz A.size,λp hp=> ?_,I.lo⟩
 .rcases GB.mp hp with hp | hp
  .exact A.has p hp
  .exact A.keep _ _ (I.has p (m p hp)) (u p hp)
 .rw [Fd,Gk]
  refine ⟨A.nd,C,λa v b w e=> ?_⟩
  subst e
  obtain ⟨p,hp,f⟩:=Gj.mp v
  obtain ⟨q,d,j⟩:=Gj.mp w
  rcases A.frs p hp with z | z
  .exact u q d (by rw [j,<-f];exact z)
  .have n:=Ir (I.has q (m q d))
   rw [j,<-f] at n
   exact absurd n (Nat.not_lt_of_le z)
 .refine A.keep _ _ (I.old b o e t) λg=> ?_
  obtain ⟨q,d,f⟩:=k b g
  rcases I.frs q (i q d) with z | z
  .exact t (f▸z)
  .rw [f] at z
   exact absurd (Ir e) (Nat.not_lt_of_le z)
 .rcases GB.mp hp with hp | hp
  .rcases A.frs p hp with z | z
   .obtain ⟨q,d,f⟩:=k _ z
    rw [<-f];exact I.frs q (i q d)
   .exact .inr (FZ I.sz z)
  .exact I.frs p (m p hp)
 .refine A.keep _ _ (I.base a o e) λg=> ?_
  obtain ⟨q,d,f⟩:=k a g
  have:=I.hi q (i q d)
  rw [f,e] at this;cases this
 .rcases GB.mp hp with hp | hp
  .rcases A.frs p hp with z | z
   .obtain ⟨q,d,f⟩:=k _ z
    rw [<-f];exact I.hi q (i q d)
   .cases y:kt p.1 with
    | none=>rfl
    | some o=>exact absurd (Ir (I.base _ _ y)) (Nat.not_lt_of_le z)
  .exact I.hi p (m p hp)
 .rcases GB.mp hp with hp | hp
  .rcases A.frs p hp with z | z
   .obtain ⟨q,d,f⟩:=k _ z
    rw [<-f];exact I.ge q (i q d)
   .exact FZ (FZ I.lo I.sz) z
  .exact I.ge p (m p hp)
end
def fn {A:Type} (l:List A) (i:Nat):Option A:=List.rec (motive:=λ_=>Nat->Option A) (λ_=>none) (λx _ b i=>Nat.rec (motive:=λ_=>Option A) (some x) (λk _=>b k) i) l i
def gw {A:Type} (l:List A) (i:Nat):List A:=List.rec (motive:=λ_=>Nat->List A) (λ_=>[]) (λx l b i=>Nat.rec (motive:=λ_=>List A) l (λk _=>x::b k) i) l i
theorem u4 {A:Type}:∀{l:List A} {i:Nat} {x:A},fn l i=some x->l.Perm (x::gw l i)
 | [],_,_,h=>nomatch h
 | y::l,0,x,h=>by cases h;exact .refl _
 | y::l,i+1,x,h=>((u4 (l:=l) (i:=i) h).cons y).trans (.swap ..)
def take {A:Type} (e:List Nat):List A->List A->(List A->Prop)->Prop:=List.rec (motive:=λ_=>List A->List A->(List A->Prop)->Prop)
 (λb l K=>match b with | []=>K l | _::_=>False)
 (λi _ d b l K=>match b with | []=>False | q::b=>match fn l i with | some y=>y=q/\d b (gw l i) K | none=>False) e
def cp {A:Type} (e:List Nat):List A->List A->(List A->Prop)->Prop:=List.rec (motive:=λ_=>List A->List A->(List A->Prop)->Prop)
 (λb l K=>match b with | []=>K l | _::_=>True)
 (λi _ d b l K=>match b with | []=>True | q::b=>match fn l i with | some y=>q=q/\d b (gw l i) K | none=>True) e
theorem dt {A:Type}:∀(b:List Nat) (d l:List A) (K:List A->Prop),(∀l,K l)->cp b d l K
 | [],[],l,K,h=>h l
 | [],_::_,_,_,_=>trivial
 | _::_,[],_,_,_=>trivial
 | i::b,q::d,l,K,h=>by
  show (match fn l i with | some y=>q=q/\cp b d (gw l i) K | none=>True)
  cases fn l i with
  | none=>trivial
  | some y=>exact ⟨rfl,dt b d _ K h⟩
theorem bW {A:Type}:∀{f:List Nat} {d l:List A} {K:List A->Prop},take f d l K->∃r,l.Perm (d++r)/\K r
 | [],[],l,K,h=>⟨l, .refl _,h⟩
 | [],_::_,_,_,h=>h.elim
 | _::_,[],_,_,h=>h.elim
 | i::f,q::d,l,K,h=>by
  have b:(match fn l i with | some y=>y=q/\take f d (gw l i) K | none=>False):=h
  cases e:fn l i with
  | none=>rw [e] at b;exact b.elim
  | some y=>
   rw [e] at b
   obtain ⟨rfl,g⟩:=b
   obtain ⟨r,p,j⟩:=bW g
   exact ⟨r,(u4 e).trans (p.cons _),j⟩
inductive bV (e:bu) (T:af):Type 1
 | fin (x:T.α) (h:T.post x) (is js bs:List Nat)
 | seg (N:Nat) (next:(Nat->Nat)->bV e T)
 | use (ρ:af) (h:ab e ρ) (is bs:List Nat) (next:(x:ρ.α)->ρ.post x->bV e T)
 | or (A B:Prop) (h:A\/B) (l:A->bV e T) (r:B->bV e T)
 | pick (β:Type) (f:β->Prop) (h:∃b,f b) (next:(b:β)->f b->bV e T)
 | view (is bs:List Nat) (C:ao) (B:List ao) (C':ao) (B':List ao) (h:(C++B.flatten).Perm (C'++B'.flatten)) (next:bV e T)
 | nope (h:False)
abbrev mC:Nat:=1000000
section
variable {e:bu} {T:af}
def dP (V:fz) (w:bV e T):St->List ao->Prop:=bV.rec (motive:=λ_=>St->List ao->Prop)
 (λx _ m u k st d=>match st with
  | .ret r f cells=>match f with
   | .base=>r=T.r x/\take m ((T.need.map (·.1)).zip (T.put x)) cells (λj=>take u (T.new x) j (λ_=>take k (T.putB x++T.newB x) d (λ_=>True)))
   | _=>False
  | _=>False)
 (λN _ i st d=>∀s,dT (go V s mC N 0 st) (λv=>i s v d))
 (λg _ m k _ i st d=>match st with
  | .enter c p f cells=>c=g.c/\(match g.anyH with | true=>True | false=>jn V.H f=none)/\(match g.outer with | none=>True | some es=>match T.outer with | some E=>envsOf (below [] f)++E=es | none=>False)/\(match GZ (lvl f+g.d) V.d with | true=>True | false=>False)/\
   take m g.need cells (λj=>take k g.needB d (λn=>∀x h,i x h (.ret (g.r x) f ((g.need.map (·.1)).zip (g.put x)++(g.new x++j))) ((g.putB x++g.newB x)++n)))
  | _=>False)
 (λ_ _ _ _ _ l r st d=>(∀a,l a st d)/\(∀b,r b st d))
 (λ_ _ _ _ i st d=>∀b h,i b h st d)
 (λm k C B q o _ _ i st d=>match st with
  | .run c p f t cells=>take m C cells (λj=>take k B d (λn=>i (.run c p f t (q++j)) (o++n)))
  | .enter c p f cells=>take m C cells (λj=>take k B d (λn=>i (.enter c p f (q++j)) (o++n)))
  | .ret r f cells=>take m C cells (λj=>take k B d (λn=>i (.ret r f (q++j)) (o++n))))
 (λ_ _ _=>True) w
def eg (V:fz) (w:bV e T):St->List ao->Prop:=bV.rec (motive:=λ_=>St->List ao->Prop)
 (λx _ m u k st d=>match st with
  | .ret r g cells=>match g with
   | .base=>T.r x=T.r x/\cp m ((T.need.map (·.1)).zip (T.put x)) cells (λj=>cp u (T.new x) j (λ_=>cp k (T.putB x++T.newB x) d (λ_=>True)))
   | _=>True
  | _=>True)
 (λN _ i st d=>∀s,xh (go V s mC N 0 st) (λv=>i s v d))
 (λf _ m k _ i st d=>match st with
  | .enter c p g cells=>f.c=f.c/\(match f.anyH with | true=>True | false=>(none:Option E9)=none)/\(match f.outer with | none=>True | some es=>match T.outer with | some E=>es=es | none=>True)/\(match GZ (lvl g+f.d) V.d with | true=>True | false=>True)/\
   cp m f.need cells (λj=>cp k f.needB d (λn=>∀x h,i x h (.ret (f.r x) g ((f.need.map (·.1)).zip (f.put x)++(f.new x++j))) ((f.putB x++f.newB x)++n)))
  | _=>True)
 (λ_ _ _ _ _ l r st d=>(∀a,l a st d)/\(∀b,r b st d))
 (λ_ _ _ _ i st d=>∀b h,i b h st d)
 (λm k C B q o _ _ i st d=>match st with
  | .run c p g t cells=>cp m C cells (λj=>cp k B d (λn=>i (.run c p g t (q++j)) (o++n)))
  | .enter c p g cells=>cp m C cells (λj=>cp k B d (λn=>i (.enter c p g (q++j)) (o++n)))
  | .ret r g cells=>cp m C cells (λj=>cp k B d (λn=>i (.ret r g (q++j)) (o++n))))
 (λ_ _ _=>True) w
theorem mS (V:fz) (n:bV e T):∀st d,eg V n st d:=by
 have u:∀b:Bool,(match b with | true=>True | false=>True):=λb=>by cases b<;>trivial
 induction n with
 | fin x h j D g=>
  intro st d
  cases st with
  | ret r k cells=>
   cases k with
   | base=>exact ⟨rfl,dt _ _ _ _ λ_=>dt _ _ _ _ λ_=>dt _ _ _ _ λ_=>trivial⟩
   | ret _ _ _ _ _=>trivial
  | run _ _ _ _ _=>trivial
  | enter _ _ _ _=>trivial
 | seg N next i=>
  intro st d m
  refine ⟨rfl, ?_⟩
  cases ph (go V m mC N 0 st) with
  | none=>trivial
  | some t=>exact i m t d
 | use o y j g next i=>
  intro st d
  cases st with
  | enter c p k cells=>exact ⟨rfl,(by cases o.anyH<;>first | rfl | trivial),(by cases o.outer<;>cases T.outer<;>first | rfl | trivial),u _,dt _ _ _ _ λ_=>dt _ _ _ _ λ_ x h=>i x h _ _⟩
  | run _ _ _ _ _=>trivial
  | ret _ _ _=>trivial
 | or A B h l r q s=>exact λst d=>⟨λa=>q a st d,λb=>s b st d⟩
 | pick E f h next i=>exact λst d b h=>i b h st d
 | view j g C B w v h next i=>
  intro st d
  cases st<;>exact dt _ _ _ _ λ_=>dt _ _ _ _ λ_=>i _ _
 | nope h=>exact h.elim
theorem EG {b:Bool} (h:match b with | true=>True | false=>False):b=true:=by
 cases b with
 | true=>rfl
 | false=>exact h.elim
theorem nb {cells C rc:ao} {b B rb:List ao} (p:cells.Perm (C++rc)) (q:b.Perm (B++rb)):(cells++b.flatten).Perm ((C++B.flatten)++(rc++rb.flatten)):=by
 have d:b.flatten.Perm (B.flatten++rb.flatten):=by rw [<-Gd];exact q.flatten
 refine (p.append d).trans ?_
 rw [Fm,Fm]
 refine .append_left _ ?_
 rw [<-Fm,<-Fm]
 exact .append_right _ FD
theorem ud {C b:ao} {B r:List ao}:((C++B.flatten)++(b++r.flatten)).Perm ((C++b)++(B++r).flatten):=by
 rw [Gd,Fm,Fm]
 refine .append_left _ ?_
 rw [<-Fm,<-Fm]
 exact .append_right _ FD
theorem u5 (B:List (Code×Pos)):∀b,envsOf (below B b)=envsOf (below [] b)++envsOf B
 | .base=>rfl
 | .ret c _ p _ b=>by
  show envsOf ((c,p)::below B b)=envsOf ((c,p)::below [] b)++envsOf B
  rw [envsOf_cons,envsOf_cons,u5 B b,Fm]
theorem nT {o:Ctx} (W:o.handled=none) (hE:∀es,T.outer=some es->envsOf o.below=es) (N:dQ T.d o) {u:Fc} {F:HF->Fc->Prop}
 (hF:∀x v,T.post x->ap u v T.own (T.res x)->F (T.r x) v) (Y:bV e T):
 ∀(st:St) (i:List ao) (s:Fc),kg (oQ st)->a9 e.kt u.heap T.own s.heap (kL st++i.flatten)->cZ u s->dP ⟨e.D,⟨pq,e.w.params⟩,e.kt,o.below,none,T.d⟩ Y st i->pS (FQ pq e.w) o e.kt F st s:=by
 induction Y with
 | fin x h H js G=>
  intro st i s hk I m f
  cases st with
  | run _ _ _ _ _=>exact f.elim
  | enter _ _ _ _=>exact f.elim
  | ret r k cells=>
   cases k with
   | ret _ _ _ _ _=>exact f.elim
   | base=>
    obtain ⟨rfl,h1⟩:r=T.r x/\take H ((T.need.map (·.1)).zip (T.put x)) cells (λj=>take js (T.new x) j (λ_=>take G (T.putB x++T.newB x) i (λ_=>True))):=f
    obtain ⟨j,y,h2⟩:=bW h1
    obtain ⟨Q,C,h3⟩:=bW h2
    obtain ⟨l,p3,_⟩:=bW h3
    refine hF x s h ?_
    have P:(cells++i.flatten).Perm (T.res x++(Q++l.flatten)):=by
     refine (nb (C:=(T.need.map (·.1)).zip (T.put x)++T.new x) (rc:=Q) (B:=T.putB x++T.newB x) (rb:=l) ?_ p3).trans (.of_eq ?_)
     .rw [Fm];exact y.trans (.append_left _ C)
     .unfold af.res;simp only [Fm]
    have E:a9 e.kt u.heap T.own s.heap (T.res x++(Q++l.flatten)):=I.perm P
    exact E.sub.after m
 | seg gt next t=>
  intro st i s hk I m f
  have J:a9 e.kt s.heap (keys (kL st)) s.heap (kL st):=a9.start I.pre
  refine ma (V:=⟨e.D,⟨pq,e.w.params⟩,e.kt,o.below,none,T.d⟩) (e.ok ..) N rfl W.symm mC gt 0 st s (λS R=>dP _ (next S) R i) hk J f (λR v a b d h=> ?_)
  obtain ⟨S,h⟩:=h
  exact t S R i v a (a9.rule I (b.after d)) (m.trans d) h
 | use g It H G next t=>
  intro st i s hk I m f
  cases st with
  | run _ _ _ _ _=>exact f.elim
  | ret _ _ _=>exact f.elim
  | enter c p k cells=>
   have f:c=g.c/\(match g.anyH with | true=>True | false=>jn none k=none)/\(match g.outer with | none=>True | some es=>match T.outer with | some L=>envsOf (below [] k)++L=es | none=>False)/\(match GZ (lvl k+g.d) T.d with | true=>True | false=>False)/\take H g.need cells (λj=>take G g.needB i (λl=>∀x h,dP ⟨e.D,⟨pq,e.w.params⟩,e.kt,o.below,none,T.d⟩ (next x h) (.ret (g.r x) k ((g.need.map (·.1)).zip (g.put x)++(g.new x++j))) ((g.putB x++g.newB x)++l))):=f
   have U:=f.2.1
   have w:=f.2.2.1
   refine (bW f.2.2.2.2).elim λj q=>(bW q.2).elim λl n=> ?_
   have y:=q.1
   have C:=n.1
   have Iu:=GU (EG f.2.2.2.1)
   have c1:=vy o k c
   have c2:=vx o k c
   have g1:=N.cnt
   have g2:=N.units
   have E:a9 e.kt u.heap T.own s.heap (g.all++(j++l.flatten)):=I.perm (nb y C)
   refine It (cE o k c) ((kJ ..).trans f.1) (by cases ha:g.anyH with | true=>exact .inl rfl | false=>rw [ha] at U;right;rw [pk o k c hk,W];exact U) (λes he=>by
    rw [he] at w
    cases M:T.outer with
    | none=>rw [M] at w;exact w.elim
    | some L=>rw [M] at w;rw [kK,u5,hE L M];exact w) ⟨by omega,by omega⟩ p s _ E.pre (λx v X A=> ?_)
   have J:=a9.rule E A
   have P:(g.res x++(j++l.flatten)).Perm (((g.need.map (·.1)).zip (g.put x)++(g.new x++j))++((g.putB x++g.newB x)++l).flatten):=by
    rw [<-Fm ((g.need.map (·.1)).zip (g.put x))]
    refine (Eq.subst (motive:=λz=>(z++(j++l.flatten)).Perm _) ?_ ud)
    unfold af.res;simp only [Fm]
   exact t x X (.ret (g.r x) k _) _ v hk (J.perm P) (m.trans A.same) (n.2 x X)
 | or A B h Iu r io rw=>
  intro st i s hk I m f
  rcases h with a | b
  .exact io a st i s hk I m (f.1 a)
  .exact rw b st i s hk I m (f.2 b)
 | pick β Iw h next t=>
  intro st i s hk I m f
  obtain ⟨b,V⟩:=h
  exact t b V st i s hk I m (f b V)
 | view H G ac B D Z h next t=>
  intro st i s hk I m f
  have O:∀{cells j:ao} {l:List ao},a9 e.kt u.heap T.own s.heap (cells++i.flatten)->cells.Perm (ac++j)->i.Perm (B++l)->a9 e.kt u.heap T.own s.heap ((D++j)++(Z++l).flatten):=λI y C=>
   (I.perm (nb y C)).perm ((h.append_right _).trans ud)
  cases st with
  | run c p k Iv cells=>
   exact (bW f).elim λj q=>(bW q.2).elim λl n=>t (.run c p k Iv (D++j)) _ s hk (O I q.1 n.1) m n.2
  | enter c p k cells=>
   exact (bW f).elim λj q=>(bW q.2).elim λl n=>t (.enter c p k (D++j)) _ s hk (O I q.1 n.1) m n.2
  | ret r k cells=>
   exact (bW f).elim λj q=>(bW q.2).elim λl n=>t (.ret r k (D++j)) _ s hk (O I q.1 n.1) m n.2
 | nope h=>exact h.elim
theorem vz (b:bV e T) (h:(∀B p,dP ⟨e.D,⟨pq,e.w.params⟩,e.kt,B,none,T.d⟩ b (.enter T.c p .base T.need) T.needB)=(∀B p,eg ⟨e.D,⟨pq,e.w.params⟩,e.kt,B,none,T.d⟩ b (.enter T.c p .base T.need) T.needB)) (k:T.anyH=false:=by rfl):ab e T:=by
 intro f l d i n p s F P j
 have d:f.handled=none:=d.resolve_left (by rw [k];exact Fg)
 have q:=h.mpr (λB p=>mS _ b _ _) f.below p
 have m:=nT d i n j b (.enter T.c p .base T.need) T.needB s trivial (a9.start P) (cZ.refl s) q
 have g:wpCode (FQ pq e.w) (f.goto T.c) F p s:=m
 rw [<-l] at g
 exact g
end
theorem lq {b:Ctx} (h:HR b.below<=2000):b.units< cLine:=by
 have:=vI b.code
 show b.code.cUnits+HR b.below< 9900
 omega
def Q2 (w:E7) (kt:Nat->Option Obj) {f:Type} (g t:Sem f):Prop:=
 ∀(d:Ctx),cF d.below<=640->HR d.below<=2000->∀(p:Pos) (s:Fc) (Q:f->Pos->Fc->Prop) (E:E9->Pos->Fc->Prop),
  wp (FQ pq w) d g (λa p b=>ca kt b.heap/\Q a p b) (λe p b=>ca kt b.heap/\E e p b) p s->wp (FQ pq w) d t Q E p s
theorem pF {b d:Type} (x:Sem b) (f:b->Sem d): @Bind.bind Sem (@HV Sem FS) _ _ x f=(x>>=f):=by rw [<-PySem.W.Fast.te12456147031677567982]
section
variable {w:E7} {kt:Nat->Option Obj} {α β:Type}
theorem j6 (t:Sem α):Q2 w kt t t:=λb _ _ p s Q E h=>Fs _ _ _ (λ_ _ _ h=>h.2) (λ_ _ _ h=>h.2) _ _ h
theorem zM {x:Sem α} {d f:α->Sem β} (h:∀a,Q2 w kt (d a) (f a)):Q2 w kt (@Bind.bind Sem (@HV Sem FS) _ _ x d) (@Bind.bind Sem (@HV Sem FS) _ _ x f):=λe a b p s Q E g=>by
 rw [pF,E5] at g⊢
 exact Fs _ _ _ (λv p s g=>h v e a b p s Q E g) (λ_ _ _ h=>h.2) _ _ g
theorem zJ {c:Prop} [Decidable c] {b x d y:Sem α} (h:Q2 w kt b x) (g:Q2 w kt d y):Q2 w kt (if c then b else d) (if c then x else y):=by
 by_cases z:c
 .rw [if_pos z,if_pos z];exact h
 .rw [if_neg z,if_neg z];exact g
theorem zL {n:String} {f:Unit->Sem β}:Q2 w kt (f ()) (@Bind.bind Sem (@HV Sem FS) _ _ (Ii n) f):=λd a b p s Q E g=>by
 rw [pF,E5,<-PySem.W.Fast.te10648789137845014744,Sem.wp_cRoom]
 exact ⟨lq b,Fs _ _ _ (λ_ _ _ h=>h.2) (λ_ _ _ h=>h.2) _ _ g⟩
end
abbrev pV (kt:Nat->Option Obj):Prop:=∀h,ca kt h->h.NoLimit
structure Qk {α:Type} (t:Sem α) where
 val:Sem α
 ok:∀w kt,pV kt->Q2 w kt val t
section
variable {α β:Type}
def Qk.refl (t:Sem α):Qk t:=⟨t,λw kt _=>j6 t⟩
def Qk.bind {x:Sem α} {f:α->Sem β} (h:∀a,Qk (f a)):Qk (@Bind.bind Sem (@HV Sem FS) _ _ x f):=⟨@Bind.bind Sem (@HV Sem FS) _ _ x λa=>(h a).val,λw kt k=>zM λa=>(h a).ok w kt k⟩
def Qk.ite {c:Prop} {d:Decidable c} {x y:Sem α} (h:Qk x) (g:Qk y):Qk (if c then x else y):=⟨if c then h.val else g.val,λw kt k=>zJ (h.ok w kt k) (g.ok w kt k)⟩
def Qk.room {n:String} {f:Unit->Sem β}:Qk (@Bind.bind Sem (@HV Sem FS) _ _ (Ii n) f):=⟨f (),λw kt k=>zL⟩
def Qk.str {v:E9} {f:Str->Tok->Sem β} {g:E9->Sem β} (h:∀q t,Qk (f q t)) (b:∀x,Qk (g x)):Qk (callFunction.match_1 (λ_=>Sem β) v f g):=
 ⟨callFunction.match_1 (λ_=>Sem β) v (λq t=>(h q t).val) (λx=>(b x).val),λw kt k=>by cases v<;>first | exact (h _ _).ok w kt k | exact (b _).ok w kt k⟩
def Qk.cod {v:E9} {f:Unit->Sem β} {g:E9->Sem β} (h:Qk (f ())) (b:∀x,Qk (g x)):Qk (callFunction.match_4 (λ_=>Sem β) v f g):=
 ⟨callFunction.match_4 (λ_=>Sem β) v (λ_=>h.val) (λx=>(b x).val),λw kt k=>by cases v<;>first | exact h.ok w kt k | exact (b _).ok w kt k⟩
theorem wi {w:E7} {b:Ctx} (n:cF b.below<=640) {p:Pos} {s:Fc} {Q:Unit->Pos->Fc->Prop} {E:E9->Pos->Fc->Prop} (d:s.heap.NoLimit) (h:Q () p s):wp (FQ pq w) b enterFrame Q E p s:=by
 obtain ⟨q,k,j⟩:=d
 have l:cF ((b.code,p)::b.below)<=644:=FZ (vB ..) (by omega)
 have o:((((b.code,p)::b.below).map (·.1)).map (·.frames)).sum+((((b.code,p)::b.below).map (·.1)).filter HA).length<=644:=l
 have e:Ht=1000:=rfl
 have m:claimMargin=300:=rfl
 have i:nearTheLimitUnderAClaim (((b.code,p)::b.below).map (·.1)) (((((b.code,p)::b.below).map (·.1)).map (·.frames)).sum+((((b.code,p)::b.below).map (·.1)).filter HA).length) Ht=false:=by
  show (decide (((((b.code,p)::b.below).map (·.1)).map (·.frames)).sum+((((b.code,p)::b.below).map (·.1)).filter HA).length+claimMargin>=Ht)&&(((b.code,p)::b.below).map (·.1)).any Code.isCaller)=false
  rw [decide_eq_false (by omega)];rfl
 have f:¬((((b.code,p)::b.below).map (·.1)).map (·.frames)).sum>=Ht:=by omega
 have g:¬((((b.code,p)::b.below).map (·.1)).map (·.frames)).sum+((((b.code,p)::b.below).map (·.1)).filter HA).length>=Ht:=by omega
 simp only [enterFrame,currentRecursionLimit,E5]
 show wp (FQ pq w) b (nsGet cStatics "sys.recursionlimit") _ _ p s
 rw [Sem.wp_nsGet (FQ pq w) b _ p s k,j]
 show wp (FQ pq w) b (if nearTheLimitUnderAClaim (((b.code,p)::b.below).map (·.1)) (((((b.code,p)::b.below).map (·.1)).map (·.frames)).sum+((((b.code,p)::b.below).map (·.1)).filter HA).length) Ht=true then _ else _) _ _ p s
 rw [if_neg (by rw [i];exact Fg)]
 show wp (FQ pq w) b (if ((((b.code,p)::b.below).map (·.1)).map (·.frames)).sum>=Ht then _ else _) _ _ p s
 rw [if_neg f]
 show wp (FQ pq w) b (if ((((b.code,p)::b.below).map (·.1)).map (·.frames)).sum+((((b.code,p)::b.below).map (·.1)).filter HA).length>=Ht then _ else _) _ _ p s
 rw [if_neg g];exact h
def Qk.frame {g c:Bool} {d:Code} {f i j:Unit->Sem Gn}:Qk (@Bind.bind Sem (@HV Sem FS) _ _ (PySem.W.Fast.tw15066281185411960212 0) λ_=>callFunction.match_9 (λ_ _=>Sem Gn) g c (λ_=>Ig d) f i j):=
 ⟨callFunction.match_9 (λ_ _=>Sem Gn) g c (λ_=>Ig d) (λ_=> .unsupported "") (λ_=> .unsupported "") (λ_=> .unsupported ""),λw kt k=>by
  intro l a b p s Q E h
  cases g<;>cases c
  .have e:ca kt s.heap/\Q (.again d) p s:=h
   rw [pF,E5,<-PySem.W.Fast.te15066281185411960212]
   exact wi a (k _ e.1) e.2
  .exact h.elim
  .exact h.elim
  .exact h.elim⟩
def Qk.data {v:Data} {f:FuncData->Sem β} {g:Array E9->Sem β} {h:Data->Sem β} (d:∀b,Qk (f b)):Qk (callAny.match_6 (λ_=>Sem β) v f g h):=
 ⟨callAny.match_6 (λ_=>Sem β) v (λb=>(d b).val) g h,λw kt k=>by cases v<;>first | exact (d _).ok w kt k | exact j6 _⟩
end
def uk (inst e:E9) (f:Int) (t:Tok) (k:List (Str×E9)):Qk (Ho ⟨[inst,e, .int f t],k⟩):=by
 delta Ho
 dsimp only
 refine Qk.bind λa=> ?_
 refine Qk.ite (Qk.refl _) ?_
 refine Qk.bind λb=> ?_
 refine Qk.ite (Qk.refl _) ?_
 refine Qk.bind λc=> ?_
 refine Qk.bind λd=> ?_
 refine Qk.ite (Qk.refl _) ?_
 exact Qk.room
def Ez (s:Addr) (f:FuncData) (b:Args):Qk (Ih s f b):=by
 delta Ih
 dsimp only
 refine Qk.cod ?_ λc=> ?_
 .refine Qk.bind λc=> ?_
  refine Qk.bind λc=> ?_
  refine Qk.bind λc=> ?_
  exact Qk.frame
 .refine Qk.bind λl=> ?_
  refine Qk.str (λq t=> ?_) (λx=> ?_)
  .refine Qk.bind λc=> ?_
   refine Qk.bind λc=> ?_
   refine Qk.bind λc=> ?_
   exact Qk.frame
  .refine Qk.bind λc=> ?_
   refine Qk.bind λc=> ?_
   refine Qk.bind λc=> ?_
   exact Qk.frame
def vH (a:Addr) (b:Args):Qk (Hp (.ref a) b):=by
 delta Hp
 dsimp only
 refine Qk.bind λo=> ?_
 exact Qk.data λf=>Ez a f b
def uo (id:String):Bool:=id=="isinstance.nested"
def Dn (c:Code):Sem Gn:=match c with
 | .call f b=>match f with
  | .ref a=>(vH a b).val
  | _=>Hp f b
 | .builtin id b=>match uo id with
  | true=>match b with
   | ⟨p,k⟩=>match p with
    | [inst,e,d]=>match d with
     | .int g t=>(uk inst e g t k).val
     | _=> .unsupported ""
    | _=> .unsupported ""
  | false=>F5 F4 (.builtin id b)
 | c=>F5 F4 c
theorem Bg (b:Args):F5 F4 (.builtin "isinstance.nested" b)=Ho b:=by
 kernel_rfl
theorem mI {w:E7} {kt:Nat->Option Obj} (k:pV kt) (c:Code):Q2 w kt (Dn c) (FK table c):=by
 have e:FK table=F5 F4:=by
  rw [table_eq_tree,<-Hj,<-Hi]
 rw [e]
 cases c with
 | call f d=>
  cases f with
  | ref a=>exact (vH a d).ok w kt k
  | _=>exact j6 _
 | builtin id d=>
  cases z:uo id with
  | false=>
   have e:Dn (.builtin id d)=F5 F4 (.builtin id d):=by
    unfold Dn;simp only [z]
   rw [e];exact j6 _
  | true=>
   have g:id="isinstance.nested":=eq_of_beq z
   subst g
   rw [Bg]
   obtain ⟨p,j⟩:=d
   unfold Dn
   simp only [z]
   split
   .split
    .exact (uk _ _ _ _ _).ok w kt k
    .exact λi a b p s Q E h=>h.elim
   .exact λi a b p s Q E h=>h.elim
 | _=>exact j6 _
def jb (K:Frag) (a:Nat):Option Obj:=List.rec (motive:=λ_=>Option Obj) none (λx _ i=>match Nat.beq x.1 a with | true=>some x.2 | false=>i) K
def kt (P:E6) (a:Nat):Option Obj:=jb (base P) a
theorem tT {h:Heap}:∀{K:Frag},AllIn h K->∀a o,jb K a=some o->h.get? a=some o
 | [],_,_,_,e=>nomatch e
 | x::K,⟨d,f⟩,a,o,e=>by
  have b:(match Nat.beq x.1 a with | true=>some x.2 | false=>jb K a)=some o:=e
  cases z:Nat.beq x.1 a with
  | true=>rw [z] at b;cases b;rw [<-Nat.eq_of_beq_eq_true z];exact d
  | false=>rw [z] at b;exact tT f a o b
theorem EF {h:Heap} {P:E6} (A:AllIn h (base P)):ca (kt P) h:=tT A
theorem Cc (P:E6):kt P 2=some (o2 P):=by kernel_rfl
theorem At (P:E6):((match (o2 P).data with | .dict es _=>es.all (λe=>match e.key with | .str _ _=>true | _=>false) | _=>false)&&(match (o2 P).data with | .dict es _=>nsFind es "sys.recursionlimit" | _=>none).isNone)=true:=by kernel_rfl
theorem jd (P:E6):pV (kt P):=λh B=>by
 have e:h.get? cStatics=some (o2 P):=B 2 _ (Cc P)
 refine Heap.NoLimit.of_ok ?_
 unfold Heap.noLimitOk Heap.isNs Heap.nsMap
 rw [e]
 exact At P
def env (w:E7):bu:=⟨w,kt w.params,Dn,λB H d=>⟨rfl,λc e _ a b p s Q E h=>mI (jd w.params) c e a b p s Q E h⟩⟩
theorem qu {e:bu} {T:af} (t:Sem Gn) (f:bV e T) (h:(∀B c p,dP ⟨e.D,⟨pq,e.w.params⟩,e.kt,B,none,T.d⟩ f (.run c p .base t T.need) T.needB)=(∀B c p,eg ⟨e.D,⟨pq,e.w.params⟩,e.kt,B,none,T.d⟩ f (.run c p .base t T.need) T.needB))
 (b:Ctx) (j:b.handled=none) (g:∀es,T.outer=some es->envsOf b.below=es) (k:dQ T.d b) (p:Pos) (s:Fc) (F:HF->Fc->Prop) (P:d4 e.kt T.all s)
 (i:∀x d,T.post x->ap s d T.own (T.res x)->F (T.r x) d):
 wp (FQ pq e.w) b t (λfin p d=>ca e.kt d.heap/\finPost (FQ pq e.w) b F fin p d) (λv _ d=>ca e.kt d.heap/\F (.error v) d) p s:=by
 have q:=h.mpr (λB c p=>mS _ f _ _) b.below b.code p
 have m:wp (FQ pq e.w) (b.goto b.code) t (FP (FQ pq e.w) b e.kt F .base b.code) (FE (FQ pq e.w) b e.kt F .base) p s:=nT j g k i f (.run b.code p .base t T.need) T.needB s trivial (a9.start P) (cZ.refl s) q
 exact m
def cM (P:E6) (b:Bool):E6:={P with followText:=λr=>match decide (r="special-get-raises") with | true=>b | false=>P.followText r}
theorem ni (P:E6):cM P (P.followText "special-get-raises")=P:=by
 unfold cM
 have e:(λr=>match decide (r="special-get-raises") with | true=>P.followText "special-get-raises" | false=>P.followText r)=P.followText:=by
  funext r
  by_cases h:r="special-get-raises"
  .rw [decide_eq_true h,h]
  .rw [decide_eq_false h]
 rw [e]
theorem Eo {e:bu} {T:af} (d:bV e T) (h:∀b,(∀B p,dP ⟨e.D,⟨pq,cM e.w.params b⟩,e.kt,B,none,T.d⟩ d (.enter T.c p .base T.need) T.needB)=(∀B p,eg ⟨e.D,⟨pq,cM e.w.params b⟩,e.kt,B,none,T.d⟩ d (.enter T.c p .base T.need) T.needB)) (f:T.anyH=false:=by rfl):ab e T:=by
 have q:=h (e.w.params.followText "special-get-raises")
 rw [ni] at q
 exact vz d q f
def PP (e:bu) (T:af):Type 1:=∀U:af,((x:T.α)->T.post x->List Nat->List Nat->List Nat->bV e U)->bV e U
def vD {e:bu} {T:af} (d:PP e T) (b:Bool):Prop:=∀B p,dP ⟨e.D,⟨pq,cM e.w.params b⟩,e.kt,B,none,T.d⟩ (d T .fin) (.enter T.c p .base T.need) T.needB
def qq {e:bu} {T:af} (d:PP e T) (b:Bool):Prop:=∀B p,eg ⟨e.D,⟨pq,cM e.w.params b⟩,e.kt,B,none,T.d⟩ (d T .fin) (.enter T.c p .base T.need) T.needB
def Ew {e:bu} {T:af} (b:PP e T):Prop:=∀B p,dP ⟨e.D,⟨pq,e.w.params⟩,e.kt,B,none,T.d⟩ (b T .fin) (.enter T.c p .base T.need) T.needB
def w9 {e:bu} {T:af} (b:PP e T):Prop:=∀B p,eg ⟨e.D,⟨pq,e.w.params⟩,e.kt,B,none,T.d⟩ (b T .fin) (.enter T.c p .base T.need) T.needB
theorem ct {e:bu} {T:af} (b:PP e T) (h:Ew b=w9 b:=by kernel_rfl) (d:T.anyH=false:=by rfl):ab e T:=vz (b T .fin) h d
theorem av {e:bu} {T:af} (d:PP e T) (h:vD d false=qq d false:=by kernel_rfl) (f:vD d true=qq d true:=by kernel_rfl) (g:T.anyH=false:=by rfl):ab e T:=Eo (d T .fin) (λb=>match b with | false=>h | true=>f) g
def kT (lo:List E4) (d:Nat):Nat:=match lo with
 | []=>d
 | e::_=>match e.key with
  | .str _ t=>t
  | _=>d
def kE (lo:List E4) (n:Nat):Nat:=match lo with
 | []=>n+1
 | _::_=>n
theorem aE (id:String) (d:Args) {b:Builtin} (h:entryFor table id=some b):FK table (.builtin id d)=b d:=by
 rw [FK,h]
def ia (b:Ctx):Around:={handled:=b.handled,depth:=frameCount b.below+b.code.weight,units:=b.units}
theorem kC (b:Ctx):b.In (ia b):=⟨rfl,FM _,λl h=>(nomatch h),λl h=>(nomatch h),FM _⟩
def mq (G:HF->Fc->Prop):Gn->Fc->Prop
 | .done f,s=>G (.ok f) s
 | .again _,_=>False
theorem aN {e:bu} {T:af} (h:∀(A:Around) (s:Fc) (G:HF->Fc->Prop),A.handled=none->A.units< cLine->d4 e.kt T.all s->
 (∀x i,T.post x->ap s i T.own (T.res x)->G (T.r x) i)->Fp (FQ pq e.w) A (FK table T.c) (mq G) (λv s=>G (.error v) s) s) (k:T.anyH=false:=by rfl):ab e T:=by
 intro b l d _ m p s F P j
 have d:b.handled=none:=d.resolve_left (by rw [k];exact Fg)
 rw [F1,l]
 have g:=m.units
 have q:=h (ia b) s F d (lq (by omega)) P j b p (kC b)
 refine Fs _ _ _ (λfin p s h=> ?_) (λv p s h=>h) _ _ q
 cases fin with
 | done f=>exact h
 | again c=>exact h.elim
theorem q9 {e:bu} {T:af} (h:∀(A:Around) (s:Fc) (G:HF->Fc->Prop),A.units< cLine->d4 e.kt T.all s->
 (∀x d,T.post x->ap s d T.own (T.res x)->G (T.r x) d)->Fp (FQ pq e.w) A (FK table T.c) (mq G) (λv s=>G (.error v) s) s):ab e T:=by
 intro b j _ _ k p s F P i
 rw [F1,j]
 have g:=k.units
 have q:=h (ia b) s F (lq (by omega)) P i b p (kC b)
 refine Fs _ _ _ (λfin p s h=> ?_) (λv p s h=>h) _ _ q
 cases fin with
 | done f=>exact h
 | again c=>exact h.elim
theorem ap.start {kt:Nat->Option Obj} {all:ao} {s:Fc} (P:d4 kt all s):ap s s (keys all) all:=
 ⟨cZ.refl s,λb o e _=>e,P.has,λq h=> .inl (Fa h),P.nd,FM _⟩
theorem ap.toks {s b:Fc} {own:List Addr} {all:ao} (A:ap s b own all) (n:Nat):ap s {b with toks:=n} own all:=
 ⟨⟨A.same.gens,A.same.drawn,A.same.os⟩,A.keep,A.has,A.frs,A.nd,A.size⟩
theorem ap.perm {s b:Fc} {own:List Addr} {all all':ao} (A:ap s b own all) (p:all.Perm all'):ap s b own all':=
 ⟨A.same,A.keep,λq h=>A.has q (p.mem_iff.mpr h),λq h=>A.frs q (p.mem_iff.mpr h),(p.map _).nodup_iff.mp A.nd,A.size⟩
theorem ap.push {s d:Fc} {own:List Addr} {all:ao} (A:ap s d own all) (o:Obj) (i:o.isFreed=false):
 ap s {d with heap:=d.heap.push o} own ((d.heap.objs.size,o)::all):=by
 refine ⟨⟨A.same.gens,A.same.drawn,A.same.os⟩,λb x g f=>Hm _ (A.keep b x g f),λq h=> ?_,λq h=> ?_, ?_, ?_⟩
 .rcases GP.mp h with rfl | h
  .exact Heap.get?_push_size _ i
  .exact Hm _ (A.has q h)
 .rcases GP.mp h with rfl | h
  .exact .inr A.size
  .exact A.frs q h
 .rw [Fu,GO]
  refine ⟨λf=> ?_,A.nd⟩
  obtain ⟨q,h,e⟩:=Gj.mp f
  have:=Ir (A.has q h)
  rw [e] at this
  exact absurd this (Nat.lt_irrefl _)
 .show _<=(d.heap.push o).objs.size
  rw [Heap.size_push];exact Nat.le_succ_of_le A.size
theorem ap.upd {s d:Fc} {own:List Addr} {a:Addr} {o:Obj} {r:ao} (A:ap s d own ((a,o)::r)) (f:Obj->Obj) (k:∀b x,s.heap.get? b=some x->b∉own->b≠a) (j:(f o).isFreed=false):
 ap s {d with heap:=d.heap.update a f} own ((a,f o)::r):=by
 have e:Heap.SameBut a d.heap (d.heap.update a f):=Heap.SameBut.update ..
 have nd:=A.nd
 rw [Fu,GO] at nd
 refine ⟨⟨A.same.gens,A.same.drawn,A.same.os⟩,λb x g i=>(e.2 _ (k b x g i)).trans (A.keep b x g i),λq h=> ?_,λq h=> ?_, ?_, ?_⟩
 .rcases GP.mp h with rfl | h
  .exact Heap.get?_update_self f (A.has _ EZ) j
  .have:q.1≠a:=λz=>nd.1 (Gj.mpr ⟨q,h,z⟩)
   exact (e.2 _ this).trans (A.has q (E2 _ h))
 .rcases GP.mp h with rfl | h
  .exact A.frs (a,o) EZ
  .exact A.frs q (E2 _ h)
 .exact A.nd
 .show _<=(d.heap.update a f).objs.size
  rw [e.1];exact A.size
theorem ap.set {s d:Fc} {own:List Addr} {a:Addr} {o:Obj} {r:ao} (A:ap s d own ((a,o)::r)) (f:Obj->Obj) (g:a∈own) (e:(f o).isFreed=false):
 ap s {d with heap:=d.heap.update a f} own ((a,f o)::r):=
 A.upd f (λb x _ h z=>h (z▸g)) e
theorem eL {d:Nat} (h:1228<=d):(d==sysModules)=false:=by
 refine beq_false_of_ne λz=> ?_
 rw [z] at h
 exact absurd h (by decide)
def ae (vs:List E9) (n:Nat):Obj:={cls:= .type "list",data:= .seq vs.toArray n}
def aR (vs:List E9) (n:Nat):Obj:={cls:= .type "tuple",data:= .seq vs.toArray n}
def cv (x:Nat×Nat):E9:= .str ⟨⟨[x.1]⟩⟩ x.2
def iv (x:Int×Nat):E9:= .int x.1 x.2
section
variable {β:Type}
def aS (P:E6) (f:β->E9) (e:Nat×Nat×β):E4:=⟨PyData.keyHash P ⟨⟨[e.1]⟩⟩, .str ⟨⟨[e.1]⟩⟩ e.2.1,f e.2.2⟩
def dO (P:E6) (b:E9) (d:Option Addr) (f:β->E9) (m:List (Nat×Nat×β)) (e:Nat):Obj:=
 {cls:=b,dict:=d,data:= .dict (m.map (aS P f)).toArray e}
def look? (m:List (Nat×Nat×β)) (c:Nat):Option β:=match m with
 | []=>none
 | (k,_,v)::m=>if k=c then some v else look? m c
def aw (m:List (Nat×Nat×β)) (c t:Nat) (v:β):List (Nat×Nat×β):=match m with
 | []=>[(c,t,v)]
 | (k,u,x)::m=>if k=c then (k,u,v)::m else (k,u,x)::aw m c t v
def bU (m:List (Nat×Nat×β)) (c:Nat):Bool:=(look? m c).isSome
def ak (m:List (Nat×Nat×β)):List Nat:=m.map (·.1)
def dZ (m:List (Nat×Nat×β)) (c:Nat):List (Nat×Nat×β):=match m with
 | []=>[]
 | (k,u,x)::m=>if k=c then m else (k,u,x)::dZ m c
end
theorem C7 (w:E7) (k:Str):hashStr w k=PyData.keyHash w.params k:=rfl
abbrev sk (w:E7):KeyKind pq w Str:=PySem.strKind pq w
theorem Cy (w:E7) (c d t:Nat):(Value.isStrOf (⟨⟨[c]⟩⟩:Str) (.str ⟨⟨[d]⟩⟩ t))=decide (d=c):=by
 by_cases h:d=c
 .subst h;rw [decide_eq_true rfl];exact Gw pq w ⟨⟨[d]⟩⟩ t
 .rw [decide_eq_false h]
  cases q:Value.isStrOf (⟨⟨[c]⟩⟩:Str) (.str ⟨⟨[d]⟩⟩ t) with
  | false=>rfl
  | true=>
   obtain ⟨u,e⟩:=Value.isStrOf_shape q
   injection e with b
   injection b with b
   injection b with b
   injection b with b
   exact absurd b h
section
variable {β:Type} {w:E7} {f:β->E9} {m:List (Nat×Nat×β)}
theorem Cg:KeysOf (sk w) (m.map (aS w.params f)).toArray:=by
 intro e h
 obtain ⟨x,b,rfl⟩:=Gj.mp (List.mem_toArray.mp h)
 exact ⟨⟨⟨[x.1]⟩⟩,Gw pq w _ _,(C7 w ⟨⟨[x.1]⟩⟩).symm⟩
theorem Dr (c:Nat):((m.map (aS w.params f)).toArray.findIdx? λe=>(sk w).is ⟨⟨[c]⟩⟩ e.key)=m.findIdx? λx=>decide (x.1=c):=by
 rw [List.findIdx?_toArray,List.findIdx?_map]
 congr 1
 funext x
 exact Cy w c x.1 x.2.1
theorem oK (c:Nat):look? m c=match m.findIdx? (λx=>decide (x.1=c)) with | some i=>(m[i]?).map (·.2.2) | none=>none:=by
 induction m with
 | nil=>rfl
 | cons x m b=>
  obtain ⟨k,t,v⟩:=x
  rw [look?,List.findIdx?_cons]
  by_cases h:k=c
  .simp [h]
  .simp only [h,if_false,decide_false,b]
   cases m.findIdx? (λx=>decide (x.1=c))<;>simp
theorem nR {c t:Nat} {v:β}:∀{m:List (Nat×Nat×β)} {i:Nat},m.findIdx? (λx=>decide (x.1=c))=some i->(aw m c t v).map (aS w.params f)=(m.map (aS w.params f)).modify i λe=>{e with val:=f v}
 | [],_,h=>nomatch h
 | (k,u,x)::m,i,h=>by
  rw [List.findIdx?_cons] at h
  by_cases e:k=c
  .simp only [e,decide_true,if_true] at h
   cases h
   rw [aw,if_pos e];rfl
  .simp only [e,decide_false] at h
   cases q:m.findIdx? (λx=>decide (x.1=c)) with
   | none=>rw [q] at h;cases h
   | some j=>
    rw [q] at h
    simp only [GA] at h
    cases h
    rw [aw,if_neg e,Fu,Fu,nR q]
    rfl
theorem nS {c t:Nat} {v:β}:∀{m:List (Nat×Nat×β)},m.findIdx? (λx=>decide (x.1=c))=none->aw m c t v=m++[(c,t,v)]
 | [],_=>rfl
 | (k,u,x)::m,h=>by
  rw [List.findIdx?_cons] at h
  by_cases e:k=c
  .simp [e] at h
  .simp only [e,decide_false] at h
   have q:m.findIdx? (λx=>decide (x.1=c))=none:=by
    cases q:m.findIdx? (λx=>decide (x.1=c)) with
    | none=>rfl
    | some j=>rw [q] at h;cases h
   rw [aw,if_neg e,nS q];rfl
theorem vj {c:Nat}:∀{m:List (Nat×Nat×β)} {i:Nat},m.findIdx? (λx=>decide (x.1=c))=some i->dZ m c=m.eraseIdx i
 | [],_,h=>nomatch h
 | (k,u,x)::m,i,h=>by
  rw [List.findIdx?_cons] at h
  by_cases e:k=c
  .simp only [e,decide_true,if_true] at h
   cases h
   rw [dZ,if_pos e];rfl
  .simp only [e,decide_false] at h
   cases q:m.findIdx? (λx=>decide (x.1=c)) with
   | none=>rw [q] at h;cases h
   | some j=>
    rw [q] at h
    simp only [GA] at h
    cases h
    rw [dZ,if_neg e,vj q];rfl
variable {A:Around} {E:E9->Fc->Prop} {s:Fc} {d:Addr} {cls:E9} {dd:Option Addr} {ep c t:Nat}
theorem kP {Q:Option Nat->Fc->Prop} (b:s.heap.get? d=some (dO w.params cls dd f m ep)) (h:Q (m.findIdx? λx=>decide (x.1=c)) s):
 Fp (FQ pq w) A (dictFind d (.str ⟨⟨[c]⟩⟩ t) ((sk w).hash ⟨⟨[c]⟩⟩)) Q E s:=
 wpAny_dictFind_of (knd:=sk w) (Gw pq w _ _) b rfl Cg (by rw [Dr];exact h)
theorem kO {Q:Option E9->Fc->Prop} (e:s.heap.get? d=some (dO w.params cls dd f m ep)) (h:Q ((look? m c).map f) {s with toks:=s.toks+1}):
 Fp (FQ pq w) A (dictGet d (.str ⟨⟨[c]⟩⟩ t)) Q E s:=by
 unfold dictGet
 try with_reducible refine Gh ?_
 refine E1 ((sk w).pyHash (Gw pq w _ _) (E1 (kP (s:={s with toks:=s.toks+1}) (m:=m) e ?_)))
 rw [oK] at h
 cases b:m.findIdx? λx=>decide (x.1=c) with
 | none=>rw [b] at h;exact E3 h
 | some i=>
  rw [b] at h
  refine E1 (FO (s:={s with toks:=s.toks+1}) e rfl (E3 ?_))
  simp only [Ft,Fi,Option.map_map] at h⊢
  exact h
def fv (m:List (Nat×Nat×β)) (c ep:Nat):Nat:=match m.findIdx? (λx=>decide (x.1=c)) with | some _=>ep | none=>ep+1
theorem vM {v:β} {Q:Unit->Fc->Prop} (e:s.heap.get? d=some (dO w.params cls dd f m ep)) (g:m.length<=1000)
 (h:∀F:Obj->Obj,F (dO w.params cls dd f m ep)=dO w.params cls dd f (aw m c t v) (fv m c ep)->Q () {s with heap:=s.heap.update d F,toks:=s.toks+1}):
 Fp (FQ pq w) A (dictSet d (.str ⟨⟨[c]⟩⟩ t) (f v)) Q E s:=by
 unfold dictSet
 try with_reducible refine Gh ?_
 refine E1 ((sk w).pyHash (Gw pq w _ _) ?_)
 unfold dictSetHashed
 try with_reducible refine Gh ?_
 refine E1 (kP (s:={s with toks:=s.toks+1}) (m:=m) e ?_)
 cases b:m.findIdx? λx=>decide (x.1=c) with
 | some i=>
  refine E1 (GX (E1 (wpAny_updateDict (s:={s with toks:=s.toks+1}) e rfl (wpAny_point (h _ ?_)))))
  unfold fv;rw [b]
  unfold dO Obj.mapDict
  rw [nR b]
  simp
 | none=>
  refine E1 (GX (wpAny_updateDictKeys (hz:=by simp [Gu];omega) (s:={s with toks:=s.toks+1}) e rfl (h _ ?_)))
  unfold fv;rw [b]
  unfold dO He
  rw [nS b]
  simp [aS]
  rfl
end
theorem Ce (P:E6):kt P 1093=some (oi P):=by kernel_rfl
section
variable {β:Type}
def nK (f:β->E9) (P:E6) (d:Nat) (b:E9) (e:Option Addr) (m:List (Nat×Nat×β)) (g c t:Nat) (v:β):af:={d:=1,α:=Unit,c:= .builtin "dict.__getitem__" ⟨[.ref d, .str ⟨⟨[c]⟩⟩ t],[]⟩,need:=[(d,dO P b e f m g)],r:=λ_=> .ok (.ret (f v)),put:=λ_=>[dO P b e f m g]}
theorem uM (f:β->E9) (w:E7) (d:Nat) (b:E9) (e:Option Addr) (m:List (Nat×Nat×β)) (g c t:Nat) (v:β) (h:look? m c=some v):ab (env w) (nK f w.params d b e m g c t v):=by
 refine aN λA s G k l P i=> ?_
 have j:s.heap.get? d=some (dO w.params b e f m g):=P.has (d,_) EZ
 show Fp _ _ (FK table (.builtin "dict.__getitem__" ⟨[.ref d, .str ⟨⟨[c]⟩⟩ t],[]⟩)) _ _ s
 rw [aE _ _ F.entry_dict_getitem]
 show Fp _ _ (dictGet d (.str ⟨⟨[c]⟩⟩ t)>>=_) _ _ s
 refine E1 (kO j ?_)
 rw [h]
 refine E3 ?_
 exact i () _ trivial ((ap.start P).toks _)
def lI (f:β->E9) (P:E6) (d:Nat) (b:E9) (e:Option Addr) (m:List (Nat×Nat×β)) (g c t:Nat) (h:List E9) (v:E9):af:={d:=1,α:=Unit,c:= .builtin "dict.get" ⟨.ref d:: .str ⟨⟨[c]⟩⟩ t::h,[]⟩,need:=[(d,dO P b e f m g)],r:=λ_=> .ok (.ret v),put:=λ_=>[dO P b e f m g]}
theorem DU (f:β->E9) (w:E7) (d:Nat) (g:E9) (i:Option Addr) (m:List (Nat×Nat×β)) (j c t:Nat) (b v:E9) (h:((look? m c).map f).getD b=v):ab (env w) (lI f w.params d g i m j c t [b] v):=by
 refine aN λA s G p q P k=> ?_
 have o:s.heap.get? d=some (dO w.params g i f m j):=P.has (d,_) EZ
 have n:1228<=d:=P.ge (d,_) EZ
 show Fp _ _ (FK table (.builtin "dict.get" ⟨[.ref d, .str ⟨⟨[c]⟩⟩ t,b],[]⟩)) _ _ s
 rw [aE _ _ F.entry_dict_get]
 show Fp _ _ (dictGet d (.str ⟨⟨[c]⟩⟩ t)>>=_) _ _ s
 refine E1 (kO o ?_)
 cases l:look? m c with
 | some x=>
  rw [l] at h
  have e:f x=v:=h
  refine E3 ?_
  show G (.ok (.ret (f x))) _
  rw [e]
  exact k () _ trivial ((ap.start P).toks _)
 | none=>
  rw [l] at h
  have e:b=v:=h
  show Fp _ _ (Builtin.Dict.missed d (.str ⟨⟨[c]⟩⟩ t)>>=_) _ _ _
  refine E1 (wpAny_missed_other (eL n) ?_)
  refine E3 ?_
  show G (.ok (.ret b)) _
  rw [e]
  exact k () _ trivial ((ap.start P).toks _)
theorem vf (f:β->E9) (w:E7) (d:Nat) (b:E9) (g:Option Addr) (m:List (Nat×Nat×β)) (i c t:Nat) (v:E9) (p:b= .type "dict") (h:((look? m c).map f).getD .none=v):ab (env w) (lI f w.params d b g m i c t [] v):=by
 refine aN λA s G o q P j=> ?_
 have n:s.heap.get? d=some (dO w.params b g f m i):=P.has (d,_) EZ
 have l:1228<=d:=P.ge (d,_) EZ
 show Fp _ _ (FK table (.builtin "dict.get" ⟨[.ref d, .str ⟨⟨[c]⟩⟩ t],[]⟩)) _ _ s
 rw [aE _ _ F.entry_dict_get]
 show Fp _ _ (dictGet d (.str ⟨⟨[c]⟩⟩ t)>>=_) _ _ s
 refine E1 (kO n ?_)
 cases k:look? m c with
 | some x=>
  rw [k] at h
  have e:f x=v:=h
  refine E3 ?_
  show G (.ok (.ret (f x))) _
  rw [e]
  exact j () _ trivial ((ap.start P).toks _)
 | none=>
  rw [k] at h
  have e: .none=v:=h
  show Fp _ _ (Builtin.Dict.missed d (.str ⟨⟨[c]⟩⟩ t)>>=_) _ _ _
  refine E1 (wpAny_missed_other (eL l) ?_)
  refine E3 ?_
  show G (.ok (.ret .none)) _
  rw [e]
  exact j () _ trivial ((ap.start P).toks _)
def jU (f:β->E9) (P:E6) (d:Nat) (b:E9) (g:Option Addr) (m:List (Nat×Nat×β)) (h c t:Nat) (v:β):af:={d:=1,α:=Nat,c:= .builtin "dict.__setitem__" ⟨[.ref d, .str ⟨⟨[c]⟩⟩ t,f v],[]⟩,need:=[(d,dO P b g f m h)],r:=λ_=> .ok (.ret .none),put:=λe=>[dO P b g f (aw m c t v) e]}
theorem gA {w:E7} {A:Around} {E:E9->Fc->Prop} {s:Fc} {d:Addr} {o:Obj} {n:String} {e:Args} {Q:Unit->Fc->Prop} (f:e.pos.headD .none= .ref d) (B:ca (kt w.params) s.heap) (g:s.heap.get? d=some o) (b:o.cls= .type "dict"\/o.cls= .ref 1093) (h:Q () s):
 Fp (FQ pq w) A (Builtin.Dict.notOrdered n e) Q E s:=by
 rcases b with b | b
 .exact wpAny_notOrdered_dict (by rw [f];exact ⟨o,g,b⟩) h
 .have j:s.heap.get? 1093=some (oi w.params):=B 1093 _ (Ce _)
  unfold Builtin.Dict.notOrdered
  split
  .rw [f]
   have t:∀{Q:E9->Fc->Prop},Q (.ref 1093) s->Fp (FQ pq w) A (typeOf (.ref d)) Q E s:=λh=>by
    unfold typeOf
    refine E1 (wpAny_loadPart g (E3 ?_))
    rw [b];exact h
   refine E1 (t ?_)
   show Fp _ _ (if (Fq 1093 !=Fx "dict")=true then _ else _) _ _ s
   rw [if_pos (by decide)]
   refine E1 ?_
   unfold isInstance
   refine E1 (t ?_)
   unfold isSubtype
   have i:∀{Q:ClassData->Fc->Prop},(∀x:ClassData,x.mro=[.ref 1093, .type "dict", .type "object"]->Q x s)->Fp (FQ pq w) A (classData 1093) Q E s:=λh=>by
    unfold classData
    refine E1 (wpAny_load j ?_)
    exact E3 (h _ rfl)
   refine E1 ?_
   show Fp _ _ (classData 1093>>=_) _ _ s
   refine E1 (i λx k=>E3 ?_)
   rw [k]
   show Fp _ _ (pure _) _ _ s
   refine E3 ?_
   exact E3 h
  .exact E3 h
theorem nh (f:β->E9) (w:E7) (d:Nat) (b:E9) (g:Option Addr) (m:List (Nat×Nat×β)) (e c t:Nat) (v:β) (n:b= .type "dict"\/b= .ref 1093) (o:m.length<=1000):ab (env w) (jU f w.params d b g m e c t v):=by
 refine aN λA s G p q P l=> ?_
 have j:s.heap.get? d=some (dO w.params b g f m e):=P.has (d,_) EZ
 show Fp _ _ (FK table (.builtin "dict.__setitem__" ⟨[.ref d, .str ⟨⟨[c]⟩⟩ t,f v],[]⟩)) _ _ s
 rw [aE _ _ F.entry_dict_setitem]
 show Fp _ _ (Builtin.Dict.notOrdered "__setitem__" ⟨[.ref d, .str ⟨⟨[c]⟩⟩ t,f v],[]⟩>>=_) _ _ s
 refine E1 (gA (d:=d) rfl P.base j n ?_)
 show Fp _ _ (dictSet d (.str ⟨⟨[c]⟩⟩ t) (f v)>>=_) _ _ s
 refine E1 (vM j o λF h=>E3 ?_)
 have h:F (dO w.params b g f m e)=dO w.params b g f (aw m c t v) (fv m c e):=h
 have k:=((ap.start P).toks (s.toks+1)).set F (by exact EZ) (by show (F (dO w.params b g f m e)).isFreed=false;rw [h];rfl)
 have i:ap s {s with toks:=s.toks+1,heap:=s.heap.update d F} (jU f w.params d b g m e c t v).own [(d,F (dO w.params b g f m e))]:=k
 rw [h] at i
 exact l (fv m c e) _ trivial i
def lF (f:β->E9) (P:E6) (d:Nat) (e:E9) (g:Option Addr) (m:List (Nat×Nat×β)) (h c t:Nat) (b:Bool):af:={d:=1,α:=Unit,c:= .builtin "dict.__contains__" ⟨[.ref d, .str ⟨⟨[c]⟩⟩ t],[]⟩,need:=[(d,dO P e g f m h)],r:=λ_=> .ok (.ret (.bool b)),put:=λ_=>[dO P e g f m h]}
theorem oY (f:β->E9) (w:E7) (d:Nat) (e:E9) (g:Option Addr) (m:List (Nat×Nat×β)) (i c t:Nat) (b:Bool) (h:bU m c=b):ab (env w) (lF f w.params d e g m i c t b):=by
 refine aN λA s G o p P j=> ?_
 have n:s.heap.get? d=some (dO w.params e g f m i):=P.has (d,_) EZ
 have l:1228<=d:=P.ge (d,_) EZ
 show Fp _ _ (FK table (.builtin "dict.__contains__" ⟨[.ref d, .str ⟨⟨[c]⟩⟩ t],[]⟩)) _ _ s
 rw [aE _ _ F.entry_dict_contains]
 show Fp _ _ (dictGet d (.str ⟨⟨[c]⟩⟩ t)>>=_) _ _ s
 refine E1 (kO n ?_)
 unfold bU at h
 cases k:look? m c with
 | some x=>
  rw [k] at h
  obtain rfl:true=b:=h
  refine E3 ?_
  exact j () _ trivial ((ap.start P).toks _)
 | none=>
  rw [k] at h
  obtain rfl:false=b:=h
  show Fp _ _ (Builtin.Dict.pendingKey? d (.str ⟨⟨[c]⟩⟩ t)>>=_) _ _ _
  refine E1 (wpAny_pendingKey_other (eL l) ?_)
  refine E3 ?_
  exact j () _ trivial ((ap.start P).toks _)
theorem uZ {b d:Type} (g:b->d):∀(l:List b) (i:Nat),(l.map g).eraseIdx i=(l.eraseIdx i).map g
 | [],_=>rfl
 | _::_,0=>rfl
 | x::l,i+1=>by simp [uZ g l i]
def nM (f:β->E9) (P:E6) (d:Nat) (b:Option Addr) (m:List (Nat×Nat×β)) (g c t:Nat):af:={d:=1,α:=Nat,c:= .builtin "dict.__delitem__" ⟨[.ref d, .str ⟨⟨[c]⟩⟩ t],[]⟩,need:=[(d,dO P (.type "dict") b f m g)],r:=λ_=> .ok (.ret .none),put:=λe=>[dO P (.type "dict") b f (dZ m c) e],anyH:=true}
theorem DZ (f:β->E9) (w:E7) (d:Nat) (b:Option Addr) (m:List (Nat×Nat×β)) (e c t:Nat) (v:β) (h:look? m c=some v) (u:m.length<=1000):ab (env w) (nM f w.params d b m e c t):=by
 refine q9 λA s G y P p=> ?_
 have g:s.heap.get? d=some (dO w.params (.type "dict") b f m e):=P.has (d,_) EZ
 show Fp _ _ (FK table (.builtin "dict.__delitem__" ⟨[.ref d, .str ⟨⟨[c]⟩⟩ t],[]⟩)) _ _ s
 rw [aE _ _ F.entry_dict_delitem]
 show Fp _ _ (Builtin.Dict.dictSlotArgs "__delitem__" ⟨[.ref d, .str ⟨⟨[c]⟩⟩ t],[]⟩>>=_) _ _ s
 refine E1 ?_
 unfold Builtin.Dict.dictSlotArgs
 refine E1 (gA (d:=d) rfl P.base g (.inl rfl) ?_)
 show Fp _ _ (pure (Fq d,GR ⟨⟨[c]⟩⟩ t)) _ _ s
 refine E3 ?_
 show Fp _ _ (Builtin.Dict.takeOut d (.str ⟨⟨[c]⟩⟩ t)>>=_) _ _ s
 refine E1 ?_
 unfold Builtin.Dict.takeOut
 try with_reducible refine Gh ?_
 refine E1 ((sk w).pyHash (Gw pq w _ _) (E1 (kP (s:={s with toks:=s.toks+1}) (m:=m) g ?_)))
 rw [oK] at h
 cases j:m.findIdx? λx=>decide (x.1=c) with
 | none=>rw [j] at h;cases h
 | some i=>
  rw [j] at h
  have h:(m[i]?).map (·.2.2)=some v:=h
  refine E1 (FO (s:={s with toks:=s.toks+1}) g rfl ?_)
  obtain ⟨x,r,_⟩:∃x,m[i]? =some x/\x.2.2=v:=by
   cases q:m[i]? with
   | none=>rw [q] at h;cases h
   | some x=>rw [q] at h;exact ⟨x,rfl,by injection h⟩
  have o:((m.map (aS w.params f)).toArray)[i]? =some (aS w.params f x):=by
   rw [Ft,Fi,r];rfl
  simp only [o]
  refine E1 (wpAny_updateDictKeys (s:={s with toks:=s.toks+1}) g rfl (E3 ?_) (by simp [Gu];omega))
  have l:He (λes=>es.eraseIdxIfInBounds i) (dO w.params (.type "dict") b f m e)=dO w.params (.type "dict") b f (dZ m c) (e+1):=by
   unfold dO He
   rw [vj j]
   simp [uZ]
  refine E1 (H7 (E3 ?_))
  have n:=((ap.start P).toks (s.toks+1)).set (He λes=>es.eraseIdxIfInBounds i) (by exact EZ) (by show (He (λes=>es.eraseIdxIfInBounds i) (dO w.params (.type "dict") b f m e)).isFreed=false;rw [l];rfl)
  have k:ap s {s with toks:=s.toks+1,heap:=s.heap.update d (He λes=>es.eraseIdxIfInBounds i)} (nM f w.params d b m e c t).own [(d,He (λes=>es.eraseIdxIfInBounds i) (dO w.params (.type "dict") b f m e))]:=n
  rw [l] at k
  exact p (e+1) _ trivial k
end
section
variable (w:E7) (d:Nat) (cls:E9) (dd:Option Addr) (ep c t:Nat)
theorem cu (m:List (Nat×Nat×Int×Nat)) (v:Int×Nat) (h:look? m c=some v):ab (env w) (nK iv w.params d cls dd m ep c t v):=uM _ _ _ _ _ _ _ _ _ _ h
theorem dW (m:List (Nat×Nat×Nat)) (v:Nat) (h:look? m c=some v):ab (env w) (nK .ref w.params d cls dd m ep c t v):=uM _ _ _ _ _ _ _ _ _ _ h
theorem f6 (m:List (Nat×Nat×Int×Nat)) (i:Int) (u:Nat) (h:m.length<=1000):ab (env w) (jU iv w.params d (.type "dict") dd m ep c t (i,u)):=nh _ _ _ _ _ _ _ _ _ _ (.inl rfl) h
theorem dm (m:List (Nat×Nat×Int×Nat)) (i:Int) (u:Nat) (h:m.length<=1000):ab (env w) (jU iv w.params d (.ref 1093) dd m ep c t (i,u)):=nh _ _ _ _ _ _ _ _ _ _ (.inr rfl) h
theorem gH (m:List (Nat×Nat×Nat)) (a:Nat) (h:m.length<=1000):ab (env w) (jU .ref w.params d (.type "dict") dd m ep c t a):=nh _ _ _ _ _ _ _ _ _ _ (.inl rfl) h
theorem uH (m:List (Nat×Nat×Int×Nat)) (b:Bool) (h:bU m c=b):ab (env w) (lF iv w.params d cls dd m ep c t b):=oY _ _ _ _ _ _ _ _ _ _ h
theorem DY (m:List (Nat×Nat×Int×Nat)) (v:Int×Nat) (h:look? m c=some v) (b:m.length<=1000):ab (env w) (nM iv w.params d dd m ep c t):=DZ _ _ _ _ _ _ _ _ _ h b
end
def cK (t:Nat):Obj:={cls:= .type "StopIteration",data:= .fields (#[.ref t, .none, .none, .none, .bool false, .none]++ownMembersOf (.type "StopIteration") [])}
def aW (t:String) (l i:Nat):Obj:={cls:= .type t,data:= .fields #[.ref l, .int i 0]}
def iF (t:String) (i:Nat):Obj:={cls:= .type t,data:= .fields #[.none, .int i 0]}
theorem hZ {w:E7} {A:Around} {G:HF->Fc->Prop} {e s:Fc} {own:List Addr} {all:ao} (g:A.handled=none) (f:ap e s own all)
 (h:∀a b d,ap e d own ((b,cK a)::(a,aR [] 0)::all)->G (.error (.ref b)) d) {i:Type} {Q:i->Fc->Prop}:
 Fp (FQ pq w) A (do raiseNew (<-newExc (.type "StopIteration") [])) Q (λv s=>G (.error v) s) s:=by
 refine E1 ?_
 simp only [newExc,newTuple]
 refine E1 (Ge ?_ (by size_fits))
 refine E1 (m:=firstArgMember _ _) (wpAny_of_eq (a:=FW) (by first | rfl | (simp only [firstArgMember];rfl)) ?_)
 refine Ge ?_ (by size_fits)
 simp only [raiseNew]
 refine E1 (wpAny_handled ?_)
 rw [show A.in1.handled=none from g]
 refine E1 (E3 (wpAny_throw ?_))
 exact h _ _ _ ((f.push (aR [] 0) rfl).push (cK _) rfl)
theorem sL {b:Type} {x y z:b}:[x,y,z].Perm [z,x,y]:=FD (l₁:=[x,y]) (l₂:=[z])
theorem j5 {b:Type} {x y z u:b}:[x,y,z,u].Perm [z,u,x,y]:=FD (l₁:=[x,y]) (l₂:=[z,u])
section
variable {γ:Type}
def nG (t:String) (b l i:Nat) (o:Obj) (x:E9):af:={d:=1,α:=Unit,c:= .builtin (t++".__next__") ⟨[.ref b],[]⟩,need:=[(b,aW t l i),(l,o)],r:=λ_=> .ok (.ret x),put:=λ_=>[aW t l (i+1),o]}
def nF (t:String) (b l i:Nat) (o:Obj):af:={d:=1,α:=Nat×Nat,c:= .builtin (t++".__next__") ⟨[.ref b],[]⟩,need:=[(b,aW t l i),(l,o)],r:=λx=> .error (.ref x.2),put:=λ_=>[iF t i,o],new:=λx=>[(x.2,cK x.1),(x.1,aR [] 0)]}
theorem cr (w:E7) (b l i n:Nat) (g:γ->E9) (f:List γ) (x:γ) (h:f[i]? =some x):ab (env w) (nG "list_iterator" b l i (ae (f.map g) n) (g x)):=by
 refine aN λA s G m o P j=> ?_
 have d:s.heap.get? b=some (aW "list_iterator" l i):=P.has (b,_) EZ
 have k:s.heap.get? l=some (ae (f.map g) n):=P.has (l,_) (E2 _ EZ)
 have e:FK table (.builtin "list_iterator.__next__" ⟨[.ref b],[]⟩)=Builtin.«list_iterator.__next__» ⟨[.ref b],[]⟩:=aE _ _ entry_listiter_next
 show Fp _ _ (FK table (.builtin "list_iterator.__next__" ⟨[.ref b],[]⟩)) _ _ s
 rw [e]
 show Fp _ _ (field (.ref b) 0>>=_) _ _ s
 refine E1 (FY d rfl (x:= .ref l) rfl ?_)
 show Fp _ _ (if (Fq l==FW)=true then _ else _) _ _ s
 rw [if_neg (show ¬((Fq l==FW)=true) from Fg)]
 show Fp _ _ (field (.ref b) 1>>=_) _ _ s
 refine E1 (FY d rfl (x:= .int i 0) rfl ?_)
 show Fp _ _ (seqItems? (.ref l)>>=_) _ _ s
 refine E1 (FL k rfl ?_)
 simp only [F2,Ft,Fi,h,GA]
 refine E1 (F8 d rfl (by simp) (E3 ?_))
 exact j () _ trivial ((ap.start P).set _ (by exact EZ) rfl)
theorem ch (w:E7) (d l i n:Nat) (g:γ->E9) (x:List γ) (h:x[i]? =none):ab (env w) (nF "list_iterator" d l i (ae (x.map g) n)):=by
 refine aN λA s G m q P k=> ?_
 have f:s.heap.get? d=some (aW "list_iterator" l i):=P.has (d,_) EZ
 have o:s.heap.get? l=some (ae (x.map g) n):=P.has (l,_) (E2 _ EZ)
 have e:FK table (.builtin "list_iterator.__next__" ⟨[.ref d],[]⟩)=Builtin.«list_iterator.__next__» ⟨[.ref d],[]⟩:=aE _ _ entry_listiter_next
 show Fp _ _ (FK table (.builtin "list_iterator.__next__" ⟨[.ref d],[]⟩)) _ _ s
 rw [e]
 show Fp _ _ (field (.ref d) 0>>=_) _ _ s
 refine E1 (FY f rfl (x:= .ref l) rfl ?_)
 show Fp _ _ (if (Fq l==FW)=true then _ else _) _ _ s
 rw [if_neg (show ¬((Fq l==FW)=true) from Fg)]
 show Fp _ _ (field (.ref d) 1>>=_) _ _ s
 refine E1 (FY f rfl (x:= .int i 0) rfl ?_)
 show Fp _ _ (seqItems? (.ref l)>>=_) _ _ s
 refine E1 (FL o rfl ?_)
 simp only [F2,Ft,Fi,h,Option.map_none]
 refine E1 (GX (E1 (F8 f rfl (by simp) ?_)))
 exact hZ m ((ap.start P).set _ (by exact EZ) rfl) λa b p j=>k (a,b) p trivial (j.perm j5)
theorem fK (w:E7) (b l i n:Nat) (g:γ->E9) (f:List γ) (x:γ) (h:f[i]? =some x):ab (env w) (nG "tuple_iterator" b l i (aR (f.map g) n) (g x)):=by
 refine aN λA s G m o P j=> ?_
 have d:s.heap.get? b=some (aW "tuple_iterator" l i):=P.has (b,_) EZ
 have k:s.heap.get? l=some (aR (f.map g) n):=P.has (l,_) (E2 _ EZ)
 have e:FK table (.builtin "tuple_iterator.__next__" ⟨[.ref b],[]⟩)=Builtin.«tuple_iterator.__next__» ⟨[.ref b],[]⟩:=aE _ _ F.entry_tuple_iterator_next
 show Fp _ _ (FK table (.builtin "tuple_iterator.__next__" ⟨[.ref b],[]⟩)) _ _ s
 rw [e]
 show Fp _ _ (field (.ref b) 0>>=_) _ _ s
 refine E1 (FY d rfl (x:= .ref l) rfl ?_)
 show Fp _ _ (if (Fq l==FW)=true then _ else _) _ _ s
 rw [if_neg (show ¬((Fq l==FW)=true) from Fg)]
 show Fp _ _ (field (.ref b) 1>>=_) _ _ s
 refine E1 (FY d rfl (x:= .int i 0) rfl ?_)
 show Fp _ _ (seqItems? (.ref l)>>=_) _ _ s
 refine E1 (FL k rfl ?_)
 simp only [F2,Ft,Fi,h,GA]
 refine E1 (F8 d rfl (by simp) (E3 ?_))
 exact j () _ trivial ((ap.start P).set _ (by exact EZ) rfl)
theorem ir (w:E7) (d l i n:Nat) (g:γ->E9) (x:List γ) (h:x[i]? =none):ab (env w) (nF "tuple_iterator" d l i (aR (x.map g) n)):=by
 refine aN λA s G m q P k=> ?_
 have f:s.heap.get? d=some (aW "tuple_iterator" l i):=P.has (d,_) EZ
 have o:s.heap.get? l=some (aR (x.map g) n):=P.has (l,_) (E2 _ EZ)
 have e:FK table (.builtin "tuple_iterator.__next__" ⟨[.ref d],[]⟩)=Builtin.«tuple_iterator.__next__» ⟨[.ref d],[]⟩:=aE _ _ F.entry_tuple_iterator_next
 show Fp _ _ (FK table (.builtin "tuple_iterator.__next__" ⟨[.ref d],[]⟩)) _ _ s
 rw [e]
 show Fp _ _ (field (.ref d) 0>>=_) _ _ s
 refine E1 (FY f rfl (x:= .ref l) rfl ?_)
 show Fp _ _ (if (Fq l==FW)=true then _ else _) _ _ s
 rw [if_neg (show ¬((Fq l==FW)=true) from Fg)]
 show Fp _ _ (field (.ref d) 1>>=_) _ _ s
 refine E1 (FY f rfl (x:= .int i 0) rfl ?_)
 show Fp _ _ (seqItems? (.ref l)>>=_) _ _ s
 refine E1 (FL o rfl ?_)
 simp only [F2,Ft,Fi,h,Option.map_none]
 refine E1 (GX (E1 (F8 f rfl (by simp) ?_)))
 exact hZ m ((ap.start P).set _ (by exact EZ) rfl) λa b p j=>k (a,b) p trivial (j.perm j5)
end
def cq (b:List Nat) (t i:Nat):Obj:={cls:= .type "str_ascii_iterator",data:= .fields #[.str ⟨⟨b⟩⟩ t, .int i 0]}
def xJ (i:Nat):Obj:={cls:= .type "str_ascii_iterator",data:= .fields #[.none, .int i 0]}
def yl (d t i:Nat) (b:List Nat) (c:Nat):af:={d:=1,α:=Nat,c:= .builtin "str_ascii_iterator.__next__" ⟨[.ref d],[]⟩,need:=[(d,cq b t i)],r:=λu=> .ok (.ret (.str ⟨⟨[c]⟩⟩ u)),put:=λ_=>[cq b t (i+1)]}
theorem eH (w:E7) (d t i:Nat) (b:List Nat) (c:Nat) (h:b[i]? =some c):ab (env w) (yl d t i b c):=by
 refine aN λA s G j k P g=> ?_
 have e:s.heap.get? d=some (cq b t i):=P.has (d,_) EZ
 show Fp _ _ (FK table (.builtin "str_ascii_iterator.__next__" ⟨[.ref d],[]⟩)) _ _ s
 rw [aE _ _ F.entry_str_ascii_iterator_next]
 show Fp _ _ (field (.ref d) 0>>=_) _ _ s
 refine E1 (FY e rfl (x:= .str ⟨⟨b⟩⟩ t) rfl ?_)
 show Fp _ _ (if (GR ⟨⟨b⟩⟩ t==FW)=true then _ else _) _ _ s
 rw [if_neg (show ¬((GR ⟨⟨b⟩⟩ t==FW)=true) from Fg)]
 show Fp _ _ (field (.ref d) 1>>=_) _ _ s
 refine E1 (FY e rfl (x:= .int i 0) rfl ?_)
 show Fp _ _ (match (⟨b⟩:Array Nat)[(i:Int).toNat]? with | some c=>_ | none=>_) _ _ s
 have f:(⟨b⟩:Array Nat)[(i:Int).toNat]? =some c:=by rw [F2];simpa using h
 rw [f]
 refine E1 (F8 e rfl (by simp) ?_)
 show Fp _ _ (retStr ⟨#[c]⟩) _ _ _
 refine E1 ?_
 unfold mkStr
 rw [if_neg (by show ¬(1>Gu);decide)]
 refine E1 (H8 (E3 (E3 ?_)))
 exact g s.toks _ trivial (((ap.start P).set _ (by exact EZ) rfl).toks _)
def yo (b t i:Nat) (d:List Nat):af:={d:=1,α:=Nat×Nat,c:= .builtin "str_ascii_iterator.__next__" ⟨[.ref b],[]⟩,need:=[(b,cq d t i)],r:=λx=> .error (.ref x.2),put:=λ_=>[xJ i],new:=λx=>[(x.2,cK x.1),(x.1,aR [] 0)]}
theorem cJ (w:E7) (e t i:Nat) (d:List Nat) (h:d[i]? =none):ab (env w) (yo e t i d):=by
 refine aN λA s G l n P k=> ?_
 have f:s.heap.get? e=some (cq d t i):=P.has (e,_) EZ
 show Fp _ _ (FK table (.builtin "str_ascii_iterator.__next__" ⟨[.ref e],[]⟩)) _ _ s
 rw [aE _ _ F.entry_str_ascii_iterator_next]
 show Fp _ _ (field (.ref e) 0>>=_) _ _ s
 refine E1 (FY f rfl (x:= .str ⟨⟨d⟩⟩ t) rfl ?_)
 show Fp _ _ (if (GR ⟨⟨d⟩⟩ t==FW)=true then _ else _) _ _ s
 rw [if_neg (show ¬((GR ⟨⟨d⟩⟩ t==FW)=true) from Fg)]
 show Fp _ _ (field (.ref e) 1>>=_) _ _ s
 refine E1 (FY f rfl (x:= .int i 0) rfl ?_)
 show Fp _ _ (match (⟨d⟩:Array Nat)[(i:Int).toNat]? with | some c=>_ | none=>_) _ _ s
 have j:(⟨d⟩:Array Nat)[(i:Int).toNat]? =none:=by rw [F2];simpa using h
 rw [j]
 refine E1 (GX (E1 (F8 f rfl (by simp) ?_)))
 refine E1 (H7 ?_)
 exact hZ l ((ap.start P).set _ (by exact EZ) rfl) λa b m g=>k (a,b) m trivial (g.perm sL)
def bG (v l step:Int) (t b d:Nat):Obj:={cls:= .type "range_iterator",data:= .fields #[.int v t, .int l b, .int step d]}
def yB (i:Nat) (v l step:Int) (d e t:Nat) (f b:Int):af:={d:=1,α:=Nat,c:= .builtin "range_iterator.__next__" ⟨[.ref i],[]⟩,need:=[(i,bG v l step d e t)],r:=λu=> .ok (.ret (.int v u)),put:=λ_=>[bG f b step 0 0 t]}
theorem bY (w:E7) (i:Nat) (v l step:Int) (t d e:Nat) (j g:Int) (h:0< l) (o:v+step=j) (n:l-1=g):ab (env w) (yB i v l step t d e j g):=by
 subst o;subst n
 refine aN λA s G p q P m=> ?_
 have b:s.heap.get? i=some (bG v l step t d e):=P.has (i,_) EZ
 show Fp _ _ (FK table (.builtin "range_iterator.__next__" ⟨[.ref i],[]⟩)) _ _ s
 rw [aE _ _ F.entry_range_iterator_next]
 show Fp _ _ (field (.ref i) 0>>=_) _ _ s
 refine E1 (FY b rfl (x:= .int v t) rfl ?_)
 show Fp _ _ (field (.ref i) 1>>=_) _ _ s
 refine E1 (FY b rfl (x:= .int l d) rfl ?_)
 show Fp _ _ (field (.ref i) 2>>=_) _ _ s
 refine E1 (FY b rfl (x:= .int step e) rfl ?_)
 show Fp _ _ (if l<=0 then _ else _) _ _ s
 rw [if_neg (by omega)]
 have f:=(ap.start P).set (F7 λx=>x.setIfInBounds 0 (FT (v+step))) (by exact EZ) rfl
 have k:=f.set (F7 λx=>x.setIfInBounds 1 (FT (l-1))) (by exact EZ) rfl
 refine E1 (F8 b rfl (by simp) ?_)
 refine E1 (F8 (f.has (i,_) EZ) rfl (by simp) ?_)
 show Fp _ _ (mkInt v>>=_) _ _ _
 refine E1 ?_
 unfold mkInt
 refine E1 (H8 (E3 (E3 ?_)))
 exact m s.toks _ trivial (k.toks _)
def yC (i:Nat) (v l step:Int) (t b d:Nat):af:={d:=1,α:=Nat×Nat,c:= .builtin "range_iterator.__next__" ⟨[.ref i],[]⟩,need:=[(i,bG v l step t b d)],r:=λx=> .error (.ref x.2),put:=λ_=>[bG v l step t b d],new:=λx=>[(x.2,cK x.1),(x.1,aR [] 0)]}
theorem cg (w:E7) (i:Nat) (v l step:Int) (t e f:Nat) (h:¬0< l):ab (env w) (yC i v l step t e f):=by
 refine aN λA s G k n P j=> ?_
 have d:s.heap.get? i=some (bG v l step t e f):=P.has (i,_) EZ
 show Fp _ _ (FK table (.builtin "range_iterator.__next__" ⟨[.ref i],[]⟩)) _ _ s
 rw [aE _ _ F.entry_range_iterator_next]
 show Fp _ _ (field (.ref i) 0>>=_) _ _ s
 refine E1 (FY d rfl (x:= .int v t) rfl ?_)
 show Fp _ _ (field (.ref i) 1>>=_) _ _ s
 refine E1 (FY d rfl (x:= .int l e) rfl ?_)
 show Fp _ _ (field (.ref i) 2>>=_) _ _ s
 refine E1 (FY d rfl (x:= .int step f) rfl ?_)
 show Fp _ _ (if l<=0 then _ else _) _ _ s
 rw [if_pos (by omega)]
 refine E1 (GX (E1 ?_))
 exact hZ k (ap.start P) λa b m g=>j (a,b) m trivial (g.perm sL)
def bZ (t:String) (d i n e:Nat):Obj:={cls:= .type t,data:= .fields #[.ref d, .int i 0, .int n 0, .int e 0]}
def D2 (t:String) (i n e:Nat):Obj:={cls:= .type t,data:= .fields #[.none, .int i 0, .int n 0, .int e 0]}
def aT (x:E9) (d i n e:Nat) (ok o:E9):Obj:={cls:= .type "dict_itemiterator",data:= .fields #[x, .bool false, .ref d, .int i 0, .int n 0, .int e 0,ok,o]}
def CS (i n e:Nat) (ok o:E9):Obj:={cls:= .type "dict_itemiterator",data:= .fields #[.none, .bool false, .none, .int i 0, .int n 0, .int e 0,ok,o]}
section
variable {β:Type}
def lH (t:String) (h d i e:Nat) (P:E6) (b:E9) (g:Option Addr) (f:β->E9) (m:List (Nat×Nat×β)) (x:E9):af:={d:=1,α:=Unit,c:= .builtin (t++".__next__") ⟨[.ref h],[]⟩,need:=[(h,bZ t d i m.length e),(d,dO P b g f m e)],r:=λ_=> .ok (.ret x),put:=λ_=>[bZ t d (i+1) m.length e,dO P b g f m e]}
def lJ (t:String) (h d i e:Nat) (P:E6) (b:E9) (g:Option Addr) (f:β->E9) (m:List (Nat×Nat×β)):af:={d:=1,α:=Nat×Nat,c:= .builtin (t++".__next__") ⟨[.ref h],[]⟩,need:=[(h,bZ t d i m.length e),(d,dO P b g f m e)],r:=λx=> .error (.ref x.2),put:=λ_=>[D2 t i m.length e,dO P b g f m e],new:=λx=>[(x.2,cK x.1),(x.1,aR [] 0)]}
def sg (h d i e:Nat) (ok o:E9) (P:E6) (b:E9) (g:Option Addr) (f:β->E9) (m:List (Nat×Nat×β)) (c t:Nat) (v:β):af:={d:=1,α:=Nat,c:= .builtin "dict_itemiterator.__next__" ⟨[.ref h],[]⟩,need:=[(h,aT .none d i m.length e ok o),(d,dO P b g f m e)],r:=λa=> .ok (.ret (.ref a)),put:=λa=>[aT (.int a 0) d (i+1) m.length e (.str ⟨⟨[c]⟩⟩ t) (f v),dO P b g f m e],new:=λa=>[(a,aR [.str ⟨⟨[c]⟩⟩ t,f v] 0)]}
def si (h d i e:Nat) (ok o:E9) (P:E6) (b:E9) (g:Option Addr) (f:β->E9) (m:List (Nat×Nat×β)):af:={d:=1,α:=Nat×Nat,c:= .builtin "dict_itemiterator.__next__" ⟨[.ref h],[]⟩,need:=[(h,aT .none d i m.length e ok o),(d,dO P b g f m e)],r:=λx=> .error (.ref x.2),put:=λ_=>[CS i m.length e ok o,dO P b g f m e],new:=λx=>[(x.2,cK x.1),(x.1,aR [] 0)]}
theorem Ch (w:E7) (b d i g:Nat) (l:E9) (n:Option Addr) (f:β->E9) (m:List (Nat×Nat×β)) (x:Nat×Nat×β) (h:m[i]? =some x):ab (env w) (lH "dict_keyiterator" b d i g w.params l n f m (.str ⟨⟨[x.1]⟩⟩ x.2.1)):=by
 refine aN λA s G u v P q=> ?_
 have j:s.heap.get? b=some (bZ "dict_keyiterator" d i m.length g):=P.has (b,_) EZ
 have o:s.heap.get? d=some (dO w.params l n f m g):=P.has (d,_) (E2 _ EZ)
 have e:s.TypeIs (.ref b) "dict_keyiterator":=⟨_,j,rfl⟩
 show Fp _ _ (FK table (.builtin "dict_keyiterator.__next__" ⟨[.ref b],[]⟩)) _ _ s
 rw [aE _ _ F.entry_dict_keyiterator_next]
 refine E1 (E1 (E3 (a:=(Fq b,[])) (E3 ?_)))
 refine E1 ?_
 refine E1 ?_
 first | refine E1 (Ha e (E3 ?_)) | refine E1 (HE e (E3 ?_))
 refine E1 (H1 j rfl ?_)
 have t:Ga "dict_keyiterator"=false:=by decide
 simp only [t,Gc,if_false]
 show Fp _ _ (if (Fq d==FW)=true then _ else _) _ _ s
 rw [if_neg (show ¬((Fq d==FW)=true) from Fg)]
 refine E1 (E3 ?_)
 refine E1 (FO o rfl ?_)
 rw [if_neg (by simp)]
 refine E1 (E3 ?_)
 refine E1 (Gi o rfl ?_)
 rw [if_neg (by simp)]
 refine E3 ?_
 have p:((m.map (aS w.params f)).toArray)[i]? =some (aS w.params f x):=by rw [Ft,Fi,h];rfl
 simp only [show ¬((i:Int)< 0) from by omega,if_false,F2,p]
 refine E1 ?_
 first | refine E1 (Ha e (E3 ?_)) | refine E1 (HE e (E3 ?_))
 refine E1 (wpAny_isOneOf_keyiter e ?_)
 show Fp _ _ (setField (.ref b) 1 (FT ((i:Int)+1))>>=_) _ _ s
 refine E1 (F8 j rfl (by simp) ?_)
 have k:=(ap.start P).set (F7 λx=>x.setIfInBounds 1 (FT ((i:Int)+1))) (by exact EZ) rfl
 have r:Shared.TypeIs {s with heap:=s.heap.update b (F7 λx=>x.setIfInBounds 1 (FT ((i:Int)+1)))} (.ref b) "dict_keyiterator":=⟨_,k.has (b,_) EZ,rfl⟩
 refine E1 (Gh ?_)
 refine E1 (wpAny_isOneOf_keyiter r ?_)
 refine E3 (E3 ?_)
 exact q () _ trivial k
theorem Ck (w:E7) (e d i j:Nat) (l:E9) (n:Option Addr) (f:β->E9) (m:List (Nat×Nat×β)) (h:m[i]? =none):ab (env w) (lJ "dict_keyiterator" e d i j w.params l n f m):=by
 refine aN λA s G t x P r=> ?_
 have k:s.heap.get? e=some (bZ "dict_keyiterator" d i m.length j):=P.has (e,_) EZ
 have o:s.heap.get? d=some (dO w.params l n f m j):=P.has (d,_) (E2 _ EZ)
 have g:s.TypeIs (.ref e) "dict_keyiterator":=⟨_,k,rfl⟩
 show Fp _ _ (FK table (.builtin "dict_keyiterator.__next__" ⟨[.ref e],[]⟩)) _ _ s
 rw [aE _ _ F.entry_dict_keyiterator_next]
 refine E1 (E1 (E3 (a:=(Fq e,[])) (E3 ?_)))
 refine E1 ?_
 refine E1 ?_
 first | refine E1 (Ha g (E3 ?_)) | refine E1 (HE g (E3 ?_))
 refine E1 (H1 k rfl ?_)
 have u:Ga "dict_keyiterator"=false:=by decide
 simp only [u,Gc,if_false]
 show Fp _ _ (if (Fq d==FW)=true then _ else _) _ _ s
 rw [if_neg (show ¬((Fq d==FW)=true) from Fg)]
 refine E1 (E3 ?_)
 refine E1 (FO o rfl ?_)
 rw [if_neg (by simp)]
 refine E1 (E3 ?_)
 refine E1 (Gi o rfl ?_)
 rw [if_neg (by simp)]
 refine E3 ?_
 have q:((m.map (aS w.params f)).toArray)[i]? =none:=by rw [Ft,Fi,h];rfl
 simp only [show ¬((i:Int)< 0) from by omega,if_false,F2,q]
 refine E1 ?_
 first | refine E1 (Ha g (E3 ?_)) | refine E1 (HE g (E3 ?_))
 show Fp _ _ (setField (.ref e) 0 .none>>=_) _ _ s
 refine E1 (F8 k rfl (by simp) ?_)
 exact hZ t ((ap.start P).set _ (by exact EZ) rfl) λa b v p=>r (a,b) v trivial (p.perm j5)
theorem wq (w:E7) (b d i g:Nat) (l:E9) (n:Option Addr) (f:β->E9) (m:List (Nat×Nat×β)) (x:Nat×Nat×β) (h:m[i]? =some x):ab (env w) (lH "dict_valueiterator" b d i g w.params l n f m (f x.2.2)):=by
 refine aN λA s G u v P r=> ?_
 have j:s.heap.get? b=some (bZ "dict_valueiterator" d i m.length g):=P.has (b,_) EZ
 have p:s.heap.get? d=some (dO w.params l n f m g):=P.has (d,_) (E2 _ EZ)
 have e:s.TypeIs (.ref b) "dict_valueiterator":=⟨_,j,rfl⟩
 show Fp _ _ (FK table (.builtin "dict_valueiterator.__next__" ⟨[.ref b],[]⟩)) _ _ s
 rw [aE _ _ F.entry_dict_valueiterator_next]
 refine E1 (E1 (E3 (a:=(Fq b,[])) (E3 ?_)))
 refine E1 ?_
 refine E1 ?_
 first | refine E1 (G9 e (E3 ?_)) | refine E1 (HD e (E3 ?_))
 refine E1 (H1 j rfl ?_)
 have t:Ga "dict_valueiterator"=false:=by decide
 simp only [t,Gc,if_false]
 show Fp _ _ (if (Fq d==FW)=true then _ else _) _ _ s
 rw [if_neg (show ¬((Fq d==FW)=true) from Fg)]
 refine E1 (E3 ?_)
 refine E1 (FO p rfl ?_)
 rw [if_neg (by simp)]
 refine E1 (E3 ?_)
 refine E1 (Gi p rfl ?_)
 rw [if_neg (by simp)]
 refine E3 ?_
 have q:((m.map (aS w.params f)).toArray)[i]? =some (aS w.params f x):=by rw [Ft,Fi,h];rfl
 simp only [show ¬((i:Int)< 0) from by omega,if_false,F2,q]
 refine E1 ?_
 first | refine E1 (G9 e (E3 ?_)) | refine E1 (HD e (E3 ?_))
 refine E1 (wpAny_isOneOf_valiter e ?_)
 show Fp _ _ (setField (.ref b) 1 (FT ((i:Int)+1))>>=_) _ _ s
 refine E1 (F8 j rfl (by simp) ?_)
 have k:=(ap.start P).set (F7 λx=>x.setIfInBounds 1 (FT ((i:Int)+1))) (by exact EZ) rfl
 have o:Shared.TypeIs {s with heap:=s.heap.update b (F7 λx=>x.setIfInBounds 1 (FT ((i:Int)+1)))} (.ref b) "dict_valueiterator":=⟨_,k.has (b,_) EZ,rfl⟩
 refine E1 (Gh ?_)
 refine E1 (wpAny_isOneOf_valiter o ?_)
 refine E1 (wpAny_isOneOf_valiter o ?_)
 refine E3 (E3 ?_)
 exact r () _ trivial k
theorem wr (w:E7) (e d i j:Nat) (l:E9) (n:Option Addr) (f:β->E9) (m:List (Nat×Nat×β)) (h:m[i]? =none):ab (env w) (lJ "dict_valueiterator" e d i j w.params l n f m):=by
 refine aN λA s G t x P r=> ?_
 have k:s.heap.get? e=some (bZ "dict_valueiterator" d i m.length j):=P.has (e,_) EZ
 have o:s.heap.get? d=some (dO w.params l n f m j):=P.has (d,_) (E2 _ EZ)
 have g:s.TypeIs (.ref e) "dict_valueiterator":=⟨_,k,rfl⟩
 show Fp _ _ (FK table (.builtin "dict_valueiterator.__next__" ⟨[.ref e],[]⟩)) _ _ s
 rw [aE _ _ F.entry_dict_valueiterator_next]
 refine E1 (E1 (E3 (a:=(Fq e,[])) (E3 ?_)))
 refine E1 ?_
 refine E1 ?_
 first | refine E1 (G9 g (E3 ?_)) | refine E1 (HD g (E3 ?_))
 refine E1 (H1 k rfl ?_)
 have u:Ga "dict_valueiterator"=false:=by decide
 simp only [u,Gc,if_false]
 show Fp _ _ (if (Fq d==FW)=true then _ else _) _ _ s
 rw [if_neg (show ¬((Fq d==FW)=true) from Fg)]
 refine E1 (E3 ?_)
 refine E1 (FO o rfl ?_)
 rw [if_neg (by simp)]
 refine E1 (E3 ?_)
 refine E1 (Gi o rfl ?_)
 rw [if_neg (by simp)]
 refine E3 ?_
 have q:((m.map (aS w.params f)).toArray)[i]? =none:=by rw [Ft,Fi,h];rfl
 simp only [show ¬((i:Int)< 0) from by omega,if_false,F2,q]
 refine E1 ?_
 first | refine E1 (G9 g (E3 ?_)) | refine E1 (HD g (E3 ?_))
 show Fp _ _ (setField (.ref e) 0 .none>>=_) _ _ s
 refine E1 (F8 k rfl (by simp) ?_)
 exact hZ t ((ap.start P).set _ (by exact EZ) rfl) λa b v p=>r (a,b) v trivial (p.perm j5)
theorem Ct (w:E7) (b d i g:Nat) (ok o:E9) (k:E9) (l:Option Addr) (f:β->E9) (m:List (Nat×Nat×β)) (c t:Nat) (v:β) (h:m[i]? =some (c,t,v)):ab (env w) (sg b d i g ok o w.params k l f m c t v):=by
 refine aN λA s G I N P H=> ?_
 have n:s.heap.get? b=some (aT .none d i m.length g ok o):=P.has (b,_) EZ
 have B:s.heap.get? d=some (dO w.params k l f m g):=P.has (d,_) (E2 _ EZ)
 have j:s.TypeIs (.ref b) "dict_itemiterator":=⟨_,n,rfl⟩
 show Fp _ _ (FK table (.builtin "dict_itemiterator.__next__" ⟨[.ref b],[]⟩)) _ _ s
 rw [aE _ _ F.entry_dict_itemiterator_next]
 refine E1 (E1 (E3 (a:=(Fq b,[])) (E3 ?_)))
 refine E1 ?_
 refine E1 ?_
 first | refine E1 (GV j (E3 ?_)) | refine E1 (Hu j (E3 ?_))
 refine E1 (H1 n rfl ?_)
 have J:Ga "dict_itemiterator"=true:=by decide
 simp only [J,if_true]
 show Fp _ _ (if (Fq d==FW)=true then _ else _) _ _ s
 rw [if_neg (show ¬((Fq d==FW)=true) from Fg)]
 refine E1 (E3 ?_)
 refine E1 (FO B rfl ?_)
 rw [if_neg (by simp)]
 refine E1 (E3 ?_)
 refine E1 (Gi B rfl ?_)
 rw [if_neg (by simp)]
 refine E3 ?_
 have D:((m.map (aS w.params f)).toArray)[i]? =some (aS w.params f (c,t,v)):=by rw [Ft,Fi,h];rfl
 simp only [show ¬((i:Int)< 0) from by omega,if_false,F2,D]
 refine E1 ?_
 first | refine E1 (GV j (E3 ?_)) | refine E1 (Hu j (E3 ?_))
 refine E1 (wpAny_isOneOf_itemiter j ?_)
 show Fp _ _ (setField (.ref b) 3 (FT ((i:Int)+1))>>=_) _ _ s
 refine E1 (F8 n rfl (by simp) ?_)
 have p:=(ap.start P).set (F7 λx=>x.setIfInBounds 3 (FT ((i:Int)+1))) (by exact EZ) rfl
 have y:Shared.TypeIs {s with heap:=s.heap.update b (F7 λx=>x.setIfInBounds 3 (FT ((i:Int)+1)))} (.ref b) "dict_itemiterator":=⟨_,p.has (b,_) EZ,rfl⟩
 refine E1 (Gh ?_)
 refine E1 (wpAny_isOneOf_itemiter y ?_)
 refine E1 (wpAny_isOneOf_itemiter y ?_)
 show Fp _ _ (Builtin.Dict_items.pairFromOwner (.ref b) 6 (.str ⟨⟨[c]⟩⟩ t) (f v)) _ _ _
 unfold Builtin.Dict_items.pairFromOwner
 refine E1 (wpAny_newTuple ?_)
 have e:=(p.push (aR [.str ⟨⟨[c]⟩⟩ t,f v] 0) rfl).perm (.swap ..)
 have M:(s.heap.update b (F7 λx=>x.setIfInBounds 3 (FT ((i:Int)+1)))).objs.size=s.heap.objs.size:=(Heap.SameBut.update ..).1
 revert e
 show ap s {s with heap:=(s.heap.update b (F7 λx=>x.setIfInBounds 3 (FT ((i:Int)+1)))).push (aR [.str ⟨⟨[c]⟩⟩ t,f v] 0)} _ [(b,aT .none d (i+1) m.length g ok o),((s.heap.update b (F7 λx=>x.setIfInBounds 3 (FT ((i:Int)+1)))).objs.size,aR [.str ⟨⟨[c]⟩⟩ t,f v] 0),(d,dO w.params k l f m g)]->_
 intro e
 show Fp _ _ _ _ _ {s with heap:=(s.heap.update b (F7 λx=>x.setIfInBounds 3 (FT ((i:Int)+1)))).push (aR [.str ⟨⟨[c]⟩⟩ t,f v] 0)}
 generalize L:(s.heap.update b (F7 λx=>x.setIfInBounds 3 (FT ((i:Int)+1)))).push (aR [.str ⟨⟨[c]⟩⟩ t,f v] 0)=E at e⊢
 generalize I:(s.heap.update b (F7 λx=>x.setIfInBounds 3 (FT ((i:Int)+1)))).objs.size=a at e⊢
 have o2:E.get? b=some (aT .none d (i+1) m.length g ok o):=e.has (b,_) EZ
 refine E1 ?_
 unfold Builtin.Dict_items.ownedTupleIsFree
 refine E1 (FY o2 rfl (x:= .none) rfl (E3 ?_))
 simp only [if_true]
 refine E1 (FY o2 rfl (x:=ok) rfl ?_)
 refine E1 (FY o2 rfl (x:=o) rfl ?_)
 have q:=e.set (F7 λx=>x.setIfInBounds 6 (.str ⟨⟨[c]⟩⟩ t)) (by exact EZ) rfl
 refine E1 (F8 o2 rfl (by simp) ?_)
 have r:=q.set (F7 λx=>x.setIfInBounds 7 (f v)) (by exact EZ) rfl
 refine E1 (F8 (q.has (b,_) EZ) rfl (by simp) ?_)
 have u:=r.set (F7 λx=>x.setIfInBounds 0 (FT a)) (by exact EZ) rfl
 refine E1 (F8 (r.has (b,_) EZ) rfl (by simp) ?_)
 have C:=u.set (F7 λx=>x.setIfInBounds 1 (.bool false)) (by exact EZ) rfl
 refine E1 (F8 (u.has (b,_) EZ) rfl (by simp) ?_)
 refine E1 (H7 (E3 (E3 ?_)))
 exact H a _ trivial (C.perm (.cons _ (.swap ..)))
theorem Cw (w:E7) (e d i j:Nat) (ok p:E9) (l:E9) (n:Option Addr) (f:β->E9) (m:List (Nat×Nat×β)) (h:m[i]? =none):ab (env w) (si e d i j ok p w.params l n f m):=by
 refine aN λA s G u y P t=> ?_
 have k:s.heap.get? e=some (aT .none d i m.length j ok p):=P.has (e,_) EZ
 have o:s.heap.get? d=some (dO w.params l n f m j):=P.has (d,_) (E2 _ EZ)
 have g:s.TypeIs (.ref e) "dict_itemiterator":=⟨_,k,rfl⟩
 show Fp _ _ (FK table (.builtin "dict_itemiterator.__next__" ⟨[.ref e],[]⟩)) _ _ s
 rw [aE _ _ F.entry_dict_itemiterator_next]
 refine E1 (E1 (E3 (a:=(Fq e,[])) (E3 ?_)))
 refine E1 ?_
 refine E1 ?_
 first | refine E1 (GV g (E3 ?_)) | refine E1 (Hu g (E3 ?_))
 refine E1 (H1 k rfl ?_)
 have v:Ga "dict_itemiterator"=true:=by decide
 simp only [v,if_true]
 show Fp _ _ (if (Fq d==FW)=true then _ else _) _ _ s
 rw [if_neg (show ¬((Fq d==FW)=true) from Fg)]
 refine E1 (E3 ?_)
 refine E1 (FO o rfl ?_)
 rw [if_neg (by simp)]
 refine E1 (E3 ?_)
 refine E1 (Gi o rfl ?_)
 rw [if_neg (by simp)]
 refine E3 ?_
 have r:((m.map (aS w.params f)).toArray)[i]? =none:=by rw [Ft,Fi,h];rfl
 simp only [show ¬((i:Int)< 0) from by omega,if_false,F2,r]
 refine E1 ?_
 first | refine E1 (GV g (E3 ?_)) | refine E1 (Hu g (E3 ?_))
 show Fp _ _ (setField (.ref e) 2 .none>>=_) _ _ s
 refine E1 (F8 k rfl (by simp) ?_)
 exact hZ u ((ap.start P).set _ (by exact EZ) rfl) λa b x q=>t (a,b) x trivial (q.perm j5)
end
section
variable (w:E7) (it d i ep:Nat) (ok ov:E9) (cls:E9) (dd:Option Addr)
theorem Cu (m:List (Nat×Nat×Int×Nat)) (x:Nat×Nat×Int×Nat) (h:m[i]? =some x):ab (env w) (sg it d i ep ok ov w.params cls dd iv m x.1 x.2.1 x.2.2):=Ct _ _ _ _ _ _ _ _ _ _ _ _ _ _ h
theorem gl (m:List (Nat×Nat×Int×Nat)) (h:m[i]? =none):ab (env w) (si it d i ep ok ov w.params cls dd iv m):=Cw _ _ _ _ _ _ _ _ _ _ _ h
theorem t9 (m:List (Nat×Nat×Nat)) (x:Nat×Nat×Nat) (h:m[i]? =some x):ab (env w) (lH "dict_keyiterator" it d i ep w.params cls dd .ref m (.str ⟨⟨[x.1]⟩⟩ x.2.1)):=Ch _ _ _ _ _ _ _ _ _ _ h
theorem ua (m:List (Nat×Nat×Nat)) (h:m[i]? =none):ab (env w) (lJ "dict_keyiterator" it d i ep w.params cls dd .ref m):=Ck _ _ _ _ _ _ _ _ _ h
theorem qd (m:List (Nat×Nat×Nat)) (x:Nat×Nat×Nat) (h:m[i]? =some x):ab (env w) (lH "dict_valueiterator" it d i ep w.params cls dd .ref m (.ref x.2.2)):=wq _ _ _ _ _ _ _ _ _ _ h
theorem wo (m:List (Nat×Nat×Nat)) (h:m[i]? =none):ab (env w) (lJ "dict_valueiterator" it d i ep w.params cls dd .ref m):=wr _ _ _ _ _ _ _ _ _ h
end
def j1 (id:String) (x y:Int) (t u:Nat) (z:Int):af:={d:=1,α:=Nat,c:= .builtin id ⟨[.int x t, .int y u],[]⟩,need:=[],r:=λv=> .ok (.ret (.int z v))}
def gf (id:String) (x y:Int) (t u:Nat) (b:Bool):af:={d:=1,α:=Unit,c:= .builtin id ⟨[.int x t, .int y u],[]⟩,need:=[],r:=λ_=> .ok (.ret (.bool b))}
theorem b8 (w:E7) (x y:Int) (t u:Nat) (z:Int) (h:x+y=z):ab (env w) (j1 "int.__add__" x y t u z):=by
 subst h
 refine aN λA s G d e P b=> ?_
 show Fp _ _ (FK table (.builtin "int.__add__" ⟨[.int x t, .int y u],[]⟩)) _ _ s
 rw [aE _ _ F.entry_int_add]
 show Fp _ _ (mkInt (x+y)>>=_) _ _ s
 unfold mkInt
 exact E1 (E1 (H8 (E3 (E3 (b s.toks _ trivial ((ap.start P).toks _))))))
theorem bx (w:E7) (x y:Int) (t u:Nat) (z:Int) (h:x-y=z):ab (env w) (j1 "int.__sub__" x y t u z):=by
 subst h
 refine aN λA s G d e P b=> ?_
 show Fp _ _ (FK table (.builtin "int.__sub__" ⟨[.int x t, .int y u],[]⟩)) _ _ s
 rw [aE _ _ F.entry_int_sub]
 show Fp _ _ (mkInt (x-y)>>=_) _ _ s
 unfold mkInt
 exact E1 (E1 (H8 (E3 (E3 (b s.toks _ trivial ((ap.start P).toks _))))))
theorem gp (w:E7) (x y:Int) (t u:Nat) (z:Int) (j:x.natAbs< 1000000) (h:x*y=z):ab (env w) (j1 "int.__mul__" x y t u z):=by
 subst h
 refine aN λA s G g i P e=> ?_
 show Fp _ _ (FK table (.builtin "int.__mul__" ⟨[.int x t, .int y u],[]⟩)) _ _ s
 rw [aE _ _ F.entry_int_mul]
 show Fp _ _ (if (Hg x>shortFactorBits&&Hg y>shortFactorBits&&Builtin.Int.intTooBig (Hg x+Hg y))=true then _ else _) _ _ s
 rw [if_neg (by
  have:¬(Hg x>shortFactorBits):=by
   unfold Hg shortFactorBits
   split
   .decide
   .rename_i b
    have d:x.natAbs≠0:=by simpa using b
    have f:x.natAbs.log2< 20:=(Nat.log2_lt d).mpr (by omega)
    omega
  simp [this])]
 show Fp _ _ (mkInt (x*y)>>=_) _ _ s
 unfold mkInt
 exact E1 (E1 (H8 (E3 (E3 (e s.toks _ trivial ((ap.start P).toks _))))))
theorem eO (w:E7) (x y:Int) (t u:Nat) (z:Int) (d:y≠0) (h:x.fmod y=z):ab (env w) (j1 "int.__mod__" x y t u z):=by
 subst h
 refine aN λA s G e f P b=> ?_
 show Fp _ _ (FK table (.builtin "int.__mod__" ⟨[.int x t, .int y u],[]⟩)) _ _ s
 rw [aE _ _ F.entry_int_mod]
 show Fp _ _ (if (y==0)=true then _ else _) _ _ s
 rw [if_neg (by simpa using d)]
 show Fp _ _ (mkInt (x.fmod y)>>=_) _ _ s
 unfold mkInt
 exact E1 (E1 (H8 (E3 (E3 (b s.toks _ trivial ((ap.start P).toks _))))))
theorem g9 (w:E7) (x y:Int) (t u:Nat) (z:Int) (e:y≠0) (d:y.natAbs< 1073741824) (h:x.fdiv y=z):ab (env w) (j1 "int.__floordiv__" x y t u z):=by
 subst h
 refine aN λA s G f g P b=> ?_
 show Fp _ _ (FK table (.builtin "int.__floordiv__" ⟨[.int x t, .int y u],[]⟩)) _ _ s
 rw [aE _ _ F.entry_int_floordiv]
 show Fp _ _ (if (y==0)=true then _ else _) _ _ s
 rw [if_neg (by simpa using e)]
 refine E1 (wpAny_roomForPylong (.inl (PyProof.noPylong_small d)) ?_)
 show Fp _ _ (mkInt (x.fdiv y)>>=_) _ _ s
 unfold mkInt
 exact E1 (E1 (H8 (E3 (E3 (b s.toks _ trivial ((ap.start P).toks _))))))
theorem g7 (w:E7) (x y:Int) (t u:Nat) (h:x=y):ab (env w) (gf "int.__eq__" x y t u true):=by
 refine aN λA s G d e P b=> ?_
 show Fp _ _ (FK table (.builtin "int.__eq__" ⟨[.int x t, .int y u],[]⟩)) _ _ s
 rw [aE _ _ F.entry_int_eq]
 show Fp _ _ (Sem.pure (GQ (.ret (.bool (x==y))))) _ _ s
 refine E3 ?_
 rw [show (x==y)=true from by simp;omega]
 exact b () _ trivial (ap.start P)
theorem g8 (w:E7) (x y:Int) (t u:Nat) (h:¬x=y):ab (env w) (gf "int.__eq__" x y t u false):=by
 refine aN λA s G d e P b=> ?_
 show Fp _ _ (FK table (.builtin "int.__eq__" ⟨[.int x t, .int y u],[]⟩)) _ _ s
 rw [aE _ _ F.entry_int_eq]
 show Fp _ _ (Sem.pure (GQ (.ret (.bool (x==y))))) _ _ s
 refine E3 ?_
 rw [show (x==y)=false from by simp;omega]
 exact b () _ trivial (ap.start P)
theorem gq (w:E7) (x y:Int) (t u:Nat) (h:x< y):ab (env w) (gf "int.__lt__" x y t u true):=by
 refine aN λA s G d e P b=> ?_
 show Fp _ _ (FK table (.builtin "int.__lt__" ⟨[.int x t, .int y u],[]⟩)) _ _ s
 rw [aE _ _ F.entry_int_lt]
 show Fp _ _ (Sem.pure (GQ (.ret (.bool (decide (x< y)))))) _ _ s
 refine E3 ?_
 rw [show (decide (x< y))=true from by simp;omega]
 exact b () _ trivial (ap.start P)
theorem gr (w:E7) (x y:Int) (t u:Nat) (h:¬x< y):ab (env w) (gf "int.__lt__" x y t u false):=by
 refine aN λA s G d e P b=> ?_
 show Fp _ _ (FK table (.builtin "int.__lt__" ⟨[.int x t, .int y u],[]⟩)) _ _ s
 rw [aE _ _ F.entry_int_lt]
 show Fp _ _ (Sem.pure (GQ (.ret (.bool (decide (x< y)))))) _ _ s
 refine E3 ?_
 rw [show (decide (x< y))=false from by simp;omega]
 exact b () _ trivial (ap.start P)
theorem dx (w:E7) (x y:Int) (t u:Nat) (h:y< x):ab (env w) (gf "int.__gt__" x y t u true):=by
 refine aN λA s G d e P b=> ?_
 show Fp _ _ (FK table (.builtin "int.__gt__" ⟨[.int x t, .int y u],[]⟩)) _ _ s
 rw [aE _ _ F.entry_int_gt]
 show Fp _ _ (Sem.pure (GQ (.ret (.bool (decide (x>y)))))) _ _ s
 refine E3 ?_
 rw [show (decide (x>y))=true from by simp;omega]
 exact b () _ trivial (ap.start P)
theorem dy (w:E7) (x y:Int) (t u:Nat) (h:¬y< x):ab (env w) (gf "int.__gt__" x y t u false):=by
 refine aN λA s G d e P b=> ?_
 show Fp _ _ (FK table (.builtin "int.__gt__" ⟨[.int x t, .int y u],[]⟩)) _ _ s
 rw [aE _ _ F.entry_int_gt]
 show Fp _ _ (Sem.pure (GQ (.ret (.bool (decide (x>y)))))) _ _ s
 refine E3 ?_
 rw [show (decide (x>y))=false from by simp;omega]
 exact b () _ trivial (ap.start P)
theorem gn (w:E7) (x y:Int) (t u:Nat) (h:x=y):ab (env w) (gf "int.__ne__" x y t u false):=by
 refine aN λA s G d e P b=> ?_
 show Fp _ _ (FK table (.builtin "int.__ne__" ⟨[.int x t, .int y u],[]⟩)) _ _ s
 rw [aE _ _ F.entry_int_ne]
 show Fp _ _ (Sem.pure (GQ (.ret (.bool (x !=y))))) _ _ s
 refine E3 ?_
 rw [show (x !=y)=false from by simp;omega]
 exact b () _ trivial (ap.start P)
theorem ur (w:E7) (x y:Int) (t u:Nat) (h:¬x=y):ab (env w) (gf "int.__ne__" x y t u true):=by
 refine aN λA s G d e P b=> ?_
 show Fp _ _ (FK table (.builtin "int.__ne__" ⟨[.int x t, .int y u],[]⟩)) _ _ s
 rw [aE _ _ F.entry_int_ne]
 show Fp _ _ (Sem.pure (GQ (.ret (.bool (x !=y))))) _ _ s
 refine E3 ?_
 rw [show (x !=y)=true from by simp;omega]
 exact b () _ trivial (ap.start P)
section
variable {γ:Type}
theorem e9 {vs:List E9} {n:Nat} {f:Array E9->Array E9} {vs':List E9} (h:f vs.toArray=vs'.toArray):FH f (ae vs n)=ae vs' (if vs'.length=vs.length then n else n+1):=by
 unfold ae FH
 simp only [h]
 by_cases e:vs'.length=vs.length<;>simp [e]
def iP (g:γ->E9) (l:Nat) (b:List γ) (n:Nat) (x:γ):af:={d:=1,α:=Unit,c:= .builtin "list.append" ⟨[.ref l,g x],[]⟩,need:=[(l,ae (b.map g) n)],r:=λ_=> .ok (.ret .none),put:=λ_=>[ae ((b++[x]).map g) (n+1)]}
theorem mE (g:γ->E9) (w:E7) (l:Nat) (b:List γ) (n:Nat) (x:γ) (k:b.length<=100000):ab (env w) (iP g l b n x):=by
 refine aN λA s G j m P h=> ?_
 have i:s.heap.get? l=some (ae (b.map g) n):=P.has (l,_) EZ
 show Fp _ _ (FK table (.builtin "list.append" ⟨[.ref l,g x],[]⟩)) _ _ s
 rw [aE _ _ F.entry_list_append]
 refine E1 (E3 (a:=(Fq l,g x)) ?_)
 refine E1 (GT i rfl ?_ (by simp [Gu];omega) (by simp [Gu];omega))
 refine E3 ?_
 have e:FH (·.push (g x)) (ae (b.map g) n)=ae ((b++[x]).map g) (n+1):=by
  rw [e9 (vs':=(b++[x]).map g) (by simp)]
  simp
 have f:=(ap.start P).set (FH (·.push (g x))) (by exact EZ) (by show (FH (·.push (g x)) (ae (b.map g) n)).isFreed=false;rw [e];rfl)
 have d:ap s {s with heap:=s.heap.update l (FH (·.push (g x)))} (iP g l b n x).own [(l,FH (·.push (g x)) (ae (b.map g) n))]:=f
 rw [e] at d
 exact h () _ trivial d
def r9 (g:γ->E9) (l:Nat) (b:List γ) (n:Nat) (k:Int) (t:Nat) (x:γ):af:={d:=1,α:=Unit,c:= .builtin "list.__getitem__" ⟨[.ref l, .int k t],[]⟩,need:=[(l,ae (b.map g) n)],r:=λ_=> .ok (.ret (g x)),put:=λ_=>[ae (b.map g) n]}
theorem Cv (g:γ->E9) (w:E7) (l:Nat) (b:List γ) (n:Nat) (k:Int) (t:Nat) (i:Nat) (x:γ) (hk:k=↑i) (h:b[i]? =some x) (m:b.length<=100000):ab (env w) (r9 g l b n k t x):=by
 refine aN λA s G f o P d=> ?_
 have e:s.heap.get? l=some (ae (b.map g) n):=P.has (l,_) EZ
 show Fp _ _ (FK table (.builtin "list.__getitem__" ⟨[.ref l, .int k t],[]⟩)) _ _ s
 rw [aE _ _ F.entry_list_getitem]
 have j:i< b.length:=(E8.mp h).1
 show Fp _ _ (GF (.int k t)>>=_) _ _ s
 refine E1 (wpAny_listSubscript_int (fitsIndex_of (by omega) (by omega)) ?_)
 subst hk
 show Fp _ _ ((seqItemAt l i>>=λr=>pure (r.map (i, ·)))>>=_) _ _ s
 refine E1 (E1 (wpAny_seqItemAt e rfl (E3 ?_)))
 rw [Ft,Fi,h]
 refine E3 ?_
 exact d () _ trivial (ap.start P)
def r5 (g:γ->E9) (l:Nat) (b:List γ) (n:Nat) (t:Nat) (x:γ):af:={d:=1,α:=Unit,c:= .builtin "list.__getitem__" ⟨[.ref l, .int (-1) t],[]⟩,need:=[(l,ae ((b++[x]).map g) n)],r:=λ_=> .ok (.ret (g x)),put:=λ_=>[ae ((b++[x]).map g) n]}
def nB (g:γ->E9) (l:Nat) (b:List γ) (n:Nat) (k:Int) (t i:Nat) (x:γ):af:={d:=1,α:=Unit,c:= .builtin "list.__setitem__" ⟨[.ref l, .int k t,g x],[]⟩,need:=[(l,ae (b.map g) n)],r:=λ_=> .ok (.ret .none),put:=λ_=>[ae ((b.set i x).map g) n]}
theorem zQ (g:γ->E9) (w:E7) (l:Nat) (b:List γ) (n:Nat) (k:Int) (t:Nat) (i:Nat) (x:γ) (hk:k=↑i) (m:i< b.length) (p:b.length<=100000):ab (env w) (nB g l b n k t i x):=by
 refine aN λA s G o q P j=> ?_
 have h:s.heap.get? l=some (ae (b.map g) n):=P.has (l,_) EZ
 show Fp _ _ (FK table (.builtin "list.__setitem__" ⟨[.ref l, .int k t,g x],[]⟩)) _ _ s
 rw [aE _ _ F.entry_list_setitem]
 show Fp _ _ (GF (.int k t)>>=_) _ _ s
 refine E1 (wpAny_listSubscript_int (fitsIndex_of (by omega) (by omega)) ?_)
 subst hk
 show Fp _ _ ((seqItemAt l i>>=λr=>pure (r.map (i, ·)))>>=_) _ _ s
 refine E1 (E1 (wpAny_seqItemAt h rfl (E3 ?_)))
 rw [Ft,Fi,Ff m]
 refine E1 (wpAny_setSeqItemAt h rfl (E3 ?_))
 have e:FH (·.setIfInBounds i (g x)) (ae (b.map g) n)=ae ((b.set i x).map g) n:=by
  rw [e9 (vs':=(b.set i x).map g) (by simp [List.map_set])]
  simp
 have f:=(ap.start P).set (FH (·.setIfInBounds i (g x))) (by exact EZ) (by show (FH (·.setIfInBounds i (g x)) (ae (b.map g) n)).isFreed=false;rw [e];rfl)
 have d:ap s {s with heap:=s.heap.update l (FH (·.setIfInBounds i (g x)))} (nB g l b n i t i x).own [(l,FH (·.setIfInBounds i (g x)) (ae (b.map g) n))]:=f
 rw [e] at d
 exact j () _ trivial d
end
def f7 (id:String) (l m:List Nat) (t u:Nat) (b:Bool):af:={d:=1,α:=Unit,c:= .builtin id ⟨[.str ⟨⟨l⟩⟩ t, .str ⟨⟨m⟩⟩ u],[]⟩,need:=[],r:=λ_=> .ok (.ret (.bool b))}
theorem lx (w:E7) (l m:List Nat) (t u:Nat) (b:Bool) (h:(l==m)=b):ab (env w) (f7 "str.__eq__" l m t u b):=by
 refine aN λA s G e f P d=> ?_
 show Fp _ _ (FK table (.builtin "str.__eq__" ⟨[.str ⟨⟨l⟩⟩ t, .str ⟨⟨m⟩⟩ u],[]⟩)) _ _ s
 rw [aE _ _ F.entry_str_eq]
 show Fp _ _ (Sem.pure (GQ (.ret (.bool (l==m))))) _ _ s
 refine E3 ?_
 rw [h]
 exact d () _ trivial (ap.start P)
theorem vG (w:E7) (c d t u:Nat) (h:c=d):ab (env w) (f7 "str.__eq__" [c] [d] t u true):=lx _ _ _ _ _ _ (by simp [h])
theorem Ey (w:E7) (c d t u:Nat) (h:¬c=d):ab (env w) (f7 "str.__eq__" [c] [d] t u false):=lx _ _ _ _ _ _ (by simp [h])
theorem xM (w:E7) (l m:List Nat) (t u:Nat) (h:l=m):ab (env w) (f7 "str.__eq__" l m t u true):=lx _ _ _ _ _ _ (by simp [h])
theorem jN (w:E7) (l m:List Nat) (t u:Nat) (h:¬l=m):ab (env w) (f7 "str.__eq__" l m t u false):=lx _ _ _ _ _ _ (by simp [h])
theorem m7 (l:List Nat) (c i:Nat):HC ⟨⟨l⟩⟩ ⟨⟨[c]⟩⟩ i=(l[i]? ==some c):=by
 show (((⟨l⟩:Array Nat).extract i (i+1))==(⟨[c]⟩:Array Nat))=_
 have e:(⟨l⟩:Array Nat).extract i (i+1)=⟨(l[i]?).toList⟩:=by
  apply Array.ext'
  simp only [Array.toList_extract,List.extract_eq_take_drop,Nat.add_sub_cancel_left]
  cases h:l[i]? with
  | none=>simp at h;simp [h]
  | some x=>
   obtain ⟨b,rfl⟩:=E8.mp h
   rw [Hv b];rfl
 rw [e]
 cases h:l[i]? with
 | none=>rfl
 | some x=>
  show ((⟨[x]⟩:Array Nat)==⟨[c]⟩)=_
  by_cases q:x=c
  .subst q;simp
  .rw [beq_eq_false_iff_ne.mpr (by simpa using q)]
   have:(some x==some c)=false:=by simpa using q
   rw [this]
def ez (l:List Nat) (c n:Nat) (st:Array Nat×Nat) (i:Nat):Array Nat×Nat:=
 if (decide (st.1.size< 1)&&decide (st.2<=i)&&decide (i+1<=n)&&HC ⟨⟨l⟩⟩ ⟨⟨[c]⟩⟩ i)=true then (st.1.push i,i+1) else (st.1,st.2)
theorem Ad (l:List Nat) (c n:Nat):HK ⟨⟨l⟩⟩ ⟨⟨[c]⟩⟩ 0 n 1=((HU 0 (n+1)).foldl (ez l c n) (#[],0)).1.toList:=by
 unfold HK
 dsimp only
 rw [GY]
 simp only [Std.Legacy.Range.size,Nat.sub_zero,Nat.add_sub_cancel,Nat.div_one]
 have k:∀(b:List Nat) (st:Array Nat×Nat),(forIn (m:=Id) b st λi r=>(if (decide (r.1.size< 1)&&decide (r.2<=i)&&decide (i+(⟨⟨[c]⟩⟩:Str).length<=n)&&HC ⟨⟨l⟩⟩ ⟨⟨[c]⟩⟩ i)=true then (pure (.yield (r.1.push i,i+(⟨⟨[c]⟩⟩:Str).length)):Id _) else pure (.yield (r.1,r.2))))=b.foldl (ez l c n) st:=by
  intro b
  induction b with
  | nil=>intro st;rfl
  | cons x b d=>
   intro st
   rw [List.forIn_cons,HW]
   unfold ez
   show Id.run _=_
   by_cases h:(decide (st.1.size< 1)&&decide (st.2<=x)&&decide (x+1<=n)&&HC ⟨⟨l⟩⟩ ⟨⟨[c]⟩⟩ x)=true
   .rw [if_pos h]
    rw [show (if (decide (st.1.size< 1)&&decide (st.2<=x)&&decide (x+(⟨⟨[c]⟩⟩:Str).length<=n)&&HC ⟨⟨l⟩⟩ ⟨⟨[c]⟩⟩ x)=true then (pure (ForInStep.yield (st.1.push x,x+(⟨⟨[c]⟩⟩:Str).length)):Id _) else pure (.yield (st.1,st.2)))=pure (.yield (st.1.push x,x+1)) from if_pos h]
    exact d _
   .rw [if_neg h]
    rw [show (if (decide (st.1.size< 1)&&decide (st.2<=x)&&decide (x+(⟨⟨[c]⟩⟩:Str).length<=n)&&HC ⟨⟨l⟩⟩ ⟨⟨[c]⟩⟩ x)=true then (pure (ForInStep.yield (st.1.push x,x+(⟨⟨[c]⟩⟩:Str).length)):Id _) else pure (.yield (st.1,st.2)))=pure (.yield (st.1,st.2)) from if_neg h]
    exact d _
 exact congrArg (λx:Array Nat×Nat=>x.1.toList) (k (HU 0 (n+1)) (#[],0))
theorem tp (l:List Nat) (c n:Nat):∀(k i:Nat),(∀j,i<=j->j< n->l[j]? ≠some c)->(HU i k).foldl (ez l c n) (#[],0)=(#[],0)
 | 0,_,_=>rfl
 | k+1,i,h=>by
  rw [HN,HW]
  have e:ez l c n (#[],0) i=(#[],0):=by
   unfold ez
   rw [if_neg]
   rw [m7]
   intro q
   simp only [Bool.and_eq_true,decide_eq_true_eq,beq_iff_eq] at q
   exact h i (FM _) (by omega) q.2
  rw [e]
  exact tp l c n k (i+1) λj d b=>h j (by omega) b
theorem tq (l:List Nat) (c n:Nat):∀(k i:Nat) (st:Array Nat×Nat),st.1.size≠0->((HU i k).foldl (ez l c n) st).1.size≠0
 | 0,_,_,h=>h
 | k+1,i,st,h=>by
  rw [HN,HW]
  refine tq l c n k (i+1) _ ?_
  unfold ez
  split
  .simp
  .exact h
theorem tj (l:List Nat) (c n:Nat) (j:Nat) (b:j< n) (h:l[j]? =some c):∀(k i:Nat),i<=j->j< i+k->((HU i k).foldl (ez l c n) (#[],0)).1.size≠0
 | 0,i,d,f=>by omega
 | k+1,i,d,f=>by
  rw [HN,HW]
  by_cases q:l[i]? =some c/\i< n
  .refine tq l c n k (i+1) _ ?_
   unfold ez
   rw [if_pos (by rw [m7];simp [q.1];omega)]
   simp
  .have e:ez l c n (#[],0) i=(#[],0):=by
    unfold ez
    rw [if_neg]
    rw [m7]
    intro z
    simp only [Bool.and_eq_true,decide_eq_true_eq,beq_iff_eq] at z
    exact q ⟨z.2,by omega⟩
   rw [e]
   have:i≠j:=λz=>q (z▸⟨h,b⟩)
   exact tj l c n j b h k (i+1) (by omega) (by omega)
theorem Ac (l:List Nat) (c:Nat):(!(HK ⟨⟨l⟩⟩ ⟨⟨[c]⟩⟩ 0 l.length 1).isEmpty)=decide (c∈l):=by
 rw [Ad]
 by_cases h:c∈l
 .rw [decide_eq_true h]
  obtain ⟨j,b,e⟩:=Is.mp h
  have:=tj l c l.length j b (by rw [Ff b,e]) (l.length+1) 0 (Gg _) (by omega)
  simpa using this
 .rw [decide_eq_false h,tp l c l.length (l.length+1) 0 λj _ _ e=>h (Fz e)]
  rfl
theorem q0 (w:E7) (l:List Nat) (c t u:Nat) (b:Bool) (h:decide (c∈l)=b):ab (env w) (f7 "str.__contains__" l [c] t u b):=by
 refine aN λA s G e f P d=> ?_
 show Fp _ _ (FK table (.builtin "str.__contains__" ⟨[.str ⟨⟨l⟩⟩ t, .str ⟨⟨[c]⟩⟩ u],[]⟩)) _ _ s
 rw [aE _ _ F.entry_str_contains]
 show Fp _ _ (Sem.pure (GQ (.ret (.bool !(HK ⟨⟨l⟩⟩ ⟨⟨[c]⟩⟩ 0 l.length 1).isEmpty)))) _ _ s
 refine E3 ?_
 rw [Ac,h]
 exact d () _ trivial (ap.start P)
theorem xK (w:E7) (l:List Nat) (c t u:Nat) (h:c∈l):ab (env w) (f7 "str.__contains__" l [c] t u true):=q0 _ _ _ _ _ _ (by simp [h])
theorem xL (w:E7) (l:List Nat) (c t u:Nat) (h:¬c∈l):ab (env w) (f7 "str.__contains__" l [c] t u false):=q0 _ _ _ _ _ _ (by simp [h])
theorem pM {w:E7} {A:Around} {G:HF->Fc->Prop} {s:Fc} {E:E9->Fc->Prop} {l:List Nat} (b:l.length<=1000) (h:G (.ok (.ret (.str ⟨⟨l⟩⟩ s.toks))) {s with toks:=s.toks+1}):
 Fp (FQ pq w) A (retStr ⟨⟨l⟩⟩) (mq G) E s:=by
 refine E1 ?_
 unfold mkStr
 rw [if_neg (by show ¬((⟨l⟩:Array Nat).size>Gu);simp [Gu];omega)]
 exact E1 (H8 (E3 (E3 h)))
def nu (l:List Nat) (t:Nat) (k:Int) (u:Nat) (m:List Nat):af:={d:=1,α:=Nat,c:= .builtin "str.__getitem__" ⟨[.str ⟨⟨l⟩⟩ t, .int k u],[]⟩,need:=[],r:=λv=> .ok (.ret (.str ⟨⟨m⟩⟩ v))}
theorem qZ (w:E7) (l:List Nat) (t:Nat) (k:Int) (u c:Nat) (d:(decide (k< -(2^63:Int)) || decide (k>=2^63))=false) (h:(seqIndex? k l.length).bind (l[·]?)=some c):ab (env w) (nu l t k u [c]):=by
 refine aN λA s G f g P b=> ?_
 show Fp _ _ (FK table (.builtin "str.__getitem__" ⟨[.str ⟨⟨l⟩⟩ t, .int k u],[]⟩)) _ _ s
 rw [aE _ _ F.entry_str_getitem]
 show Fp _ _ (if (decide (k< -(2^63:Int)) || decide (k>=2^63))=true then _ else
  match (seqIndex? k (⟨l⟩:Array Nat).size).bind ((⟨l⟩:Array Nat)[·]?) with
  | some c=>retStr ⟨#[c]⟩
  | none=>_) _ _ s
 rw [d,if_neg Fg]
 have e:(seqIndex? k (⟨l⟩:Array Nat).size).bind ((⟨l⟩:Array Nat)[·]?)=some c:=by simpa using h
 rw [e]
 exact pM (l:=[c]) (by simp) (b s.toks _ trivial ((ap.start P).toks _))
theorem gG (w:E7) (l:List Nat) (t:Nat) (k:Int) (u i c:Nat) (hk:k=↑i) (h:l[i]? =some c) (d:l.length<=1000):ab (env w) (nu l t k u [c]):=by
 have b:i< l.length:=(E8.mp h).1
 refine qZ w l t k u c ?_ ?_
 .simp;omega
 .subst hk
  unfold seqIndex?
  simp only [show ¬((i:Int)< 0) from by omega,if_false]
  rw [if_pos (by simp;omega)]
  simpa using h
theorem qY (w:E7) (l:List Nat) (t u c:Nat) (h:l.getLast? =some c) (d:l.length<=1000):ab (env w) (nu l t (-1) u [c]):=by
 refine qZ w l t (-1) u c (by decide) ?_
 have b:l≠[]:=by rintro rfl;cases h
 have hp:0< l.length:=Hc.mpr b
 unfold seqIndex?
 simp only [show ((-1:Int)< 0) from by decide,if_true]
 rw [if_pos (by simp;omega)]
 have:((-1:Int)+↑l.length).toNat=l.length-1:=by omega
 rw [Option.bind_some,this,<-List.getLast?_eq_getElem?]
 exact h
def yp (l m:List Nat) (t u:Nat):af:={d:=1,α:=Nat,c:= .builtin "str.__add__" ⟨[.str ⟨⟨l⟩⟩ t, .str ⟨⟨m⟩⟩ u],[]⟩,need:=[],r:=λv=> .ok (.ret (.str ⟨⟨l++m⟩⟩ v))}
theorem q6 (w:E7) (l:List Nat) (c t u:Nat) (f:l.length<=900):ab (env w) (yp l [c] t u):=by
 refine aN λA s G d g P b=> ?_
 show Fp _ _ (FK table (.builtin "str.__add__" ⟨[.str ⟨⟨l⟩⟩ t, .str ⟨⟨[c]⟩⟩ u],[]⟩)) _ _ s
 rw [aE _ _ F.entry_str_add]
 show Fp _ _ (if (true&&(⟨l⟩:Array Nat).size==0)=true then (do rule "str.__add__.left-empty";ret (.str ⟨⟨[c]⟩⟩ u)) else retStr ⟨(⟨l⟩:Array Nat)++(⟨[c]⟩:Array Nat)⟩) _ _ s
 by_cases h:l=[]
 .subst h
  refine E1 (GX (E3 ?_))
  exact b u _ trivial (ap.start P)
 .rw [if_neg (by simpa using h)]
  have e:(⟨l⟩:Array Nat)++(⟨[c]⟩:Array Nat)=⟨l++[c]⟩:=by simp
  rw [e]
  exact pM (by simp;omega) (b s.toks _ trivial ((ap.start P).toks _))
def ym (l:List Nat) (t:Nat):af:={d:=1,α:=Nat,c:= .builtin "str.__iter__" ⟨[.str ⟨⟨l⟩⟩ t],[]⟩,need:=[],r:=λa=> .ok (.ret (.ref a)),new:=λa=>[(a,cq l t 0)]}
theorem fL (w:E7) (l:List Nat) (t:Nat) (b:∀c∈l,c< 128):ab (env w) (ym l t):=by
 refine aN λA s G d f P h=> ?_
 show Fp _ _ (FK table (.builtin "str.__iter__" ⟨[.str ⟨⟨l⟩⟩ t],[]⟩)) _ _ s
 rw [aE _ _ F.entry_str_iter]
 have e:(true&&(⟨l⟩:Array Nat).all (· < 128))=true:=by simpa using b
 show Fp _ _ (HT (if (true&&(⟨l⟩:Array Nat).all (· < 128))=true then "str_ascii_iterator" else "str_iterator") [.str ⟨⟨l⟩⟩ t,FT 0]>>=_) _ _ s
 rw [if_pos e]
 refine E1 ?_
 unfold HT
 refine Ge (E3 ?_)
 exact h s.heap.objs.size _ trivial (((ap.start P).push (cq l t 0) rfl))
def yL (a:Nat) (k:E9):af:={d:=20,α:=Nat,c:= .call (.ref 894) ⟨[.ref a,k],[]⟩,need:=[],r:=λt=> .ok (.ret (.int 0 t))}
theorem Bn (w:E7) (a:Nat) (k:E9):ab (env w) (yL a k):=ct (λ_ b=> .seg 0x1001001001001000000001 λO=>b (O 3) (by trivial) [] [] [])
def aa (m:List (Nat×Nat×Int×Nat)) (c:Nat):Int:=((look? m c).map (·.1)).getD 0
def sA (P:E6) (d b:Nat) (m:List (Nat×Nat×Int×Nat)) (e c t:Nat):af:={d:=30,α:=Nat,c:= .builtin "dict.__getitem__" ⟨[.ref d, .str ⟨⟨[c]⟩⟩ t],[]⟩,need:=[(d,dO P (.ref 1093) (some b) iv m e)],r:=λu=> .ok (.ret (.int (aa m c) u)),put:=λ_=>[dO P (.ref 1093) (some b) iv m e]}
def Bo (d:Nat) (k:E9):Sem Gn:=do
 if (<-typeOf (.ref d)) != .type "dict" then
  if let some r<-callSpecial? (.ref d) "__missing__" [k] then rule "dict.__getitem__.missing-hook";return<-ret r
 rule "dict.__getitem__.keyerror"
 raiseNew (<-newExc (.type "KeyError") [k])
def rX (P:E6) (d b:Nat) (m:List (Nat×Nat×Int×Nat)) (e c t:Nat):af:={d:=30,α:=Nat,c:= .builtin "dict.__getitem__" ⟨[.ref d, .str ⟨⟨[c]⟩⟩ t],[]⟩,need:=[(d,dO P (.ref 1093) (some b) iv m e)],r:=λu=> .ok (.ret (.int 0 u)),put:=λ_=>[dO P (.ref 1093) (some b) iv m e]}
def z7 {w:E7} {d b:Nat} {m:List (Nat×Nat×Int×Nat)} {e c t:Nat}:bV (env w) (rX w.params d b m e c t):=
 .seg 4097 λO=>
 .use _ (Bn w d (GR {cps:={toList:=[c]}} t)) [] [] λx h=>
 .seg 0 λf=>
 .fin (x) h [0] [] []
theorem vS {w:E7} {d:Type} {t:Sem d} {b:Ctx} {p:Pos} {s:Fc} {Q:d->Pos->Fc->Prop} {E:E9->Pos->Fc->Prop}
 (h:Fp (FQ pq w) (ia b) t (λa s=>∀p,Q a p s) (λv s=>∀p,E v p s) s):wp (FQ pq w) b t Q E p s:=
 Fs _ _ _ (λ_ p _ h=>h p) (λ_ p _ h=>h p) _ _ (h b p (kC b))
theorem dF (w:E7) (d b:Nat) (m:List (Nat×Nat×Int×Nat)) (f c t:Nat):ab (env w) (sA w.params d b m f c t):=by
 intro i n g _ r p s R P j
 have g:i.handled=none:=g.resolve_left (λz=>nomatch z)
 have B:s.heap.get? d=some (dO w.params (.ref 1093) (some b) iv m f):=P.has (d,_) EZ
 have o:1228<=d:=P.ge (d,_) EZ
 rw [F1,n]
 show wp _ _ (FK table (.builtin "dict.__getitem__" ⟨[.ref d, .str ⟨⟨[c]⟩⟩ t],[]⟩)) _ _ p s
 rw [aE _ _ F.entry_dict_getitem]
 show wp _ _ (dictGet d (.str ⟨⟨[c]⟩⟩ t)>>=_) _ _ p s
 rw [E5]
 refine vS (kO B λC=> ?_)
 cases k:look? m c with
 | some x=>
  have e:(x.1:Int)=aa m c:=by unfold aa;rw [k];rfl
  show R (.ok (.ret (.int x.1 x.2))) _
  rw [e]
  exact j x.2 _ trivial ((ap.start P).toks _)
 | none=>
  have e:(0:Int)=aa m c:=by unfold aa;rw [k];rfl
  show wp _ _ (Builtin.Dict.missed d (.str ⟨⟨[c]⟩⟩ t)>>=_) _ _ C _
  rw [E5]
  refine vS (wpAny_missed_other (eL o) λD=> ?_)
  have y:dQ 30 i:=r
  have G:=(ap.start P).toks (s.toks+1)
  have l:d4 (env w).kt (rX w.params d b m f c t).all {s with toks:=s.toks+1}:=⟨P.base,P.has,P.nd,P.hi,P.ge,P.lo⟩
  have q:=qu (Bo d (.str ⟨⟨[c]⟩⟩ t)) (z7) (by kernel_rfl) i g (λ_ z=>nomatch z) y D {s with toks:=s.toks+1} R l (λu E _ A=> ?_)
  .exact Fs _ _ _ (λfin p s h=>h.2) (λv p s h=>h.2) _ _ q
  .have:=j u E trivial ⟨⟨A.same.gens,A.same.drawn,A.same.os⟩,A.keep,A.has,A.frs,A.nd,A.size⟩
   rw [show (sA w.params d b m f c t).r u= .ok (.ret (.int (aa m c) u)) from rfl,<-e] at this
   exact this
def y4 (P:E6) (d:Nat) (b:E9) (e:Option Addr) (m:List (Nat×Nat×Int×Nat)) (f c t g:Nat):af:={d:=1,α:=Nat,c:= .builtin "dict.get" ⟨[.ref d, .str ⟨⟨[c]⟩⟩ t, .int 0 g],[]⟩,need:=[(d,dO P b e iv m f)],r:=λu=> .ok (.ret (.int (aa m c) u)),put:=λ_=>[dO P b e iv m f]}
theorem mr (w:E7) (d:Nat) (e:E9) (f:Option Addr) (m:List (Nat×Nat×Int×Nat)) (g c t b:Nat):ab (env w) (y4 w.params d e f m g c t b):=by
 intro o j k _ l p s F P i
 refine DU iv w d e f m g c t (.int 0 b) (.int (aa m c) (((look? m c).map (·.2)).getD b)) ?_ o j (.inr (k.resolve_left (λz=>nomatch z))) (λ_ z=>nomatch z) l p s F P (λx n h A=>i _ n trivial A)
 unfold aa
 cases look? m c<;>rfl
section
variable (w:E7) (d:Nat) (cls:E9) (dd:Option Addr) (ep c t:Nat)
theorem kH (m:List (Nat×Nat×Nat)) (v:Nat) (h:look? m c=some v):ab (env w) (lI .ref w.params d (.type "dict") dd m ep c t [] (.ref v)):=vf _ _ _ _ _ _ _ _ _ _ rfl (by rw [h];rfl)
theorem DV (m:List (Nat×Nat×Nat)) (h:look? m c=none):ab (env w) (lI .ref w.params d (.type "dict") dd m ep c t [] .none):=vf _ _ _ _ _ _ _ _ _ _ rfl (by rw [h];rfl)
end
def es (P:E6) (l:List Nat) (t:Nat) (v:E9):E4:=⟨PyData.keyHash P ⟨⟨l⟩⟩, .str ⟨⟨l⟩⟩ t,v⟩
def oD (es:List E4) (e:Nat):Obj:={cls:= .type "dict",data:= .dict es.toArray e}
def bd (s:Nat):Obj:={cls:= .ref 1213,dict:=some s,data:= .plain}
def be (P:E6) (k:Nat×Nat×Nat×Nat) (b:Nat) (r:E9) (p n:Int×Nat):Obj:=
 oD [es P [95,110,111,100,101,50,105,110,102,111] k.1 (.ref b),es P [95,114,101,97,100,121,95,110,111,100,101,115] k.2.1 r,es P [95,110,112,97,115,115,101,100,111,117,116] k.2.2.1 (.int p.1 p.2),es P [95,110,102,105,110,105,115,104,101,100] k.2.2.2 (.int n.1 n.2)] 4
def yr (P:E6):af:={d:=40,α:=(Nat×Nat×Nat)×(Nat×Nat×Nat×Nat)×Nat×Nat,c:= .call (.ref 1213) ⟨[],[]⟩,need:=[],r:=λx=> .ok (.ret (.ref x.1.1)),new:=λx=>[(x.1.1,bd x.1.2.1),(x.1.2.1,be P x.2.1 x.1.2.2 .none (0,x.2.2.1) (0,x.2.2.2)),(x.1.2.2,dO P (.type "dict") none .ref [] 0)]}
theorem xU (w:E7):ab (env w) (yr w.params):=ct (λ_ b=> .seg 0x2004004004000003000000000003000003001000003001000000000003002004004004000003000000000003000003001000003001000000000003002004004004000003000000000003000003001000003001000000000003002004004004000003000000000003000003001000003001000000000003002001001001001001000000000001000000000000001000001000000000000000000000000001000000000000000000000001000000000001000001000000001 λO=>b (((O 1,O 0,O 5),(O 7,O 9,O 12,O 15),O 10,O 13)) (by trivial) [] [2,2,0] [])
def cW (o:Obj):FuncData:=match o.data with | .func f=>f | _=>default
def cX (o:Obj):List Stmt:=match (cW o).body with | .stmts b=>b | _=>[]
def dY (o:Obj) (fa f:Nat):Env:={scope:=(cW o).scope,locals:=f,globals:=3,cells:=[],qual:=(cW o).qualname++Str.ofString ".<locals>.",func:=some fa,code:=(cW o).code,frame:=some f,builtins:=0}
def aA (l:List Stmt) (i:Nat):Stmt:=List.rec (motive:=λ_=>Nat->Stmt) (λ_=> .Pass default) (λx _ b i=>Nat.rec (motive:=λ_=>Stmt) x (λk _=>b k) i) l i
def aY (s:Stmt):List Stmt:=(sP s).2.2.1
def cw (s:Stmt):List Stmt:=(sP s).2.2.2.1
def bI (s:Stmt):Expr:=(sP s).2.1
def bR (s:Stmt) (i:E9) (env:Env):Code:= .forLoop (sP s).1 i (aY s) (cw s) env
def qa (s:Stmt) (env:Env):Code:= .whileLoop (bI s) (aY s) (cw s) env
def bD (es:List E4) (e:Nat):Obj:={cls:= .type "frame",data:= .dict es.toArray e}
def n8 (node:E9) (n:Int×Nat) (s d:Nat):Obj:={cls:= .ref 1116,dict:=some d,data:= .plain,slots:= #[some node,some (.int n.1 n.2),some (.ref s)]}
def yW (node:E9):af:={d:=40,α:=Nat×Nat×Nat×Nat,c:= .call (.ref 1116) ⟨[node],[]⟩,need:=[],r:=λx=> .ok (.ret (.ref x.1)),new:=λx=>[(x.1,n8 node (0,x.2.1) x.2.2.1 x.2.2.2),(x.2.2.1,ae [] 0)]}
theorem CN (w:E7) (c t:Nat):ab (env w) (yW (.str ⟨⟨[c]⟩⟩ t)):=ct (λ_ b=> .seg 0x3000003000000001000000000003000000001000001000000000000000003000003001000003001000000000003002002000002000000001000000000002000000001000001000000000000000002000002001000002001000000000002001002000002000000001000000000002000000001000001000000000000000002000002001000002001000000000002001001001001001001001000000001000000000000001000001000000000000000000000000000000000000000001000000000000000000000001000000000001000001000000001 λO=>b (O 1,O 6,O 8,O 0) (by trivial) [] [2,0] [])
def yX (P:E6) (S s:Nat) (k:Nat×Nat×Nat×Nat) (n:Nat) (r:E9) (p b:Int×Nat) (m:List (Nat×Nat×Nat)) (e c t a:Nat):af:={d:=40,α:=Unit,c:= .call (.ref 1156) ⟨[.ref S, .str ⟨⟨[c]⟩⟩ t],[]⟩,need:=[(S,bd s),(s,be P k n r p b),(n,dO P (.type "dict") none .ref m e)],r:=λx=> .ok (.ret (.ref a)),put:=λ_=>[bd s,be P k n r p b,dO P (.type "dict") none .ref m e]}
theorem uF (w:E7) (S s:Nat) (k:Nat×Nat×Nat×Nat) (n:Nat) (r:E9) (p d:Int×Nat) (m:List (Nat×Nat×Nat)) (e c t a:Nat) (h:look? m c=some a):ab (env w) (yX w.params S s k n r p d m e c t a):=ct (λ_ f=> .seg 0x4001001004004004004003000002002000000000002001000000000002001001001001001001000000001 λO=> .use _ (kH w n none e c t m a h) [3] [] λx b=> .seg 33562626 λg=>f () b [2,2,0] [] [])
def yO (P:E6) (S s:Nat) (k:Nat×Nat×Nat×Nat) (n:Nat) (r:E9) (p b:Int×Nat) (m:List (Nat×Nat×Nat)) (e c t:Nat):af:={d:=45,α:=Nat×Nat×Nat×Nat×Nat,c:= .call (.ref 1156) ⟨[.ref S, .str ⟨⟨[c]⟩⟩ t],[]⟩,need:=[(S,bd s),(s,be P k n r p b),(n,dO P (.type "dict") none .ref m e)],r:=λx=> .ok (.ret (.ref x.1)),put:=λx=>[bd s,be P k n r p b,dO P (.type "dict") none .ref (aw m c t x.1) x.2.2.2.2],new:=λx=>[(x.1,n8 (.str ⟨⟨[c]⟩⟩ t) (0,x.2.1) x.2.2.1 x.2.2.2.1),(x.2.2.1,ae [] 0)]}
theorem Bw (w:E7) (S s:Nat) (k:Nat×Nat×Nat×Nat) (n:Nat) (r:E9) (p d:Int×Nat) (m:List (Nat×Nat×Nat)) (e c t:Nat) (h:look? m c=none) (u:m.length<=100):ab (env w) (yO w.params S s k n r p d m e c t):=ct (λ_ g=> .seg 0x4001001004004004004003000002002000000000002001000000000002001001001001001001000000001 λO=> .use _ (DV w n none e c t m h) [3] [] λv b=> .seg 137438961666 λi=> .use _ (CN w c t) [] [] λx o=> .seg 0x3001003003004006000005005000000000005001000000000005004 λj=> .use _ (gH w n none e c t m (x.1) (by omega)) [2] [] λf q=> .seg 67125252 λl=>g (x.1,x.2.1,x.2.2.1,x.2.2.2,f) b [4,4,0] [0,0] [])
section
variable {γ:Type} (g:γ->E9) (w:E7) (l:Nat) (n t:Nat) (k:Int) (i:Nat)
theorem t5 (b:List γ) (x:γ) (h:b.length<=100000):ab (env w) (iP g l b n x):=mE _ _ _ _ _ _ h
theorem dw (b:List (Nat×Nat)) (x:Nat×Nat) (h:b.length<=100000):ab (env w) (iP cv l b n x):=mE _ _ _ _ _ _ h
theorem jc (b:List (Int×Nat)) (x:Int×Nat) (h:b.length<=100000):ab (env w) (iP iv l b n x):=mE _ _ _ _ _ _ h
theorem oL (b:List Nat) (x:Nat) (h:b.length<=100000):ab (env w) (iP .ref l b n x):=mE _ _ _ _ _ _ h
theorem bH (b:List γ) (x:γ) (hk:k=↑i) (d:b[i]? =some x) (h:b.length<=100000):ab (env w) (r9 g l b n k t x):=Cv _ _ _ _ _ _ _ _ _ hk d h
theorem tX (b:List γ) (x:γ) (hk:k=↑i) (h:i< b.length) (d:b.length<=100000):ab (env w) (nB g l b n k t i x):=zQ _ _ _ _ _ _ _ _ _ hk h d
end
theorem bw {L b x:ao} (h:L.Perm (x++b)):(([]:ao)++[L].flatten).Perm (x++[b].flatten):=by simpa using h
theorem aX {L b x:ao} (h:(x++L).Perm b):(x++[L].flatten).Perm (([]:ao)++[b].flatten):=by simpa using h
theorem bC {a:Nat} {o b:Obj} (h:o=b):([(a,o)]++([]:List ao).flatten).Perm ([(a,b)]++([]:List ao).flatten):=by rw [h]
theorem qc:(([]:ao)++([]:List ao).flatten).Perm (([]:ao)++([[]]:List ao).flatten):= .refl _
structure ai where
 a:Nat
 node:Nat×Nat
 np:Int×Nat
 sc:Nat
 dd:Nat
 su:List (Nat×Nat)
 n:Nat
def ai.cells (i:ai):ao:=[(i.a,n8 (.str ⟨⟨[i.node.1]⟩⟩ i.node.2) i.np i.sc i.dd),(i.sc,ae (i.su.map cv) i.n)]
def aB (I:List ai):ao:=I.flatMap ai.cells
def ay (I:List ai):List (Nat×Nat×Nat):=I.map λi=>(i.node.1,i.node.2,i.a)
theorem hU (I:List ai) (i:ai) (b:List ai):(aB (I++i::b)).Perm (i.cells++aB (I++b)):=by
 unfold aB
 rw [HJ,GN,HJ,<-Fm,<-Fm]
 exact .append_right _ FD
def dr (x:Nat×Nat) (i:ai):ai:={i with su:=i.su++[x],n:=i.n+1}
theorem l0 {b:Type}:∀{m:List (Nat×Nat×b)} {c t:Nat} {v:b} {m2:List (Nat×Nat×b)},(∀x∈m,x.1≠c)->look? (m++(c,t,v)::m2) c=some v
 | [],_,_,_,_,_=>by simp [look?]
 | (k,u,x)::m,c,t,v,m2,h=>by
  rw [H4,look?,if_neg (h (k,u,x) EZ)]
  exact l0 λy d=>h y (E2 _ d)
def Dl (P:E6) (k:Nat×Nat×Nat×Nat) (S:Nat) (c t b a:Nat) (m:List E4) (e:Nat):Obj:=
 bD ([es P [115,101,108,102] k.1 (.ref S),es P [110,111,100,101] k.2.1 (.str ⟨⟨[c]⟩⟩ t),es P [112,114,101,100,101,99,101,115,115,111,114,115] k.2.2.1 (.ref b),es P [110,111,100,101,105,110,102,111] k.2.2.2 (.ref a)]++m) e
def oE (P:E6) (k d:Nat) (p:Nat×Nat) (b:Nat):List E4:=[es P [112,114,101,100] k (cv p),es P [112,114,101,100,95,105,110,102,111] d (.ref b)]
def EP (P:E6) (i f:Nat):Code:=bR (aA (cX (oh P)) 3) (.ref i) (dY (oh P) 1163 f)
def j3 (P:E6) (d i f b r S s:Nat) (k:Nat×Nat×Nat×Nat) (n:Nat) (p g:Int×Nat) (e c t a:Nat) (m:Nat×Nat×Nat×Nat) (o:List E4) (l:Nat) (q:List (Nat×Nat)) (I h:List ai):af:={d:=50,α:=List ai,c:=EP P d f,need:=[(S,bd s),(s,be P k n .none p g),(n,dO P (.type "dict") none .ref (ay I) e),(d,aW "tuple_iterator" b i),(b,aR (q.map cv) r),(f,Dl P m S c t b a o l)],put:=λx=>[bd s,be P k n .none p g,dO P (.type "dict") none .ref (ay x) e],post:=λj=>j=h,needB:=[aB I],putB:=λx=>[aB x]}
def te {w:E7} {b i j e d S s:Nat} {k:Nat×Nat×Nat×Nat} {n:Nat} {q o:Int×Nat} {f c t a:Nat} {l:Nat×Nat×Nat×Nat} {m:List E4} {g:Nat} {p:List (Nat×Nat)} {I:List ai} (h:p[i]? =none):PP (env w) (j3 w.params b i j e d S s k n q o f c t a l m g p I I):=λ_ r=>
 .seg 274894700545 λO=>
 .use _ (ir w b e i d cv p h) [3,3] [] λx v=>
 .seg 4099 λu=>
 r (I) (by trivial) [4,4,4] [] [0]
def am (I:List ai):List Nat:=I.map λi=>i.node.1
def aJ (c:Nat) (f:ai->ai) (I:List ai):List ai:=I.map λi=>if i.node.1=c then f i else i
def ie (f:ai->ai):Prop:=∀i,(f i).a=i.a/\(f i).node=i.node
theorem mQ {c:Nat} {f:ai->ai}:∀{I:List ai},(∀i∈I,i.node.1≠c)->aJ c f I=I
 | [],_=>rfl
 | i::I,h=>by
  unfold aJ
  rw [Fu,if_neg (h i EZ)]
  exact congrArg (i:: ·) (mQ λj b=>h j (E2 _ b))
theorem lp {c:Nat} {f:ai->ai} {I:List ai} {i:ai} {b:List ai} (g:∀j∈I,j.node.1≠c) (h:i.node.1=c) (k:∀j∈b,j.node.1≠c):aJ c f (I++i::b)=I++f i::b:=by
 have e:=mQ (f:=f) g
 have d:=mQ (f:=f) k
 unfold aJ at e d⊢
 rw [Fd,Fu,e,d,if_pos h]
theorem ji {c:Nat} {f:ai->ai} (d:ie f) (I:List ai):ay (aJ c f I)=ay I:=by
 unfold ay aJ
 rw [GS]
 refine Gx λi _=> ?_
 show (λi:ai=>(i.node.1,i.node.2,i.a)) (if i.node.1=c then f i else i)=_
 split
 .obtain ⟨h,b⟩:=d i;simp only [h,b]
 .rfl
theorem dg {c:Nat} {f:ai->ai} (b:ie f) (I:List ai):am (aJ c f I)=am I:=by
 unfold am aJ
 rw [GS]
 refine Gx λi _=> ?_
 show (λi:ai=>i.node.1) (if i.node.1=c then f i else i)=_
 split
 .obtain ⟨d,h⟩:=b i;simp only [h]
 .rfl
theorem jP {I:List ai} {c:Nat} (h:(am I).Nodup) (g:c∈am I):∃b i d,I=b++i::d/\i.node.1=c/\(∀j∈b,j.node.1≠c)/\(∀j∈d,j.node.1≠c):=by
 obtain ⟨i,k,e⟩:=Gj.mp g
 obtain ⟨b,d,rfl⟩:=Hs k
 refine ⟨b,i,d,rfl,e,λj f q=> ?_,λj f q=> ?_⟩
 .unfold am at h
  rw [Fd,Fu,Gk] at h
  exact h.2.2 j.node.1 (Fa f) i.node.1 EZ (q.trans e.symm)
 .unfold am at h
  rw [Fd,Fu,Gk,GO] at h
  exact h.2.1.1 (Gj.mpr ⟨j,f,q.trans e.symm⟩)
theorem fX {I:List ai} {c:Nat} (m:(am I).Nodup) (k:c∈am I):∃i R,i∈I/\i.node.1=c/\look? (ay I) c=some i.a/\(aB I).Perm (i.cells++R)/\∀f,((f i).cells++R).Perm (aB (aJ c f I)):=by
 obtain ⟨b,i,d,rfl,e,h,g⟩:=jP m k
 refine ⟨i,aB (b++d),FF _ EZ,e, ?_,hU ..,λf=> ?_⟩
 .unfold ay
  rw [Fd,Fu,<-e]
  refine l0 λx n=> ?_
  obtain ⟨j,l,rfl⟩:=Gj.mp n
  rw [e];exact h j l
 .rw [lp h e g];exact (hU ..).symm
theorem gB (x:Nat×Nat):ie (dr x):=λ_=>⟨rfl,rfl⟩
def cm (x:Nat×Nat):List (Nat×Nat)->List ai->List ai
 | [],I=>I
 | p::b,I=>cm x b (aJ p.1 (dr x) I)
theorem aQ {b:Type} {l:List b} {i:Nat} {x:b} {r:List b} (h:l.drop i=x::r):l[i]? =some x/\l.drop (i+1)=r:=by
 constructor
 .have:=congrArg List.head? h
  rwa [List.head?_drop] at this
 .rw [<-List.tail_drop,h];rfl
theorem aV {b:Type} {l:List b} {i:Nat} (h:l.drop i=[]):l[i]? =none:=by
 have:=congrArg List.head? h
 rwa [List.head?_drop] at this
theorem mP {c:Nat} {x:Nat×Nat} {I:List ai} {n:Nat} (h:∀i∈I,i.su.length<=n):∀i∈aJ c (dr x) I,i.su.length<=n+1:=by
 intro i b
 obtain ⟨j,d,rfl⟩:=Gj.mp b
 have:=h j d
 show (if j.node.1=c then dr x j else j).su.length<=n+1
 split
 .unfold dr;simp;omega
 .omega
theorem vY (w:E7) (j y v u S s:Nat) (k:Nat×Nat×Nat×Nat) (g:Nat) (o l:Int×Nat) (e c t a:Nat) (G:Nat×Nat×Nat×Nat) (E F:Nat) (h:List (Nat×Nat)):
 ∀(r:List (Nat×Nat)) (i:Nat) (H:Nat×Nat) (x f:Nat) (I:List ai) (n:Nat),h.drop i=r->(am I).Nodup->(∀p∈r,p.1∈am I)->(∀i∈I,i.su.length<=n)->n+r.length<=1000->
  ab (env w) (j3 w.params j i y v u S s k g o l e c t a G (oE w.params E F H x) f h I (cm (c,t) r I))
 | [],i,H,x,f,I,n,A,C,B,D,J=>ct (te (aV A))
 | p::r,i,H,x,f,I,n,A,C,B,D,J=>by
  obtain ⟨L,M⟩:=aQ A
  obtain ⟨d,ac,P,gt,Q,T,O⟩:=fX C (B p EZ)
  have hk:=dg (c:=p.1) (gB (c,t)) I
  simp only [Fb] at J
  exact ct (have R:ay I=ay (aJ p.1 (dr (c,t)) I):=((ji (gB _) I).symm);have rw:d.su.length<=1000:=(by have:=D d P;omega);have V:∀(X:Nat×Nat) (b f:Nat),ab (env w) (j3 w.params j (i+1) y v u S s k g o l e c t a G (oE w.params E F X b) f h (aJ p.1 (dr (c,t)) I) (cm (c,t) (p::r) I)):=(λW b f=>vY w j y v u S s k g o l e c t a G E F h r (i+1) W b f _ (n+1) M (hk▸C) (λq U=>hk▸B q (E2 _ U)) (mP D) (by omega));λ_ Z=> .view [] [0] _ _ _ _ (bw T) (.seg 412333662209 λO1=> .use _ (fK w j v i u cv h p L) [5,5] [] λx2 io=> .seg 0x8006005000000000000005000000000005000000000005008008008 λO3=> .use _ (uF w S s k g FW o l (ay I) e (p.1) (p.2) (d.a) Q) [4,4,4] [] λx4 h4=> .seg 0x7001008007007007007006000006000000001000000000006000000001000001000000000000000000000000006001000000000006008008008 λO5=> .use _ (dw w (d.sc) (d.n) (d.su) (c,t) (by omega)) [6] [] λx6 h6=> .seg 0 λO7=> .view [3] [] _ _ _ _ ((bC (a:=g) (congrArg (λm=>dO w.params (.type "dict") none .ref m e) R))) (.view [6,1] [0] _ _ _ _ (aX (O (dr (c,t)))) (.use _ (V p (d.a) f) [1,1,0,0,0,0] [0] λY N=>Z (Y) N [0,0,0] [] [0]))))
theorem EO (w:E7) (j x v u S s:Nat) (k:Nat×Nat×Nat×Nat) (g:Nat) (o l:Int×Nat) (e c t a:Nat) (B:Nat×Nat×Nat×Nat) (h:List (Nat×Nat)) (f:Nat) (I:List ai) (n:Nat) (D:(am I).Nodup) (C:∀p∈h,p.1∈am I) (E:∀i∈I,i.su.length<=n) (U:n+h.length<=1000):
 ab (env w) (j3 w.params j 0 x v u S s k g o l e c t a B [] f h I (cm (c,t) h I)):=by
 cases M:h with
 | nil=>exact ct (te rfl)
 | cons p r=>
  subst M
  obtain ⟨G,H⟩:=aQ (l:=p::r) (i:=0) rfl
  obtain ⟨d,ac,N,gt,P,R,L⟩:=fX D (C p EZ)
  have hk:=dg (c:=p.1) (gB (c,t)) I
  simp only [Fb] at U
  exact ct (have Q:ay I=ay (aJ p.1 (dr (c,t)) I):=((ji (gB _) I).symm);have rw:d.su.length<=1000:=(by have:=E d N;omega);have V:∀(y A:Nat) (X:Nat×Nat) (b f:Nat),ab (env w) (j3 w.params j (0+1) x v u S s k g o l e c t a B (oE w.params y A X b) f (p::r) (aJ p.1 (dr (c,t)) I) (cm (c,t) (p::r) I)):=(λy A W b f=>vY w j x v u S s k g o l e c t a B y A (p::r) r 1 W b f _ (n+1) H (hk▸D) (λq T=>hk▸C q (E2 _ T)) (mP E) (by omega));λ_ Z=> .view [] [0] _ _ _ _ (bw R) (.seg 412333662209 λO1=> .use _ (fK w j v 0 u cv (p::r) p G) [5,5] [] λx2 io=> .seg 0x8006005000000000000005000000000005000000000005008008008 λO=> .use _ (uF w S s k g FW o l (ay I) e (p.1) (p.2) (d.a) P) [4,4,4] [] λx4 h4=> .seg 0x7001008007007007007006000006000000001000000000006000000001000001000000000000000000000000006001000000000006008008008 λF=> .use _ (dw w (d.sc) (d.n) (d.su) (c,t) (by omega)) [6] [] λx6 h6=> .seg 0 λO7=> .view [3] [] _ _ _ _ ((bC (a:=g) (congrArg (λm=>dO w.params (.type "dict") none .ref m e) Q))) (.view [6,1] [0] _ _ _ _ (aX (L (dr (c,t)))) (.use _ (V (O 0) (F 0) p (d.a) (f+1+1)) [1,1,0,0,0,0] [0] λY J=>Z (Y) J [0,0,0] [] [0]))))
def fp (a c t:Nat) (n:Int) (u s d:Nat):ai:=⟨a,(c,t),(n,u),s,d,[],0⟩
theorem CO (I:List ai) (i:ai):(i.cells++aB I).Perm (aB (I++[i])):=by
 unfold aB
 rw [HJ]
 simp only [GN,List.flatMap_nil,FJ]
 exact FD
theorem BI {I:List ai} {c:Nat} (h:c∉am I):look? (ay I) c=none:=by
 induction I with
 | nil=>rfl
 | cons i I b=>
  unfold am at h
  rw [Fu,GP,not_or] at h
  show (if i.node.1=c then some i.a else look? (ay I) c)=none
  rw [if_neg (λq=>h.1 q.symm)]
  exact b h.2
theorem zP {I:List ai} {c t a:Nat} {np:Int} {u sc dd:Nat} (h:c∉am I):aw (ay I) c t a=ay (I++[fp a c t np u sc dd]):=by
 induction I with
 | nil=>rfl
 | cons i I b=>
  unfold am at h
  rw [Fu,GP,not_or] at h
  show (if i.node.1=c then (i.node.1,i.node.2,a)::ay I else (i.node.1,i.node.2,i.a)::aw (ay I) c t a)=_
  rw [if_neg (λq=>h.1 q.symm),b h.2]
  rfl
def sG (P:E6) (S s:Nat) (k:Nat×Nat×Nat×Nat) (n:Nat) (d b:Int×Nat) (e c t:Nat) (p:List (Nat×Nat)) (I:List ai):af:={d:=60,α:=List ai×Nat×ai,c:= .call (.ref 1163) ⟨.ref S:: .str ⟨⟨[c]⟩⟩ t::p.map cv,[]⟩,need:=[(S,bd s),(s,be P k n .none d b),(n,dO P (.type "dict") none .ref (ay I) e)],r:=λx=> .ok (.ret .none),put:=λx=>[bd s,be P k n .none d b,dO P (.type "dict") none .ref (ay x.1) x.2.1],post:=λx=>x.1=cm (c,t) p (I++[x.2.2])/\x.2.2.node=(c,t)/\x.2.2.np.1=p.length/\x.2.2.su=[],needB:=[aB I],putB:=λx=>[aB x.1]}
structure eY (I:List ai) (c:Nat) (ps:List (Nat×Nat)):Prop where
 nd:(am I).Nodup
 new:c∉am I
 mem:∀p∈ps,p.1∈am I
 len:I.length<=90
 su:∀i∈I,i.su.length<=900
 few:ps.length<=90
theorem eY.nd' {I c p} (h:eY I c p) (i:ai) (e:i.node.1=c):(am (I++[i])).Nodup:=by
 unfold am
 rw [Fd,Gk]
 refine ⟨h.nd,by simp,λx d y b q=> ?_⟩
 simp only [Fu,List.map_nil,Gb] at b
 exact h.new (by rw [<-e,<-b,<-q];exact d)
theorem eY.ps' {I c b} (h:eY I c b) (i:ai):∀p∈b,p.1∈am (I++[i]):=λp hp=>by
 unfold am
 rw [Fd];exact F3 _ (h.mem p hp)
theorem eY.su' {I c p} (h:eY I c p) (i:ai) (e:i.su=[]):∀j∈I++[i],j.su.length<=900:=λj b=>by
 rcases GB.mp b with q | q
 .exact h.su j q
 .simp only [Gb] at q;rw [q,e];simp
theorem vW (w:E7) (S s:Nat) (k:Nat×Nat×Nat×Nat) (n:Nat) (l i:Int×Nat) (o c t:Nat) (b:List (Nat×Nat)) (I:List ai) (h:eY I c b) (v:b.length<=8):ab (env w) (sG w.params S s k n l i o c t b I):=by
 let g:∀{w:E7} {b:List (Nat×Nat)} {S s:Nat} {k:Nat×Nat×Nat×Nat} {n:Nat} {l i:Int×Nat} {o c t:Nat} {I:List ai} (h:eY I c b) (d:look? (ay I) c=none) (e:(ay I).length<=100),PP (env w) (sG w.params S s k n l i o c t b I):= @λw b S s k n l i o c t I h d e _ D=>
  .seg 0x1004003000000000000003000000000003000000000003001004000003003000000000003001000000000003001001001001001001001001000000001 λO=>
  .use _ (Bw w S s k n FW l i (ay I) o c t d e) [2,2,2] [] λx F=>
  .seg 0x1007001007001007001001006000000004000004000000001000000000004000000001000001000000000000000000000000004001000000000004006006006 λq=>
  .use _ (b8 w 0 (b.length:Nat) x.2.1 (q 3) b.length (Int.zero_add _)) [] [] λf G=>
  .seg 0x1001007001007007006004000004000000001000000000004000000001000001000000000000000004000004001000004001000000000004 λr=>
  .view [3] [] _ _ _ _ ((bC (a:=n) (congrArg (λm=>dO w.params (.type "dict") none .ref m x.2.2.2.2) (zP (a:=x.1) (t:=t) (np:=b.length) (u:=f) (sc:=x.2.2.1) (dd:=x.2.2.2.1) h.new))))
  (.view [4,4] [0] _ _ _ _ ((aX (CO I (fp x.1 c t b.length f x.2.2.1 x.2.2.2.1))))
  (have A:(am (I++[(fp x.1 c t b.length f x.2.2.1 x.2.2.2.1)])).Nodup:=(h.nd' (fp x.1 c t b.length f x.2.2.1 x.2.2.2.1) rfl);
  have y:(∀p∈(b:List (Nat×Nat)),p.1∈am (I++[(fp x.1 c t b.length f x.2.2.1 x.2.2.2.1)])):=(h.ps' (fp x.1 c t b.length f x.2.2.1 x.2.2.2.1));
  have B:(∀j∈I++[(fp x.1 c t b.length f x.2.2.1 x.2.2.2.1)],j.su.length<=900):=(h.su' (fp x.1 c t b.length f x.2.2.1 x.2.2.2.1) rfl);
  .use _ (EO w (r 1) (O 1) (O 0) 0 S s k n l i (x.2.2.2.2) c t (x.1) (O 2,O 3,O 4,q 0) (b) 4 (I++[fp x.1 c t b.length f x.2.2.1 x.2.2.2.1]) 900 A y B (by have:=h.few;omega)) [2,2,0,0,1,0] [0] λC u=>
  .seg 0 λE=>
  have H:(900+(b:List (Nat×Nat)).length<=1000):=(by have:=h.few;omega);
  D ((C,x.2.2.2.2,(fp x.1 c t b.length f x.2.2.1 x.2.2.2.1))) ⟨u,rfl,rfl,rfl⟩ [0,0,0] [] [0]))
 have d:=BI h.new
 have e:(ay I).length<=100:=by have:=h.len;unfold ay;simp;omega
 rcases b with _ | ⟨J,b⟩
 .exact av (g h d e)
 rcases b with _ | ⟨L,b⟩
 .exact av (g h d e)
 rcases b with _ | ⟨M,b⟩
 .exact av (g h d e)
 rcases b with _ | ⟨N,b⟩
 .exact av (g h d e)
 rcases b with _ | ⟨P,b⟩
 .exact av (g h d e)
 rcases b with _ | ⟨Q,b⟩
 .exact av (g h d e)
 rcases b with _ | ⟨R,b⟩
 .exact av (g h d e)
 rcases b with _ | ⟨T,b⟩
 .exact av (g h d e)
 rcases b with _ | ⟨U,b⟩
 .exact av (g h d e)
 .simp at v
section
variable {γ:Type}
theorem vR {w:E7} {A:Around} {E:E9->Fc->Prop} {s:Fc} {G:HF->Fc->Prop} {a l:Addr} {t:String} {o:Obj} {ws x:List E9} {n i:Nat} {r:E9}
 (d:s.heap.get? a=some (ae ws n)) (b:s.heap.get? l=some o) (e:o.cls= .type t) (g:t="list"\/t="tuple") (f:o.data= .seq x.toArray i) (j:ws.length+x.length<=100000)
 (h:G (.ok (.ret r)) {s with heap:=s.heap.update a (FH (· ++x.toArray))}):
 Fp (FQ pq w) A (Hh (.ref a) (.ref l) r) (mq G) E s:=by
 unfold Hh
 refine E1 (wpAny_typeOf (T:=t) ⟨o,b,e⟩ ?_)
 rw [if_pos (by rcases g with rfl | rfl<;>simp)]
 unfold Fw
 refine E1 (E1 (FL b f (E3 ?_)))
 refine E1 (E1 (FL d rfl (E3 ?_)))
 rw [if_neg (by
  intro q
  simp only [Bool.and_eq_true,Builtin.List.listTooLong,decide_eq_true_eq,List.size_toArray,Gu] at q
  omega)]
 refine E1 (GT d rfl ?_ (by simp [Gu];omega) (by simp [Gu];omega))
 exact E3 h
def sf (g:γ->E9) (a b l n:Nat) (t:Bool) (x:List γ):af:={d:=1,α:=Nat,c:= .builtin "list.__iadd__" ⟨[.ref a, .ref l],[]⟩,need:=[(a,ae [] b),(l,ae (x.map g) n)],r:=λ_=> .ok (.ret (.ref a)),put:=λe=>[ae (x.map g) e,ae (x.map g) n]}
theorem l4 (g:γ->E9) (w:E7) (a b l n:Nat) (x:List γ) (o:x.length<=100000):ab (env w) (sf g a b l n false x):=by
 refine aN λA s G k m P h=> ?_
 have j:s.heap.get? a=some (ae [] b):=P.has (a,_) EZ
 have i:s.heap.get? l=some (ae (x.map g) n):=P.has (l,_) (E2 _ EZ)
 show Fp _ _ (FK table (.builtin "list.__iadd__" ⟨[.ref a, .ref l],[]⟩)) _ _ s
 rw [aE _ _ F.entry_list_iadd]
 refine vR j i rfl (.inl rfl) rfl (by simp;omega) ?_
 have e:FH (· ++(x.map g).toArray) (ae [] b)=ae (x.map g) (if (x.map g).length=([]:List E9).length then b else b+1):=e9 (by simp)
 have f:=(ap.start P).set (FH (· ++(x.map g).toArray)) (by exact EZ) (by show (FH (· ++(x.map g).toArray) (ae [] b)).isFreed=false;rw [e];rfl)
 have d:ap s {s with heap:=s.heap.update a (FH (· ++(x.map g).toArray))} (sf g a b l n false x).own [(a,FH (· ++(x.map g).toArray) (ae [] b)),(l,ae (x.map g) n)]:=f
 rw [e] at d
 exact h _ _ trivial d
def sq (g:γ->E9) (a b l n:Nat) (ws x:List γ):af:={d:=1,α:=Nat,c:= .builtin "list.extend" ⟨[.ref a, .ref l],[]⟩,need:=[(a,ae (ws.map g) b),(l,aR (x.map g) n)],r:=λ_=> .ok (.ret .none),put:=λe=>[ae ((ws++x).map g) e,aR (x.map g) n]}
theorem BM (g:γ->E9) (w:E7) (a b l n:Nat) (ws x:List γ) (o:ws.length+x.length<=100000):ab (env w) (sq g a b l n ws x):=by
 refine aN λA s G k m P h=> ?_
 have j:s.heap.get? a=some (ae (ws.map g) b):=P.has (a,_) EZ
 have i:s.heap.get? l=some (aR (x.map g) n):=P.has (l,_) (E2 _ EZ)
 show Fp _ _ (FK table (.builtin "list.extend" ⟨[.ref a, .ref l],[]⟩)) _ _ s
 rw [aE _ _ F.entry_list_extend]
 refine vR j i rfl (.inr rfl) rfl (by simp;omega) ?_
 have e:FH (· ++(x.map g).toArray) (ae (ws.map g) b)=ae ((ws++x).map g) (if ((ws++x).map g).length=(ws.map g).length then b else b+1):=e9 (by simp)
 have f:=(ap.start P).set (FH (· ++(x.map g).toArray)) (by exact EZ) (by show (FH (· ++(x.map g).toArray) (ae (ws.map g) b)).isFreed=false;rw [e];rfl)
 have d:ap s {s with heap:=s.heap.update a (FH (· ++(x.map g).toArray))} (sq g a b l n ws x).own [(a,FH (· ++(x.map g).toArray) (ae (ws.map g) b)),(l,aR (x.map g) n)]:=f
 rw [e] at d
 exact h _ _ trivial d
def sx (g:γ->E9) (l n:Nat) (x:List γ):af:={d:=1,α:=Nat,c:= .builtin "list.clear" ⟨[.ref l],[]⟩,need:=[(l,ae (x.map g) n)],r:=λ_=> .ok (.ret .none),put:=λe=>[ae [] e]}
theorem t4 (g:γ->E9) (w:E7) (l n:Nat) (x:List γ) (k:x.length<=100000):ab (env w) (sx g l n x):=by
 refine aN λA s G i j P f=> ?_
 have h:s.heap.get? l=some (ae (x.map g) n):=P.has (l,_) EZ
 show Fp _ _ (FK table (.builtin "list.clear" ⟨[.ref l],[]⟩)) _ _ s
 rw [aE _ _ F.entry_list_clear]
 refine E1 (E3 (a:=Fq l) ?_)
 unfold Fw
 refine E1 (E1 (FL h rfl (E3 ?_)))
 refine E1 (GT h rfl ?_ (by simp [Gu];omega) (by simp [Gu]))
 refine E1 (H7 (E3 ?_))
 have e:FH (λ_=> #[]) (ae (x.map g) n)=ae [] (if ([]:List E9).length=(x.map g).length then n else n+1):=e9 (by simp)
 have d:=(ap.start P).set (FH λ_=> #[]) (by exact EZ) (by show (FH (λ_=> #[]) (ae (x.map g) n)).isFreed=false;rw [e];rfl)
 have b:ap s {s with heap:=s.heap.update l (FH λ_=> #[])} (sx g l n x).own [(l,FH (λ_=> #[]) (ae (x.map g) n))]:=d
 rw [e] at b
 exact f _ _ trivial b
def r4 (l:Nat) (o:Obj) (z:Int):af:={d:=3,α:=Nat,c:= .builtin "len" ⟨[.ref l],[]⟩,need:=[(l,o)],r:=λu=> .ok (.ret (.int z u)),put:=λ_=>[o]}
theorem dv (g:γ->E9) (w:E7) (l n:Nat) (x:List γ) (k:Nat) (hk:x.length=k) (j:x.length<=100000):ab (env w) (r4 l (ae (x.map g) n) k):=by
 subst hk
 refine aN λA s G f i P d=> ?_
 have b:s.heap.get? l=some (ae (x.map g) n):=P.has (l,_) EZ
 have h:s.TypeIs (.ref l) "list":=⟨_,b,rfl⟩
 show Fp _ _ (FK table (.builtin "len" ⟨[.ref l],[]⟩)) _ _ s
 rw [aE _ _ entry_len]
 unfold Builtin.«len»
 refine E1 (m:=oneArg "len" _) (E3 ?_)
 refine E1 (m:=callSpecial? (.ref l) (Str.ofString "__len__")) (wpAny_callSpecial?_slot (name:=Str.ofString "__len__") h slot_list_len
  (HM slot_list_len h entry_list_len ?_ (args_list_len _)))
 show Fp _ _ (do retInt (<-seqSize l)) _ _ s
 unfold seqSize
 refine E1 (E1 (wpAny_loadPart b (E3 ?_)))
 refine E1 (wpAny_mkInt (E3 ⟨_,rfl, ?_⟩))
 refine E1 (Gh (E3 ?_))
 refine E1 (H7 ?_)
 show Fp _ _ (if (((x.map g).toArray.size:Nat):Int)< 0 then _ else _) _ _ _
 rw [if_neg (by omega)]
 show Fp _ _ (if (((x.map g).toArray.size:Nat):Int)>=2^63 then _ else _) _ _ _
 rw [if_neg (by simp;omega)]
 have e:(((x.map g).toArray.size:Nat):Int)=(x.length:Int):=by simp
 rw [e]
 refine E1 (wpAny_mkInt (E3 ?_))
 exact d _ _ trivial ((ap.start P).toks _)
theorem qm (g:γ->E9) (w:E7) (l n:Nat) (x:List γ) (j:x.length<=100000):ab (env w) (r4 l (aR (x.map g) n) x.length):=by
 refine aN λA s G f i P d=> ?_
 have b:s.heap.get? l=some (aR (x.map g) n):=P.has (l,_) EZ
 have h:s.TypeIs (.ref l) "tuple":=⟨_,b,rfl⟩
 show Fp _ _ (FK table (.builtin "len" ⟨[.ref l],[]⟩)) _ _ s
 rw [aE _ _ entry_len]
 unfold Builtin.«len»
 refine E1 (m:=oneArg "len" _) (E3 ?_)
 refine E1 (m:=callSpecial? (.ref l) (Str.ofString "__len__")) (wpAny_callSpecial?_slot (name:=Str.ofString "__len__") h slot_tuple_len
  (HM slot_tuple_len h entry_tuple_len ?_ (args_tuple_len _)))
 show Fp _ _ (do retInt (<-Builtin.Tuple.tupleItemsOf (.ref l)).size) _ _ s
 refine E1 ?_
 unfold Builtin.Tuple.tupleItemsOf
 refine E1 (FL b rfl (E3 ?_))
 refine E1 (wpAny_mkInt (E3 ⟨_,rfl, ?_⟩))
 refine E1 (Gh (E3 ?_))
 refine E1 (H7 ?_)
 show Fp _ _ (if (((x.map g).toArray.size:Nat):Int)< 0 then _ else _) _ _ _
 rw [if_neg (by omega)]
 show Fp _ _ (if (((x.map g).toArray.size:Nat):Int)>=2^63 then _ else _) _ _ _
 rw [if_neg (by simp;omega)]
 have e:(((x.map g).toArray.size:Nat):Int)=(x.length:Int):=by simp
 rw [e]
 refine E1 (wpAny_mkInt (E3 ?_))
 exact d _ _ trivial ((ap.start P).toks _)
end
def rz (l n:Nat) (b:List (Nat×Nat)):af:={d:=6,α:=Nat×Nat,c:= .builtin "tuple.__new__" ⟨[.type "tuple", .ref l],[]⟩,need:=[(l,ae (b.map cv) n)],r:=λx=> .ok (.ret (.ref x.1)),put:=λ_=>[ae (b.map cv) n],new:=λx=>[(x.1,aR (b.map cv) x.2)]}
theorem ql (w:E7) (l n:Nat) (x:List (Nat×Nat)) (h:x.length<=6):ab (env w) (rz l n x):=by
 let p:∀{w:E7} {b:List (Nat×Nat)} {l n:Nat} (f:b.length<=8),PP (env w) (rz l n b):= @λw b l n f _ g=>
  .seg 16781313 λO=>
  .use _ (l4 cv w (O 0) 0 l n (b) (by omega)) [0,0] [] λs e=>
  .seg 1 λd=>
  g (d 0,0) e [2] [0] []
 rcases x with _ | ⟨i,x⟩
 .exact ct (p (by simp))
 rcases x with _ | ⟨j,x⟩
 .exact ct (p (by simp))
 rcases x with _ | ⟨k,x⟩
 .exact ct (p (by simp))
 rcases x with _ | ⟨m,x⟩
 .exact ct (p (by simp))
 rcases x with _ | ⟨o,x⟩
 .exact ct (p (by simp))
 rcases x with _ | ⟨q,x⟩
 .exact ct (p (by simp))
 rcases x with _ | ⟨r,x⟩
 .exact ct (p (by simp))
 .simp at h
def zg (P:E6) (S s:Nat) (k:Nat×Nat×Nat×Nat) (e r f:Nat) (p n:Int×Nat) (d:List (Nat×Nat)):af:={d:=20,α:=Bool,c:= .call (.ref 1182) ⟨[.ref S],[]⟩,need:=[(S,bd s),(s,be P k e (.ref r) p n),(r,ae (d.map cv) f)],r:=λb=> .ok (.ret (.bool b)),put:=λx=>[bd s,be P k e (.ref r) p n,ae (d.map cv) f],post:=λb=>b=(decide (n.1< p.1) || !d.isEmpty)}
theorem ER (w:E7) (S s:Nat) (k:Nat×Nat×Nat×Nat) (o r f:Nat) (p n:Int×Nat) (b:List (Nat×Nat)) (m:b.length<=100000):ab (env w) (zg w.params S s k o r f p n b):=by
 cases b with
 | nil=>exact av (λ_ e=> .seg 0x1003000002002000000000002001000000000002001003000002002000000000002001000000000002001003000002002000000000002001000000000002001001001001000000001 λi=> .or (n.1< p.1) (¬(n.1< p.1)) (FI _) (λd=> .use _ (gq w (n.1) (p.1) (n.2) (p.2) d) [] [] λg h=> .seg 0 λO=>e (HL) (show HL=(Decidable.decide (n.1< p.1) || !List.isEmpty []) from (by (simp;omega))) [1,1,1] [] []) (λd=> .use _ (gr w (n.1) (p.1) (n.2) (p.2) d) [] [] λg h=> .seg 0x4004001001001001003000002002000000000002001000000000002001000000 λO=> .use _ (dv cv w r f ([]) 0 rfl (by trivial)) [3] [] λq l=> .seg 4097 λj=>e (Bool.false) (show Bool.false=(Decidable.decide (n.1< p.1) || !List.isEmpty []) from (by (simp;omega))) [2,2,0] [] []))
 | cons x b=>exact av (λ_ e=> .seg 0x1003000002002000000000002001000000000002001003000002002000000000002001000000000002001003000002002000000000002001000000000002001001001001000000001 λi=> .or (n.1< p.1) (¬(n.1< p.1)) (FI _) (λd=> .use _ (gq w (n.1) (p.1) (n.2) (p.2) d) [] [] λg h=> .seg 0 λO=>e (HL) (show HL=(Decidable.decide (n.1< p.1) || !List.isEmpty (x::b)) from (by (simp;done))) [1,1,1] [] []) (λd=> .use _ (gr w (n.1) (p.1) (n.2) (p.2) d) [] [] λg h=> .seg 0x4004001001001001003000002002000000000002001000000000002001000000 λO=> .use _ (dv cv w r f (x::b) (Fl (x::b)) rfl m) [3] [] λq l=> .seg 4097 λj=>e (HL) (show HL=(Decidable.decide (n.1< p.1) || !List.isEmpty (x::b)) from (by (simp;done))) [2,2,0] [] []))
def yy (P:E6) (S s:Nat) (k:Nat×Nat×Nat×Nat) (n r h:Nat) (p g:Int×Nat) (f:Nat) (d:List (Nat×Nat)) (I e:List ai):af:={d:=20,α:=(Nat×Nat)×Nat×Nat,c:= .call (.ref 1175) ⟨[.ref S],[]⟩,need:=[(S,bd s),(s,be P k n (.ref r) p g),(r,ae (d.map cv) h),(n,dO P (.type "dict") none .ref (ay I) f)],r:=λx=> .ok (.ret (.ref x.1.1)),put:=λx=>[bd s,be P k n (.ref r) (p.1+d.length,x.1.2) g,ae [] x.2.1,dO P (.type "dict") none .ref (ay e) f],new:=λx=>[(x.1.1,aR (d.map cv) x.2.2)],post:=λb=>True,needB:=[aB I],putB:=λ_=>[aB e]}
def aO (v:Int) (u:Nat) (i:ai):ai:={i with np:=(v,u)}
theorem bX (v:Int) (u:Nat):ie (aO v u):=λ_=>⟨rfl,rfl⟩
def uO (P:E6) (k:Nat×Nat×Nat×Nat) (S t n:Nat) (x:Nat×Nat) (e:Nat):Obj:=
 bD [es P [115,101,108,102] k.1 (.ref S),es P [114,101,115,117,108,116] k.2.1 (.ref t),es P [110,50,105] k.2.2.1 (.ref n),es P [110,111,100,101] k.2.2.2 (cv x)] e
def zB (P:E6) (i f:Nat):Code:=bR (aA (cX (oa P)) 3) (.ref i) (dY (oa P) 1175 f)
def nz (P:E6) (d i f t g S n e:Nat) (k:Nat×Nat×Nat×Nat) (j:Nat×Nat) (h:Nat) (p:List (Nat×Nat)) (I b:List ai):af:={d:=10,α:=(Nat×Nat)×Nat,c:=zB P d f,need:=[(n,dO P (.type "dict") none .ref (ay I) e),(t,aR (p.map cv) g),(f,uO P k S t n j h),(d,aW "tuple_iterator" t i)],put:=λx=>[dO P (.type "dict") none .ref (ay b) e,aR (p.map cv) g,uO P k S t n x.1 x.2],needB:=[aB I],putB:=λx=>[aB b]}
theorem sQ (w:E7) (g j h t S n d:Nat) (s:Nat×Nat×Nat×Nat) (b:List (Nat×Nat)):∀(r:List (Nat×Nat)) (i:Nat) (x:Nat×Nat) (f:Nat) (I:List ai),b.drop i=r->(am I).Nodup->(∀p∈r,p.1∈am I)->
 ab (env w) (nz w.params g i j h t S n d s x f b I (r.foldl (λI p=>aJ p.1 (aO (-1) 1766) I) I))
 | [],i,x,f,I,k,o,l=>ct (λ_ v=> .seg 274894700545 λO=> .use _ (ir w g h i t cv b (aV k)) [3,1] [] λM y=> .seg 4099 λB=>v (((x.1,x.2),f)) trivial [4,1,3] [] [0])
 | p::r,i,x,f,I,k,o,l=>by
  obtain ⟨D,y⟩:=aQ k
  obtain ⟨A,R,U,e,F,G,E⟩:=fX o (l p EZ)
  have hk:=dg (c:=p.1) (bX (-1) 1766) I
  exact ct (λ_ v=> .view [] [0] _ _ _ _ (bw G) (.seg 412333662209 λO=> .use _ (fK w g h i t cv b p D) [5,3] [] λM P=> .seg 0x5001005005005006006000006006 λB=> .use _ (dW w n (Fx "dict") none d (p.1) (p.2) (ay I) (A.a) F) [4] [] λV Q=> .seg 0x4000004000000001000000000004000000001000001000000000000000004000004001000004001000000000004 λN=> .view [0] [] _ _ _ _ ((bC (a:=n) (congrArg (λm=>dO w.params (.type "dict") none .ref m d) ((ji (bX _ _) I).symm:ay I=ay (aJ p.1 (aO (-1) 1766) I))))) (.view [3,3] [0] _ _ _ _ (aX (E _:((aO (-1) 1766 A).cells++R).Perm (aB (aJ p.1 (aO (-1) 1766) I)))) (.use _ ((λJ f=>sQ w g j h t S n d s b r (i+1) J f _ y (hk▸o) (λq H=>hk▸l q (E2 _ H)):∀(L:Nat×Nat) (C:Nat),ab (env w) (nz w.params g (i+1) j h t S n d s L C b (aJ p.1 (aO (-1) 1766) I) (r.foldl (λI p=>aJ p.1 (aO (-1) 1766) I) (aJ p.1 (aO (-1) 1766) I)))) p f) [0,1,1,0] [0] λu T=>v (((u.1.1,u.1.2),u.2)) trivial [0,0,0] [] [0]))))
theorem zA (w:E7) (S sd:Nat) (k:Nat×Nat×Nat×Nat) (n r f:Nat) (d nf:Int×Nat) (e:Nat) (g:List (Nat×Nat)) (I:List ai) (V:g.length<=6) (s:(am I).Nodup) (q:∀p∈g,p.1∈am I):
 ab (env w) (yy w.params S sd k n r f d nf e g I (g.foldl (λI p=>aJ p.1 (aO (-1) 1766) I) I)):=by
 cases g with
 | nil=>exact av (λ_ j=> .seg 0x1001001003000002002000000000002001000000000002001000000003000002002000000000002001000000000002001001001001000000001 λh=> .use _ (ql w r f ([]) (by trivial)) [3] [] λx o=> .seg 0x1001002001002002003003003005000004004000000000004001000000000004003003003002001002001002002 λO=> .seg 68736258049 λB=> .use _ (ir w (O 3) (x.1) 0 (x.2) cv ([]) (by trivial)) [0,1] [] λx5 J=> .seg 0x5001005005005005008000007007000000000007001000000000007006001003 λl=> .use _ (t4 cv w r f ([]) (by trivial)) [4] [] λu L=> .seg 0x1006000000008000007007000000000007001000000000007006 λC=> .use _ (qm cv w (x.1) (x.2) ([]) (by trivial)) [2] [] λv M=> .seg 1 λy=> .use _ (b8 w (d.1) 0 (d.2) v (d.1+0) rfl) [] [] λi H=> .seg 0x6008008008000007000000000007000007001000007001000000000007 λA=>j (((x.1,i),u,x.2)) trivial [6,6,1,5] [0] [0])
 | cons p b=>
  obtain ⟨h1,o⟩:=aQ (l:=p::b) (i:=0) rfl
  obtain ⟨t,R,hi,Iy,P,T,N⟩:=fX s (q p EZ)
  have hk:=dg (c:=p.1) (bX (-1) 1766) I
  exact av (have Q:ay I=ay (aJ p.1 (aO (-1) 1766) I):=((ji (bX _ _) I).symm);λ_ j=> .view [] [0] _ _ _ _ (bw T) (.seg 0x1001001005000004004000000000004001000000000004001000000005000004004000000000004001000000000004001001001001000000001 λh=> .use _ (ql w r f (p::b) V) [5] [] λx IB=> .seg 0x1001002001002002003003003007000006006000000000006001000000000006003003003002001002001002002 λO=> .seg 68736258049 λB=> .use _ (fK w (O 3) (x.1) 0 (x.2) cv (p::b) p rfl) [0,1] [] λx5 J=> .seg 0x9001009009009004004000004004 λl=> .use _ (dW w n (Fx "dict") none e (p.1) (p.2) (ay I) (t.a) P) [8] [] λu L=> .seg 0x6000006000000001000000000006000000001000001000000000000000006000006001000006001000000000006 λC=> .view [0] [] _ _ _ _ ((bC (a:=n) (congrArg (λm=>dO w.params (.type "dict") none .ref m e) Q))) (.view [5,5] [0] _ _ _ _ (aX (N _:((aO (-1) 1766 t).cells++R).Perm (aB (aJ p.1 (aO (-1) 1766) I)))) (.use _ ((λW F io tn Y x0 D=>sQ w W F io tn S n e Y (p::b) b 1 x0 D _ o (hk▸s) (λac U=>hk▸q ac (E2 _ U)):∀(X G rw gt:Nat) (Z:Nat×Nat×Nat×Nat) (It:Nat×Nat) (E:Nat),ab (env w) (nz w.params X 1 G rw gt S n e Z It E (p::b) (aJ p.1 (aO (-1) 1766) I) (b.foldl (λI p=>aJ p.1 (aO (-1) 1766) I) (aJ p.1 (aO (-1) 1766) I)))) (O 3) (h 0) (x.1) (x.2) (h 1,O 0,O 2,l 0) p 4) [0,1,2,0] [0] λv M=> .seg 0x4001004004004004006000005005000000000005001000000000005003 λy=> .use _ (t4 cv w r f (p::b) (by omega)) [3] [] λi H=> .seg 0x1004000000006000005005000000000005001000000000005004 λA=> .use _ (qm cv w (x.1) (x.2) (p::b) (by omega)) [2] [] λIu Iz=> .seg 1 λIw=> .use _ (b8 w (d.1) ((↑(Fl (p::b)):Int)) (d.2) Iu (d.1+(↑(Fl (p::b)):Int)) rfl) [] [] λIv IA=> .seg 0x4006006006000005000000000005000005001000005001000000000005 λIx=>j (((x.1,Iv),i,x.2)) trivial [4,4,1,1] [0] [0]))))
def az (I:List ai) (c:Nat):Int:=((I.find? λi=>i.node.1==c).map (·.np.1)).getD 0
def cI:List (Nat×Nat)->List ai->List (Nat×Nat)->List ai->List (Nat×Nat)->Prop
 | [],I,r,b,d=>b=I/\d=r
 | s::e,I,r,b,d=>∃u,cI e (aJ s.1 (aO (az I s.1-1) u) I) (if az I s.1-1=0 then r++[s] else r) b d
def kF (P:E6) (k:Nat×Nat×Nat×Nat×Nat×Nat) (S t n a:Nat) (x:Nat×Nat) (st:E9) (m:List E4) (e:Nat):Obj:=
 bD ([es P [115,101,108,102] k.1 (.ref S),es P [110,111,100,101,115] k.2.1 (.ref t),es P [110,50,105] k.2.2.1 (.ref n),es P [110,111,100,101] k.2.2.2.1 (cv x),es P [110,111,100,101,105,110,102,111] k.2.2.2.2.1 (.ref a),es P [115,116,97,116] k.2.2.2.2.2 st]++m) e
def gW (P:E6) (k:Nat×Nat) (s:Nat×Nat) (b:Nat):List E4:=[es P [115,117,99,99,101,115,115,111,114] k.1 (cv s),es P [115,117,99,99,101,115,115,111,114,95,105,110,102,111] k.2 (.ref b)]
def DQ (P:E6) (i f:Nat):Code:=bR (aA (cX (kq P)) 2) (.ref i) (dY (kq P) 1196 f)
def xz (P:E6) (i f:Nat):Code:=bR (aA (aY (aA (cX (kq P)) 2)) 4) (.ref i) (dY (kq P) 1196 f)
def iJ (P:E6) (b i f t S s:Nat) (k:Nat×Nat×Nat×Nat) (n r v:Nat) (p g:Int×Nat) (m:List (Nat×Nat×Nat)) (e:Nat) (d:Nat×Nat×Nat×Nat×Nat×Nat) (a j sn:Nat) (x:Nat×Nat) (st:E9) (q:List E4) (o:Nat) (l:List (Nat×Nat)) (u h:List (Nat×Nat)) (I:List ai):af:={d:=10,α:=(List ai×List (Nat×Nat)×Nat)×(Nat×Nat)×(Nat×Nat)×Nat×Nat,c:=xz P b f,need:=[(S,bd s),(s,be P k n (.ref r) p g),(n,dO P (.type "dict") none .ref m e),(r,ae (h.map cv) v),(j,ae (l.map cv) sn),(f,kF P d S t n a x st q o),(b,aW "list_iterator" j i)],put:=λy=>[bd s,be P k n (.ref r) p g,dO P (.type "dict") none .ref m e,ae (y.1.2.1.map cv) y.1.2.2,ae (l.map cv) sn,kF P d S t n a x st (gW P y.2.1 y.2.2.1 y.2.2.2.1) y.2.2.2.2],post:=λy=>cI u I h y.1.1 y.1.2.1,needB:=[aB I],putB:=λy=>[aB y.1.1]}
def fC (m:List (Nat×Nat×Nat)) (I:List ai):Prop:=∀i∈I,look? m i.node.1=some i.a
theorem fC.up {m:List (Nat×Nat×Nat)} {I:List ai} (h:fC m I) {c:Nat} {f:ai->ai} (g:ie f):fC m (aJ c f I):=by
 intro i k
 obtain ⟨j,l,rfl⟩:=Gj.mp k
 have b:=h j l
 show look? m (if j.node.1=c then f j else j).node.1=some (if j.node.1=c then f j else j).a
 obtain ⟨d,e⟩:=g j
 split
 .rw [d,e];exact b
 .exact b
theorem ku {I:List ai} {i:ai} (b:(am I).Nodup) (h:i∈I):az I i.node.1=i.np.1:=by
 unfold az
 induction I with
 | nil=>cases h
 | cons j I d=>
  unfold am at b
  rw [Fu,GO] at b
  rcases GP.mp h with rfl | h
  .simp
  .have:¬j.node.1=i.node.1:=λq=>b.1 (Gj.mpr ⟨i,h,q.symm⟩)
   rw [HP (by simpa using this)]
   exact d b.2 h
theorem lw (w:E7) (B Q ac S sd:Nat) (k:Nat×Nat×Nat×Nat) (N O:Nat) (po Z:Int×Nat) (m:List (Nat×Nat×Nat)) (F:Nat) (Y:Nat×Nat×Nat×Nat×Nat×Nat) (a D sn:Nat) (gt:Nat×Nat) (st:E9) (C:Nat×Nat) (v:List (Nat×Nat)):
 ∀(d:List (Nat×Nat)) (i:Nat) (t:Nat×Nat) (y f r:Nat) (g:List (Nat×Nat)) (I:List ai),v.drop i=d->fC m I->(am I).Nodup->(∀p∈d,p.1∈am I)->g.length+d.length<=1000->
  ab (env w) (iJ w.params B i Q ac S sd k N O r po Z m F Y a D sn gt st (gW w.params C t y) f v d g I):=by
 intro d
 induction d with
 | nil=>
  intro i t y f r g I J H A L M
  exact ct (λ_ E=> .seg 481053143041 λO1=> .use _ (ch w B D i sn cv v (aV J)) [6,4] [] λx2 G=> .seg 4099 λO3=>E (((I,g,r),(C.1,C.2),(t.1,t.2),y,f)) ⟨rfl,rfl⟩ [4,4,4,4,1,3] [] [0])
 | cons p d lw=>
  intro i t y f r g I J H A L M
  obtain ⟨h1,G⟩:=aQ J
  obtain ⟨n,Iv,U,e,hl,ho,T⟩:=fX A (L p EZ)
  have W:=ku A U
  rw [e] at W
  have V:=H n U
  rw [e] at V
  simp only [Fb] at M
  have X:∀(o:Nat×Nat) (b f r u:Nat) (j:List (Nat×Nat)),j.length+d.length<=1000->ab (env w) (iJ w.params B (i+1) Q ac S sd k N O r po Z m F Y a D sn gt st (gW w.params C o b) f v d j (aJ p.1 (aO (az I p.1-1) u) I)):=λo b f r u j s=>
   lw (i+1) o b f r j _ G (H.up (bX _ _)) (by rw [dg (bX _ _)];exact A) (λIt hq=>by rw [dg (bX _ _)];exact L It (E2 _ hq)) s
  exact av (have hv:n.np.1-1=(az I p.1-1):=(by rw [W]);have M:g.length+(d.length+1)<=1000:=(by omega);λ_ E=> .view [] [0] _ _ _ _ (bw ho) (.seg 618492104705 λO1=> .use _ (cr w B D i sn cv v p h1) [8,6] [] λx2 G=> .seg 0x7001007007007009009009009 λO3=> .use _ (dW w N (Fx "dict") none F (p.1) (p.2) m (n.a) V) [6] [] λx4 h4=> .seg 0x1004000004000000001000000000004000000001000001000000000000000000000000004001000000000004009009009 λO5=> .use _ (bx w (n.np.1) 1 (n.np.2) (O5 2) (az I p.1-1) hv) [] [] λl h6=> .seg 0x1004000004000000001000000000004000000001000001000000000000000000000000004001000000000004009004000004000000001000000000004000000001000001000000000000000004000004001000004001000000000004 λP=> .or ((az I p.1-1)=0) (¬((az I p.1-1)=0)) (FI _) (λq=> .use _ (g7 w (az I p.1-1) 0 l (P 2) q) [] [] λx9 h9=> .seg 0x8001009008008008008007000006006000000000006001000000000006009 λio=> .use _ (dw w O r g (p.1,p.2) (by omega)) [7] [] λx R=> .seg 0 λIu=> .view [4,4] [0] _ _ _ _ ((aX (T (aO (az I p.1-1) l)))) (.use _ ((λo b f r u j s=>X o b f r u j s) p (n.a) f (r+1) l (g++[(p.1,p.2)]) (by (simp;omega))) [4,4,1,0,1,1,0] [0] λh rw=>E (((h.1.1,h.1.2.1,h.1.2.2),(h.2.1.1,h.2.1.2),(h.2.2.1.1,h.2.2.1.2),h.2.2.2.1,h.2.2.2.2)) ⟨l,by rw [(rfl:az I p.1-1=(az I p.1-1)),if_pos q];exact rw⟩ [0,0,0,0,0,0] [] [0])) (λq=> .use _ (g8 w (az I p.1-1) 0 l (P 2) q) [] [] λx9 h9=> .seg 0 λio=> .view [3,3] [0] _ _ _ _ ((aX (T (aO (az I p.1-1) l)))) (.use _ ((λo b f r u j s=>X o b f r u j s) p (n.a) f r l g (by omega)) [3,3,0,2,1,1,0] [0] λx R=>E (((x.1.1,x.1.2.1,x.1.2.2),(x.2.1.1,x.2.1.2),(x.2.2.1.1,x.2.2.1.2),x.2.2.2.1,x.2.2.2.2)) ⟨l,by rw [(rfl:az I p.1-1=(az I p.1-1)),if_neg q];exact R⟩ [0,0,0,0,0,0] [] [0]))))
theorem qO (w:E7) (s A H S G:Nat) (k:Nat×Nat×Nat×Nat) (t v:Nat) (F E:Int×Nat) (m:List (Nat×Nat×Nat)) (o:Nat) (D:Nat×Nat×Nat×Nat×Nat×Nat) (a y sn:Nat) (x:Nat×Nat) (st:E9)
 (p:Nat×Nat) (r:List (Nat×Nat)) (j h:Nat) (f:List (Nat×Nat)) (I:List ai) (N:fC m I) (B:(am I).Nodup) (T:∀q∈p::r,q.1∈am I) (V:f.length+(p::r).length<=1000):
  ab (env w) (iJ w.params s 0 A H S G k t v h F E m o D a y sn x st [] j (p::r) (p::r) f I):=by
 obtain ⟨l,rw,Q,e,hl,ho,P⟩:=fX B (T p EZ)
 have U:=ku B Q
 rw [e] at U
 have R:=N l Q
 rw [e] at R
 simp only [Fb] at V
 exact av (have hv:l.np.1-1=(az I p.1-1):=(by rw [U]);have V:f.length+(r.length+1)<=1000:=(by omega);have W:∀(C:Nat×Nat) (q:Nat×Nat) (b j h u:Nat) (f:List (Nat×Nat)),f.length+r.length<=1000->ab (env w) (iJ w.params s (0+1) A H S G k t v h F E m o D a y sn x st (gW w.params C q b) j (p::r) r f (aJ p.1 (aO (az I p.1-1) u) I)):=(λC p' b j h u gt ac=>lw w s A H S G k t v F E m o D a y sn x st C (p::r) r 1 p' b j h gt _ rfl (N.up (bX _ _)) (by rw [dg (bX _ _)];exact B) (λq hq=>by rw [dg (bX _ _)];exact T q (E2 _ hq)) ac);λ_ X=> .view [] [0] _ _ _ _ (bw ho) (.seg 618492104705 λO1=> .use _ (cr w s y 0 sn cv (p::r) p rfl) [8,6] [] λx2 h2=> .seg 0x7001007007007009009009009 λJ=> .use _ (dW w t (Fx "dict") none o (p.1) (p.2) m (l.a) R) [6] [] λx4 h4=> .seg 0x1004000004000000001000000000004000000001000001000000000000000000000000004001000000000004009009009 λO=> .use _ (bx w (l.np.1) 1 (l.np.2) (O 2) (az I p.1-1) hv) [] [] λi h6=> .seg 0x1004000004000000001000000000004000000001000001000000000000000000000000004001000000000004009004000004000000001000000000004000000001000001000000000000000004000004001000004001000000000004 λL=> .or ((az I p.1-1)=0) (¬((az I p.1-1)=0)) (FI _) (λn=> .use _ (g7 w (az I p.1-1) 0 i (L 2) n) [] [] λx9 h9=> .seg 0x8001009008008008008007000006006000000000006001000000000006009 λY=> .use _ (dw w v h f (p.1,p.2) (by omega)) [7] [] λd M=> .seg 0 λio=> .view [4,4] [0] _ _ _ _ ((aX (P (aO (az I p.1-1) i)))) (.use _ (W (J 0,O 0) p (l.a) (j+1+1) (h+1) i (f++[(p.1,p.2)]) (by (simp;omega))) [4,4,1,0,1,1,0] [0] λg Z=>X (((g.1.1,g.1.2.1,g.1.2.2),(g.2.1.1,g.2.1.2),(g.2.2.1.1,g.2.2.1.2),g.2.2.2.1,g.2.2.2.2)) ⟨i,by rw [(rfl:az I p.1-1=(az I p.1-1)),if_pos n];exact Z⟩ [0,0,0,0,0,0] [] [0])) (λn=> .use _ (g8 w (az I p.1-1) 0 i (L 2) n) [] [] λx9 h9=> .seg 0 λY=> .view [3,3] [0] _ _ _ _ ((aX (P (aO (az I p.1-1) i)))) (.use _ (W (J 0,O 0) p (l.a) (j+1+1) h i f (by omega)) [3,3,0,2,1,1,0] [0] λd M=>X (((d.1.1,d.1.2.1,d.1.2.2),(d.2.1.1,d.2.1.2),(d.2.2.1.1,d.2.2.1.2),d.2.2.2.1,d.2.2.2.2)) ⟨i,by rw [(rfl:az I p.1-1=(az I p.1-1)),if_neg n];exact M⟩ [0,0,0,0,0,0] [] [0]))))
def bj (I:List ai) (c:Nat):List (Nat×Nat):=((I.find? λi=>i.node.1==c).map (·.su)).getD []
def ec:List (Nat×Nat)->List ai->List (Nat×Nat)->List ai->List (Nat×Nat)->Prop
 | [],I,r,b,d=>b=I/\d=r
 | p::g,I,r,b,d=>∃u e f,cI (bj I p.1) (aJ p.1 (aO (-2) u) I) r e f/\ec g e f b d
theorem Ba {I b:List ai} {i:ai} {c:Nat} (h:i.node.1≠c):az (I++i::b) c=az (I++b) c:=by
 unfold az
 rw [HB,HB,HP (by simpa using h)]
theorem wN {I b:List ai} {i:ai} {c:Nat} {f:ai->ai} (h:i.node.1≠c):aJ c f (I++i::b)=aJ c f I++i::aJ c f b:=by
 unfold aJ
 rw [Fd,Fu,if_neg h]
theorem wM {I b:List ai} {c:Nat} {f:ai->ai}:aJ c f (I++b)=aJ c f I++aJ c f b:=Fd ..
theorem cI.ins {i:ai}:∀{g:List (Nat×Nat)} {I b X:List ai} {r f:List (Nat×Nat)},(∀s∈g,i.node.1≠s.1)->cI g (I++b) r X f->∃J d,X=J++d/\cI g (I++i::b) r (J++i::d) f
 | [],I,b,X,r,f,_,⟨m,n⟩=>⟨I,b,m,rfl,n⟩
 | s::g,I,b,X,r,f,k,⟨u,h⟩=>by
  have j:=k s EZ
  rw [wM] at h
  obtain ⟨J,d,e,l⟩:=cI.ins (λq o=>k q (E2 _ o)) h
  refine ⟨J,d,e,u, ?_⟩
  rw [Ba j,wN j]
  exact l
theorem cI.keeps:∀{g:List (Nat×Nat)} {I X:List ai} {r f:List (Nat×Nat)},cI g I r X f->
 ay X=ay I/\am X=am I/\X.map (·.su)=I.map (·.su)/\f.length<=r.length+g.length/\∀c,c∉g.map (·.1)->az X c=az I c
 | [],I,X,r,f,⟨k,l⟩=>by subst k;subst l;exact ⟨rfl,rfl,rfl,by simp,λ_ _=>rfl⟩
 | s::g,I,X,r,f,⟨u,h⟩=>by
  obtain ⟨a,b,c,d,e⟩:=cI.keeps h
  refine ⟨a.trans (ji (bX _ _) I),b.trans (dg (bX _ _) I),c.trans ?_, ?_,λq j=> ?_⟩
  .unfold aJ
   rw [GS]
   refine Gx λi _=> ?_
   show (if i.node.1=s.1 then _ else i).su=i.su
   split<;>rfl
  .simp only [Fb]
   split at d
   .simp at d;omega
   .omega
  .rw [Fu,GP,not_or] at j
   rw [e q j.2]
   unfold az aJ
   rw [List.find?_map]
   have hp:((λi:ai=>i.node.1==q)∘λi=>if i.node.1=s.1 then aO (az I s.1-1) u i else i)=λi=>i.node.1==q:=by
    funext i
    show ((if i.node.1=s.1 then aO (az I s.1-1) u i else i).node.1==q)=_
    split<;>rfl
   have n:((λi:ai=>i.node.1==q)∘λi=>if i.node.1=s.1 then aO (((I.find? λi=>i.node.1==s.1).map (·.np.1)).getD 0-1) u i else i)=λi=>i.node.1==q:=hp
   rw [n]
   cases m:I.find? λi=>i.node.1==q with
   | none=>rfl
   | some i=>
    have:i.node.1=q:=by simpa using List.find?_some m
    rw [GA,if_neg (λz=>j.1 (this.symm.trans z))]
structure dI (m:List (Nat×Nat×Nat)) (rest:List (Nat×Nat)) (I:List ai) (rd:List (Nat×Nat)):Prop where
 nd:(am I).Nodup
 looks:fC m I
 mem:∀p∈rest,p.1∈am I
 ndr:(rest.map (·.1)).Nodup
 out:∀p∈rest,az I p.1= -1
 suc:∀i∈I,i.node.1∈rest.map (·.1)->∀s∈i.su,s.1∈am I/\s.1∉rest.map (·.1)
 suL:∀i∈I,i.su.length<=10
 len:rd.length+10*rest.length<=900
theorem BH {m:List (Nat×Nat×Nat)} {I X:List ai} (h:fC m I) (e:ay X=ay I):fC m X:=by
 intro i d
 have:(i.node.1,i.node.2,i.a)∈ay I:=by rw [<-e];exact Fa (f:=λi:ai=>(i.node.1,i.node.2,i.a)) d
 obtain ⟨j,f,q⟩:=Gj.mp this
 have b:=h j f
 simp only [Prod.mk.injEq] at q
 rw [q.1,q.2.2] at b
 exact b
theorem lV {I:List ai} {c q:Nat} {f:ai->ai} (b:ie f) (h:c≠q):az (aJ c f I) q=az I q:=by
 unfold az aJ
 rw [List.find?_map]
 have hp:((λi:ai=>i.node.1==q)∘λi=>if i.node.1=c then f i else i)=λi=>i.node.1==q:=by
  funext i
  show ((if i.node.1=c then f i else i).node.1==q)=_
  split
  .rw [(b i).2]
  .rfl
 rw [hp]
 cases d:I.find? λi=>i.node.1==q with
 | none=>rfl
 | some i=>
  have:i.node.1=q:=by simpa using List.find?_some d
  rw [GA,if_neg (λz=>h (z.symm.trans this))]
theorem jM {I:List ai} {i:ai} (b:(am I).Nodup) (h:i∈I):bj I i.node.1=i.su:=by
 unfold bj
 induction I with
 | nil=>cases h
 | cons j I d=>
  unfold am at b
  rw [Fu,GO] at b
  rcases GP.mp h with rfl | h
  .simp
  .have:¬j.node.1=i.node.1:=λq=>b.1 (Gj.mpr ⟨i,h,q.symm⟩)
   rw [HP (by simpa using this)]
   exact d b.2 h
theorem u8 {m:List (Nat×Nat×Nat)} {p:Nat×Nat} {A:List (Nat×Nat)} {I:List ai} {x:List (Nat×Nat)} (C:dI m (p::A) I x):
 ∃b o,look? m p.1=some b.a/\b.np.1= -1/\bj I p.1=b.su/\(aB I).Perm (b.cells++aB o)/\fC m o/\(am o).Nodup/\(∀s∈b.su,s.1∈am o)/\x.length+b.su.length<=1000/\
  ∀u X y,cI b.su o x X y->∃J,((aO (-2) u b).cells++aB X).Perm (aB J)/\cI (bj I p.1) (aJ p.1 (aO (-2) u) I) x J y/\dI m A J y:=by
 obtain ⟨d,b,f,rfl,e,N,O⟩:=jP C.nd (C.mem p EZ)
 have r:b∈d++b::f:=FF _ EZ
 have T:=ku C.nd r
 have G:=jM C.nd r
 rw [e] at T G
 have R:=C.looks b r
 rw [e] at R
 have hk:am (d++b::f)=am d++b.node.1::am f:=by unfold am;rw [Fd,Fu]
 have Q:am (d++f)=am d++am f:=Fd ..
 have S:=C.nd
 rw [hk,(List.perm_middle (l₁:=am d) (a:=b.node.1) (l₂:=am f)).nodup_iff,GO] at S
 have H:∀s∈b.su,s.1∈am (d++b::f)/\s.1∉(p::A).map (·.1):=C.suc b r (by rw [e];exact EZ)
 have V:∀s∈b.su,b.node.1≠s.1:=λs g q=>(H s g).2 (by rw [<-q,e];exact EZ)
 have ac:=C.len
 have io:=C.suL b r
 simp only [Fb] at ac
 refine ⟨b,d++f,R, ?_,G,hU ..,λi k=>C.looks i ?_,by rw [Q];exact S.2,λs g=> ?_,by omega,λu X y Z=> ?_⟩
 .rw [<-T];exact C.out p EZ
 .rcases GB.mp k with q | q
  .exact F3 _ q
  .exact FF _ (E2 _ q)
 .have h:=(H s g).1
  rw [hk] at h
  rw [Q]
  rcases GB.mp h with q | q
  .exact F3 _ q
  .rcases GP.mp q with q | q
   .exact absurd q.symm (V s g)
   .exact FF _ q
 .obtain ⟨B,D,rfl,P⟩:=Z.ins (i:=aO (-2) u b) V
  refine ⟨B++aO (-2) u b::D,(hU ..).symm, ?_, ?_⟩
  .rw [G,lp N e O];exact P
  .obtain ⟨k1,k2,k3,k4,k5⟩:=P.keeps
   have m0:ay (d++aO (-2) u b::f)=ay (d++b::f):=by unfold ay;rw [Fd,Fd];rfl
   have k0:am (d++aO (-2) u b::f)=am (d++b::f):=by unfold am;rw [Fd,Fd];rfl
   have s0:(d++aO (-2) u b::f).map (·.su)=(d++b::f).map (·.su):=by rw [Fd,Fd];rfl
   have w:=k2.trans k0
   have Y:=k3.trans s0
   have W:∀i∈B++aO (-2) u b::D,∃j∈d++b::f,j.node.1=i.node.1/\j.su=i.su:=λi k=>by
    obtain ⟨n,t,q⟩:=Is.mp k
    have L:(B++aO (-2) u b::D).length=(d++b::f).length:=by
     have:=congrArg Fl Y
     simpa using this
    refine ⟨(d++b::f)[n]'(L▸t),List.getElem_mem _, ?_, ?_⟩
    .have:=congrArg (λl=>l[n]?) w
     unfold am at this
     simp only [Fi] at this
     rw [Ff t,Ff (L▸t),q] at this
     simpa using this.symm
    .have:=congrArg (λl=>l[n]?) Y
     simp only [Fi] at this
     rw [Ff t,Ff (L▸t),q] at this
     simpa using this.symm
   have F:=C.ndr
   rw [Fu,GO] at F
   refine ⟨by rw [w];exact C.nd,BH C.looks (k1.trans m0),λq v=>by rw [w];exact C.mem q (E2 _ v),F.2,λq v=> ?_,λi k hr s g=> ?_,λi k=> ?_, ?_⟩
   .have U:q.1∈A.map (·.1):=Fa v
    rw [k5 q.1 λz=> ?_]
    .have:az (d++aO (-2) u b::f) q.1=az (d++b::f) q.1:=by
      have gt:p.1≠q.1:=λz=>F.1 (z▸U)
      have:=lV (I:=d++b::f) (bX (-2) u) gt
      rw [lp N e O] at this
      exact this
     rw [this]
     exact C.out q (E2 _ v)
    .obtain ⟨s,g,z⟩:=Gj.mp z
     exact (H s g).2 (by rw [z];exact E2 _ U)
   .obtain ⟨j,E,q1,M⟩:=W i k
    rw [w]
    have:=C.suc j E (by rw [q1];exact E2 _ hr) s (M▸g)
    exact ⟨this.1,λz=>this.2 (E2 _ z)⟩
   .obtain ⟨j,E,_,M⟩:=W i k
    rw [<-M];exact C.suL j E
   .omega
def Dk (P:E6) (k:Nat×Nat×Nat) (S t n:Nat) (e:Nat):Obj:=
 bD [es P [115,101,108,102] k.1 (.ref S),es P [110,111,100,101,115] k.2.1 (.ref t),es P [110,50,105] k.2.2 (.ref n)] e
def pR (P:E6) (m:List E4):Prop:=m=[]\/∃k s b,m=gW P k s b
def lG (P:E6) (b i f t q S s:Nat) (k:Nat×Nat×Nat×Nat) (n r o:Nat) (p d:Int×Nat) (m:List (Nat×Nat×Nat)) (e:Nat) (j:Obj) (l h g:List (Nat×Nat)) (I:List ai):af:={d:=20,α:=(List ai×List (Nat×Nat)×Nat)×Int×Nat,c:=DQ P b f,need:=[(S,bd s),(s,be P k n (.ref r) p d),(n,dO P (.type "dict") none .ref m e),(r,ae (g.map cv) o),(t,aR (l.map cv) q),(b,aW "tuple_iterator" t i),(f,j)],put:=λy=>[bd s,be P k n (.ref r) p y.2,dO P (.type "dict") none .ref m e,ae (y.1.2.1.map cv) y.1.2.2],post:=λy=>ec h I g y.1.1 y.1.2.1/\y.2.1=d.1+h.length,needB:=[aB I],putB:=λy=>[aB y.1.1]}
theorem DP (w:E7) (G E t N S M:Nat) (k:Nat×Nat×Nat×Nat) (l L:Nat) (H:Int×Nat) (m:List (Nat×Nat×Nat)) (u:Nat) (y:List (Nat×Nat)):
 ∀(g:List (Nat×Nat)) (i:Nat) (d:Nat×Nat×Nat×Nat×Nat×Nat) (s:Nat) (B:Nat×Nat) (A:E9) (j:List E4) (f h:Nat) (n:Int×Nat) (r:List (Nat×Nat)) (I:List ai),y.drop i=g->pR w.params j->dI m g I r->
  ab (env w) (lG w.params G i E t N S M k l L h H n m u (kF w.params d S t l s B A j f) y g r I):=by
 intro g
 induction g with
 | nil=>
  intro i d s B A j f h n r I W F C
  exact ct (have Ix:y[i]? =none:=(aV W);λ_ O=> .seg 412333662209 λY=> .use _ (ir w G t i N cv y Ix) [5,4] [] λx2 P=> .seg 4099 λZ=>O (((I,r,h),n.1,n.2)) ⟨⟨rfl,rfl⟩,by simp⟩ [4,4,4,4] [] [0])
 | cons p g ih=>
  intro i d s B A j f h n r I W F C
  obtain ⟨h1,P⟩:=aQ W
  obtain ⟨b,D,hl,rw,IJ,ho,hL,hn,hm,hz,io⟩:=u8 C
  have It:∀(d:Nat×Nat×Nat×Nat×Nat×Nat) (s:Nat) (B:Nat×Nat) (A:E9) (j:List E4) (f h:Nat) (n:Int×Nat) (r:List (Nat×Nat)) (J:List ai),dI m g J r->pR w.params j->ab (env w) (lG w.params G (i+1) E t N S M k l L h H n m u (kF w.params d S t l s B A j f) y g r J):=λd s B A j f h n r J hC F=>ih (i+1) d s B A j f h n r J P F hC
  by_cases X:b.su=[]
  .exact av (have h0:b.su[0]? =none:=(by rw [X];rfl);λ_ O=> .view [] [0] _ _ _ _ (bw ho) (.seg 549772623873 λY=> .use _ (fK w G t i N cv y p h1) [7,6] [] λx2 P=> .seg 0x7001009007007007007009009009 λZ=> .use _ (kH w l none u (p.1) (p.2) m (b.a) hl) [6] [] λx4 h4=> .seg 0x1000009009009004000004000000001000000000004000000001000001000000000000000000000000004001000000000004009009009 λO5=> .use _ (gn w (b.np.1) (-1:Int) (b.np.2) 1766 rw) [] [] λx6 h6=> .seg 0x1001005001005005004000004000000001000000000004000000001000001000000000000000000000000004001000000000004009004000004000000001000000000004000000001000001000000000000000004000004001000004001000000000004009000 λR=> .seg 68736258049 λO8=> .use _ (ch w (R 2) (b.sc) 0 (b.n) cv (b.su) h0) [0,4] [] λx9 h9=> .seg 0x100a00000900900000000000900100000000000900c001003 λIw=> .use _ (b8 w (n.1) 1 (n.2) (Iw 1) (n.1+1) rfl) [] [] λIv II=> .seg 0xa00a00a000009000000000009000009001000009001000000000009 λIF=> .pick _ _ ((io 1769 D r (by rw [X];exact ⟨rfl,rfl⟩))) λJ v=>have T:List.Perm (ai.cells (aO (-2:Int) 1769 b)++aB D) (aB J):=(Fv v);have U:cI (bj I p.1) (aJ p.1 (aO (-2:Int) 1769) I) r J r:=(Fv (Fe v));have V:dI m g J r:=(Fe (Fe v)); .view [7,1] [0] _ _ _ _ (aX T) (.use _ (It (d.1,d.2.1,d.2.2.1,d.2.2.2.1,d.2.2.2.2.1,d.2.2.2.2.2) (b.a) p (Gf b.np.1 b.np.2) j f h (n.1+1,Iv) r J V F) [6,6,3,5,4,3,3] [0] λq gt=>have IA:ec g J r q.1.1 q.1.2.1:=(Fv gt);have IB:q.2.1=(n.1+1,Iv).1+(↑(Fl g):Int):=(Fe gt);O (((q.1.1,q.1.2.1,q.1.2.2),q.2.1,q.2.2)) ⟨⟨1769,J,_,U,IA⟩,by rw [IB];simp;omega⟩ [0,0,0,0] [] [0])))
  .have IC:∀(d:Nat×Nat×Nat×Nat×Nat×Nat) (Q f:Nat) (st:E9),ab (env w) (iJ w.params Q 0 E t S M k l L h H n m u d b.a b.sc b.n p st j f b.su b.su r D):=by
    intro d Q f st
    rcases F with rfl | ⟨kd,s0,b0,rfl⟩
    .obtain ⟨ID,su,e⟩:=Fy X
     rw [e]
     exact qO w Q E t S M k l L H n m u d b.a b.sc b.n p st ID su f h r D hL hn (e▸hm) (e▸hz)
    .exact lw w Q E t S M k l L H n m u d b.a b.sc b.n p st kd b.su b.su 0 s0 b0 f h r D rfl hL hn hm hz
   exact av (λ_ O=> .view [] [0] _ _ _ _ (bw ho) (.seg 549772623873 λY=> .use _ (fK w G t i N cv y p h1) [7,6] [] λx2 P=> .seg 0x7001009007007007007009009009 λZ=> .use _ (kH w l none u (p.1) (p.2) m (b.a) hl) [6] [] λx4 h4=> .seg 0x1000009009009004000004000000001000000000004000000001000001000000000000000000000000004001000000000004009009009 λO5=> .use _ (gn w (b.np.1) (-1:Int) (b.np.2) 1766 rw) [] [] λx6 h6=> .seg 0x1001005001005005004000004000000001000000000004000000001000001000000000000000000000000004001000000000004009004000004000000001000000000004000000001000001000000000000000004000004001000004001000000000004009000 λR=> .use _ (IC (d.1,d.2.1,d.2.2.1,d.2.2.2.1,d.2.2.2.2.1,d.2.2.2.2.2) (R 2) f (Gf b.np.1 b.np.2)) [6,6,1,5,4,4,0] [0] λx h8=> .seg 0x1002000001001000000000001001000000000001006 λO9=> .use _ (b8 w (n.1) 1 (n.2) (O9 1) (n.1+1) rfl) [] [] λIu IG=> .seg 0x2002002000001000000000001000001001000001001000000000001 λIE=> .pick _ _ (io 1769 _ _ h8) λJ v=>have T:List.Perm (ai.cells (aO (-2:Int) 1769 b)++aB x.1.1) (aB J):=(Fv v);have U:cI (bj I p.1) (aJ p.1 (aO (-2:Int) 1769) I) r J x.1.2.1:=(Fv (Fe v));have V:dI m g J x.1.2.1:=(Fe (Fe v)); .view [8,4] [0] _ _ _ _ (aX T) (.use _ (It (d.1,d.2.1,d.2.2.1,d.2.2.2.1,d.2.2.2.2.1,d.2.2.2.2.2) (b.a) p (Gf b.np.1 b.np.2) (gW w.params x.2.1 x.2.2.1 x.2.2.2.1) (x.2.2.2.2) (x.1.2.2) (n.1+1,Iu) (x.1.2.1) J V (by (first | exact Or.inl rfl | exact Or.inr ⟨_,_,_,rfl⟩))) [0,0,0,0,2,1,0] [0] λo ac=>have Iy:ec g J x.1.2.1 o.1.1 o.1.2.1:=(Fv ac);have Iz:o.2.1=(n.1+1,Iu).1+(↑(Fl g):Int):=(Fe ac);O (((o.1.1,o.1.2.1,o.1.2.2),o.2.1,o.2.2)) ⟨⟨1769,J,_,U,Iy⟩,by rw [Iz];simp;omega⟩ [0,0,0,0] [] [0])))
theorem DN (w:E7) (s y t u S C:Nat) (k:Nat×Nat×Nat×Nat) (g B h:Nat) (A n:Int×Nat) (m:List (Nat×Nat×Nat)) (o:Nat) (b:Nat×Nat×Nat) (f:Nat) (H r:List (Nat×Nat)) (I:List ai) (Iv:dI m H I r):
 ab (env w) (lG w.params s 0 y t u S C k g B h A n m o (Dk w.params b S t g f) H H r I):=by
 cases io:H with
 | nil=>subst io;exact ct (λ_ D=> .seg 412333662209 λW=> .use _ (ir w s t 0 u cv [] rfl) [5,4] [] λx2 F=> .seg 4099 λv=>D (((I,r,h),n.1,n.2)) ⟨⟨rfl,rfl⟩,by simp⟩ [4,4,4,4] [] [0])
 | cons p d=>
  subst io
  obtain ⟨X,F⟩:=aQ (l:=p::d) (i:=0) rfl
  obtain ⟨i,E,hl,gt,IJ,ho,hL,hn,hm,hz,ac⟩:=u8 Iv
  have rw:∀(b:Nat×Nat×Nat×Nat×Nat×Nat) (M:Nat) (V:Nat×Nat) (U:E9) (G:List E4) (f h:Nat) (n:Int×Nat) (r:List (Nat×Nat)) (J:List ai),dI m d J r->pR w.params G->ab (env w) (lG w.params s 1 y t u S C k g B h A n m o (kF w.params b S t g M V U G f) (p::d) d r J):=λb M V U G f h n r J hC IC=>DP w s y t u S C k g B A m o (p::d) d 1 b M V U G f h n r J F IC hC
  by_cases R:i.su=[]
  .exact av (have h0:i.su[0]? =none:=(by rw [R];rfl);λ_ D=> .view [] [0] _ _ _ _ (bw ho) (.seg 549772623873 λW=> .use _ (fK w s t 0 u cv (p::d) p X) [7,6] [] λx2 F=> .seg 0x7001009007007007007009009009 λv=> .use _ (kH w g none o (p.1) (p.2) m (i.a) hl) [6] [] λx4 h4=> .seg 0x1000009009009004000004000000001000000000004000000001000001000000000000000000000000004001000000000004009009009 λO=> .use _ (gn w (i.np.1) (-1:Int) (i.np.2) 1766 gt) [] [] λx6 h6=> .seg 0x1001005001005005004000004000000001000000000004000000001000001000000000000000000000000004001000000000004009004000004000000001000000000004000000001000001000000000000000004000004001000004001000000000004009000 λL=> .seg 68736258049 λO8=> .use _ (ch w (L 2) (i.sc) 0 (i.n) cv (i.su) h0) [0,4] [] λx9 h9=> .seg 0x100a00000900900000000000900100000000000900c001003 λIw=> .use _ (b8 w (n.1) 1 (n.2) (Iw 1) (n.1+1) rfl) [] [] λIu II=> .seg 0xa00a00a000009000000000009000009001000009001000000000009 λIF=> .pick _ _ ((ac 1769 E r (by rw [R];exact ⟨rfl,rfl⟩))) λJ q=>have N:List.Perm (ai.cells (aO (-2:Int) 1769 i)++aB E) (aB J):=(Fv q);have P:cI (bj I p.1) (aJ p.1 (aO (-2:Int) 1769) I) r J r:=(Fv (Fe q));have Q:dI m d J r:=(Fe (Fe q)); .view [7,1] [0] _ _ _ _ (aX N) (.use _ (rw (b.1,b.2.1,b.2.2,v 0,O 0,O 2) (i.a) p (Gf i.np.1 i.np.2) ([]) (f+1+1+1) h (n.1+1,Iu) r J Q (.inl rfl)) [6,6,3,5,4,3,3] [0] λl Z=>have Iz:ec d J r l.1.1 l.1.2.1:=(Fv Z);have IA:l.2.1=(n.1+1,Iu).1+(↑(Fl d):Int):=(Fe Z);D (((l.1.1,l.1.2.1,l.1.2.2),l.2.1,l.2.2)) ⟨⟨1769,J,_,P,Iz⟩,by rw [IA];simp;omega⟩ [0,0,0,0] [] [0])))
  .have IB:∀(b:Nat×Nat×Nat×Nat×Nat×Nat) (T f:Nat) (st:E9),ab (env w) (iJ w.params T 0 y t S C k g B h A n m o b i.a i.sc i.n p st [] f i.su i.su r E):=by
    intro b T f st
    obtain ⟨ID,su,e⟩:=Fy R
    rw [e]
    exact qO w T y t S C k g B A n m o b i.a i.sc i.n p st ID su f h r E hL hn (e▸hm) (e▸hz)
   exact av (λ_ D=> .view [] [0] _ _ _ _ (bw ho) (.seg 549772623873 λW=> .use _ (fK w s t 0 u cv (p::d) p X) [7,6] [] λx2 F=> .seg 0x7001009007007007007009009009 λv=> .use _ (kH w g none o (p.1) (p.2) m (i.a) hl) [6] [] λx4 h4=> .seg 0x1000009009009004000004000000001000000000004000000001000001000000000000000000000000004001000000000004009009009 λO=> .use _ (gn w (i.np.1) (-1:Int) (i.np.2) 1766 gt) [] [] λx6 h6=> .seg 0x1001005001005005004000004000000001000000000004000000001000001000000000000000000000000004001000000000004009004000004000000001000000000004000000001000001000000000000000004000004001000004001000000000004009000 λL=> .use _ (IB (b.1,b.2.1,b.2.2,v 0,O 0,O 2) (L 2) (f+1+1+1) (Gf i.np.1 i.np.2)) [6,6,1,5,4,4,0] [0] λx h8=> .seg 0x1002000001001000000000001001000000000001006 λO9=> .use _ (b8 w (n.1) 1 (n.2) (O9 1) (n.1+1) rfl) [] [] λIt IG=> .seg 0x2002002000001000000000001000001001000001001000000000001 λIE=> .pick _ _ (ac 1769 _ _ h8) λJ q=>have N:List.Perm (ai.cells (aO (-2:Int) 1769 i)++aB x.1.1) (aB J):=(Fv q);have P:cI (bj I p.1) (aJ p.1 (aO (-2:Int) 1769) I) r J x.1.2.1:=(Fv (Fe q));have Q:dI m d J x.1.2.1:=(Fe (Fe q)); .view [8,4] [0] _ _ _ _ (aX N) (.use _ (rw (b.1,b.2.1,b.2.2,v 0,O 0,O 2) (i.a) p (Gf i.np.1 i.np.2) (gW w.params x.2.1 x.2.2.1 x.2.2.2.1) (x.2.2.2.2) (x.1.2.2) (n.1+1,It) (x.1.2.1) J Q (by (first | exact Or.inl rfl | exact Or.inr ⟨_,_,_,rfl⟩))) [0,0,0,0,2,1,0] [0] λj Y=>have Ix:ec d J x.1.2.1 j.1.1 j.1.2.1:=(Fv Y);have Iy:j.2.1=(n.1+1,It).1+(↑(Fl d):Int):=(Fe Y);D (((j.1.1,j.1.2.1,j.1.2.2),j.2.1,j.2.2)) ⟨⟨1769,J,_,P,Ix⟩,by rw [Iy];simp;omega⟩ [0,0,0,0] [] [0])))
def sr (P:E6) (S s:Nat) (k:Nat×Nat×Nat×Nat) (n r g:Nat) (d b:Int×Nat) (m:List (Nat×Nat×Nat)) (e:Nat) (p f:List (Nat×Nat)) (I:List ai):af:={d:=30,α:=(List ai×List (Nat×Nat)×Nat)×Int×Nat,c:= .call (.ref 1196) ⟨.ref S::p.map cv,[]⟩,need:=[(S,bd s),(s,be P k n (.ref r) d b),(n,dO P (.type "dict") none .ref m e),(r,ae (f.map cv) g)],r:=λx=> .ok (.ret .none),put:=λy=>[bd s,be P k n (.ref r) d y.2,dO P (.type "dict") none .ref m e,ae (y.1.2.1.map cv) y.1.2.2],post:=λy=>ec p I f y.1.1 y.1.2.1/\y.2.1=b.1+p.length,needB:=[aB I],putB:=λy=>[aB y.1.1]}
theorem DM (w:E7) (S s:Nat) (k:Nat×Nat×Nat×Nat) (d g i:Nat) (f n:Int×Nat) (m:List (Nat×Nat×Nat)) (e:Nat) (p r:List (Nat×Nat)) (I:List ai) (C:dI m p I r) (h:p.length<=6):ab (env w) (sr w.params S s k d g i f n m e p r I):=by
 let b:∀{w:E7} {p:List (Nat×Nat)} {S s:Nat} {k:Nat×Nat×Nat×Nat} {d g i:Nat} {f n:Int×Nat} {m:List (Nat×Nat×Nat)} {e:Nat} {r:List (Nat×Nat)} {I:List ai} (C:dI m p I r),PP (env w) (sr w.params S s k d g i f n m e p r I):= @λw p S s k d g i f n m e r I C _ l=>
  .seg 0x1001002001002002001001001004000003003000000000003001000000000003001004000003003000000000003001000000000003001001001001001001000000001 λO=>
  .use _ (DN w (O 7) (O 1) (O 0) 0 S s k d g i f n m e (O 2,O 3,O 6) 3 (p) r I C) [3,3,3,3,2,0,0] [0] λx j=>have q:ec p I r x.1.1 x.1.2.1:=(Fv j);have t:x.2.1=n.1+(↑(Fl p):Int):=(Fe j);
  .seg 0 λo=>
  l (((x.1.1,x.1.2.1,x.1.2.2),x.2.1,x.2.2)) j [0,0,0,0] [] [0]
 rcases p with _ | ⟨u,p⟩
 .exact av (b C)
 rcases p with _ | ⟨v,p⟩
 .exact av (b C)
 rcases p with _ | ⟨y,p⟩
 .exact av (b C)
 rcases p with _ | ⟨A,p⟩
 .exact av (b C)
 rcases p with _ | ⟨B,p⟩
 .exact av (b C)
 rcases p with _ | ⟨D,p⟩
 .exact av (b C)
 rcases p with _ | ⟨E,p⟩
 .exact av (b C)
 .simp at h
def fx (b:List Nat) (k:Str):Bool:=b.any λc=>decide (k=⟨⟨[c]⟩⟩)
structure cx (w:E7) (o:Obj) (cs:List Nat):Prop where
 of:o.SetObjOf (sk w) (fx cs) cs.length
def bK (z:Array (Int×E9)×Nat×SetTable):Obj:={cls:= .type "set",data:= .set z.1 z.2.1 z.2.2}
theorem ye {w:E7} {o:Obj} {cs:List Nat} (h:cx w o cs):∃z,o=bK z:=by
 obtain ⟨⟨b,e,f⟩,es,i,t,g,_⟩:=h.of
 obtain ⟨c,d,j,s⟩:=o
 simp only at b e f g
 subst b;subst e;subst f;subst g
 exact ⟨(es,i,t),rfl⟩
theorem vF (b:List Nat) (c:Nat):fx b ⟨⟨[c]⟩⟩=decide (c∈b):=by
 unfold fx
 rw [Bool.eq_iff_iff]
 simp only [List.any_eq_true,decide_eq_true_eq]
 constructor
 .rintro ⟨d,f,e⟩
  injection e with e;injection e with e;injection e with e
  exact e▸f
 .intro h;exact ⟨c,h,rfl⟩
def nv (a:Nat) (o:Obj) (c t:Nat) (b:Bool):af:={d:=2,α:=Unit,c:= .builtin "set.__contains__" ⟨[.ref a, .str ⟨⟨[c]⟩⟩ t],[]⟩,need:=[(a,o)],r:=λ_=> .ok (.ret (.bool b)),put:=λ_=>[o]}
theorem ri (w:E7) (a:Nat) (o:Obj) (d:List Nat) (c t:Nat) (b:Bool) (j:cx w o d) (l:d.length<=1000) (h:decide (c∈d)=b):ab (env w) (nv a o c t b):=by
 refine aN λA s G k m P e=> ?_
 have g:s.heap.get? a=some o:=P.has (a,_) EZ
 show Fp _ _ (FK table (.builtin "set.__contains__" ⟨[.ref a, .str ⟨⟨[c]⟩⟩ t],[]⟩)) _ _ s
 rw [aE _ _ entry_set_contains]
 unfold Builtin.«frozenset.__contains__» Builtin.Frozenset.oneOther
 refine E1 ?_
 show Fp _ _ (Builtin.Frozenset.addrOf (.ref a)>>=λx=>pure (x,GR ⟨⟨[c]⟩⟩ t)) _ _ s
 refine E1 (E3 (E3 ?_))
 unfold Builtin.Frozenset.withSetAsKey setContains
 refine E1 (wpAny_tryCatch ?_)
 refine Gh (E1 ((sk w).pyHash (Gw pq w _ _) ?_))
 have f:Heap.SetOf (sk w) s.heap a (fx d) d.length:=j.of.setOf g (by unfold scanBound;omega)
 refine E1 (wpAny_setFind_of (s:={s with toks:=s.toks+1}) (knd:=sk w) (k:=⟨⟨[c]⟩⟩) (Gw pq w _ _) rfl f λr i=>E3 (E3 ?_))
 rw [i,vF,h]
 exact e () _ trivial ((ap.start P).toks _)
theorem lA (w:E7) (a:Nat) (z:Array (Int×E9)×Nat×SetTable) (b:List Nat) (c t:Nat) (e:cx w (bK z) b) (d:b.length<=1000) (h:c∈b):ab (env w) (nv a (bK z) c t true):=ri _ _ _ _ _ _ _ e d (by simp [h])
theorem lB (w:E7) (a:Nat) (z:Array (Int×E9)×Nat×SetTable) (b:List Nat) (c t:Nat) (e:cx w (bK z) b) (d:b.length<=1000) (h:¬c∈b):ab (env w) (nv a (bK z) c t false):=ri _ _ _ _ _ _ _ e d (by simp [h])
def yt (w:E7) (a:Nat) (z:Array (Int×E9)×Nat×SetTable) (d:List Nat) (c t:Nat):af:={d:=2,α:=Array (Int×E9)×Nat×SetTable,c:= .builtin "set.add" ⟨[.ref a, .str ⟨⟨[c]⟩⟩ t],[]⟩,need:=[(a,bK z)],r:=λ_=> .ok (.ret .none),put:=λb=>[bK b],post:=λb=>cx w (bK b) (c::d)}
theorem rj (w:E7) (a:Nat) (z:Array (Int×E9)×Nat×SetTable) (d:List Nat) (c t:Nat) (B:cx w (bK z) d) (E:d.length<=1000) (h:¬c∈d):ab (env w) (yt w a z d c t):=by
 refine aN λA s G D H P m=> ?_
 have u:s.heap.get? a=some (bK z):=P.has (a,_) EZ
 show Fp _ _ (FK table (.builtin "set.add" ⟨[.ref a, .str ⟨⟨[c]⟩⟩ t],[]⟩)) _ _ s
 rw [aE _ _ F.entry_set_add]
 unfold Builtin.«set.add» Builtin.Frozenset.oneOther
 refine E1 ?_
 show Fp _ _ (Builtin.Frozenset.addrOf (.ref a)>>=λx=>pure (x,GR ⟨⟨[c]⟩⟩ t)) _ _ s
 refine E1 (E3 (E3 ?_))
 unfold setAdd
 refine E1 (Gh (E1 ((sk w).pyHash (Gw pq w _ _) ?_)))
 have n:Heap.SetOf (sk w) s.heap a (fx d) d.length:=B.of.setOf u (by unfold scanBound;omega)
 refine wpAny_setAddHashed_of (s:={s with toks:=s.toks+1}) (knd:=sk w) (k:=⟨⟨[c]⟩⟩) (Gw pq w _ _) rfl n (by unfold scanBound;omega) λl i o=> ?_
 obtain ⟨I,v,g⟩:=o.objOf
 refine E3 ?_
 have e:(λk=>fx d k || decide (k=⟨⟨[c]⟩⟩))=fx (c::d):=by
  funext k
  unfold fx
  rw [List.any_cons,Bool.or_comm]
 have j:(if fx d ⟨⟨[c]⟩⟩=true then d.length else d.length+1)=(c::d).length:=by
  rw [vF];simp [h]
 rw [e,j] at g
 obtain ⟨C,rfl⟩:=ye (w:=w) (cs:=c::d) ⟨g⟩
 refine m C _ ⟨g⟩ ?_
 refine ⟨⟨rfl,rfl,rfl⟩,λb x p r=> ?_,λq f=> ?_,λq f=> ?_, ?_, ?_⟩
 .exact (i.2 b (λy=>r (by rw [y];exact EZ))).trans p
 .rcases GP.mp f with rfl | f
  .exact v
  .cases f
 .rcases GP.mp f with rfl | f
  .exact .inl EZ
  .cases f
 .exact GO.mpr ⟨λy=>(nomatch y),Gt⟩
 .show s.heap.objs.size<=l.objs.size
  rw [i.1];exact FM _
theorem yf (w:E7) (l:Bool):cx w (bK (#[],0, .fresh 0 0 l)) []:=by
 refine ⟨?_⟩
 have e:fx []=λ_=>false:=rfl
 rw [e]
 exact setObjOf_fresh l
section
variable {γ:Type}
def nD (g:γ->E9) (l n:Nat) (b:List γ) (x:γ):af:={d:=1,α:=Nat,c:= .builtin "list.pop" ⟨[.ref l],[]⟩,need:=[(l,ae ((b++[x]).map g) n)],r:=λ_=> .ok (.ret (g x)),put:=λe=>[ae (b.map g) e],anyH:=true}
theorem z5 (g:γ->E9) (w:E7) (l n:Nat) (b:List γ) (x:γ) (p:b.length<=100000):ab (env w) (nD g l n b x):=by
 refine q9 λA s G o P m=> ?_
 have h:s.heap.get? l=some (ae ((b++[x]).map g) n):=P.has (l,_) EZ
 show Fp _ _ (FK table (.builtin "list.pop" ⟨[.ref l],[]⟩)) _ _ s
 rw [aE _ _ F.entry_list_pop]
 show Fp _ _ (Fw (.ref l)>>=_) _ _ s
 unfold Fw
 refine E1 (E1 (FL h rfl (E3 ?_)))
 rw [if_neg (by simp)]
 have i:(seqIndex? (-1) ((b++[x]).map g).toArray.size).bind (λk=>(((b++[x]).map g).toArray)[k]?.map (k, ·))=some (b.length,g x):=by
  unfold seqIndex?
  simp only [show ((-1:Int)< 0) from by decide,if_true]
  rw [if_pos (by simp;omega),Option.bind_some]
  have j:((-1:Int)+((((b++[x]).map g).toArray.size:Nat):Int)).toNat=b.length:=by simp;omega
  rw [j,Ft,Fi]
  simp
 simp only [i]
 have e:FH (λa=>a.eraseIdxIfInBounds b.length) (ae ((b++[x]).map g) n)=ae (b.map g) (if (b.map g).length=((b++[x]).map g).length then n else n+1):=e9 (by simp [List.eraseIdx_append_of_length_le])
 refine E1 (GT h rfl ?_ (by simp [Gu];omega) (by simp [Gu,Array.eraseIdxIfInBounds,List.length_eraseIdx];omega))
 refine E3 ?_
 have f:=(ap.start P).set (FH λa=>a.eraseIdxIfInBounds b.length) (by exact EZ) (by show (FH (λa=>a.eraseIdxIfInBounds b.length) (ae ((b++[x]).map g) n)).isFreed=false;rw [e];rfl)
 have d:ap s {s with heap:=s.heap.update l (FH λa=>a.eraseIdxIfInBounds b.length)} (nD g l n b x).own [(l,FH (λa=>a.eraseIdxIfInBounds b.length) (ae ((b++[x]).map g) n))]:=f
 rw [e] at d
 exact m _ _ trivial d
theorem BY (g:γ->E9) (w:E7) (l n:Nat) (b:List γ) (t:Nat) (x:γ) (j:b.length<=100000):ab (env w) (r5 g l b n t x):=by
 refine aN λA s G i m P h=> ?_
 have f:s.heap.get? l=some (ae ((b++[x]).map g) n):=P.has (l,_) EZ
 have hk:∃k:Int,k= -1:=⟨-1,rfl⟩
 obtain ⟨k,hk⟩:=hk
 show Fp _ _ (FK table (.builtin "list.__getitem__" ⟨[.ref l, .int (-1) t],[]⟩)) _ _ s
 rw [<-hk,aE _ _ F.entry_list_getitem]
 show Fp _ _ (GF (.int k t)>>=_) _ _ s
 refine E1 (wpAny_listSubscript_int (by rw [hk];decide) ?_)
 subst hk
 show Fp _ _ ((Fw (.ref l)>>=_)>>=_) _ _ s
 unfold Fw
 refine E1 (E1 (E1 (FL f rfl (E3 ?_))))
 have e:(seqIndex? (-1) ((b++[x]).map g).toArray.size).bind (λk=>(((b++[x]).map g).toArray)[k]?.map (k, ·))=some (b.length,g x):=by
  unfold seqIndex?
  simp only [show ((-1:Int)< 0) from by decide,if_true]
  rw [if_pos (by simp;omega),Option.bind_some]
  have d:((-1:Int)+((((b++[x]).map g).toArray.size:Nat):Int)).toNat=b.length:=by simp;omega
  rw [d,Ft,Fi]
  simp
 simp only [e]
 refine E3 (E3 ?_)
 exact h () _ trivial (ap.start P)
end
structure aF where
 env:Env
 a:Addr
 o:Obj
 sl:Array (Option E9)
def aF.cell (x:aF):dR:=(x.a,{x.o with slots:=x.sl})
def a8 (L:List aF):ao:=L.map aF.cell
def du (L:List aF):List Env:=L.map (·.env)
def aC (L:List aF):List (Env×Addr×Obj):=L.map λx=>(x.env,x.a,x.o)
structure mG (x:aF):Prop where
 frame:x.env.frame=some x.a
 kind:x.env.scope.kind≠ .module
 live:x.o.isFreed=false
theorem tU {o:Obj} {e} (h:o.isFreed=false):({o with slots:=e}:Obj).isFreed=false:=by
 obtain ⟨c,d,b,s⟩:=o
 cases b<;>first | rfl | exact h
def iC (t b:Nat):Obj:={cls:= .type "StopIteration",data:= .fields (#[.ref t, .ref b, .none, .none, .bool false, .none]++ownMembersOf (.type "StopIteration") [])}
def f1 (f:Nat) (b:E9) (p:E9×E9×E9×E9×E9×E9):Obj:={cls:= .type "traceback",data:= .fields #[.none, .ref f, .none,b, .none,p.1,p.2.1,p.2.2.1,p.2.2.2.1,p.2.2.2.2.1,p.2.2.2.2.2]}
section
variable {w:E7} {A:Around} {E:E9->Fc->Prop}
def tD (x:aF) (v:E9):Array (Option E9):= #[some x.env.code,some (.ref x.env.globals),x.sl.getD 2 none,some v,x.sl.getD 4 none,x.env.func.map Fq,some (.ref x.env.builtins)]++(x.env.cells.map λc=>some (.ref c.2)).toArray
theorem vP {j:Fc} {own:List Addr}:∀(L:List aF) {s:Fc} {rest:ao} {Q:Unit->Fc->Prop},(∀x∈L,mG x)->(∀x∈L,x.a∈own)->ap j s own (a8 L++rest)->
 (∀e d,aC d=aC L->ap j e own (a8 d++rest)->Q () e)->Fp (FQ pq w) A (readyFrames (du L)) Q E s
 | [],s,rest,Q,_,_,h,f=>E3 (f s [] rfl h)
 | x::L,s,rest,Q,hk,l,h,f=>by
  have k:=hk x EZ
  have n:s.heap.get? x.a=some {x.o with slots:=x.sl}:=h.has x.cell EZ
  show Fp _ _ (readyFrames (x.env::du L)) _ _ _
  unfold readyFrames
  simp only [k.frame]
  refine E1 (wpAny_load n ?_)
  by_cases m:(x.sl.getD 3 none).isSome=true
  .rw [if_pos m]
   exact E3 (f s (x::L) rfl h)
  .rw [if_neg m]
   have t:∀{Q:Bool->Fc->Prop},Q false s->Fp (FQ pq w) A (behindIsImport x.env (du L)) Q E s:=λg=>by
    unfold behindIsImport
    rw [if_pos (by simp [k.kind])]
    exact E3 g
   refine E1 (t ?_)
   have C:∀{Q:E9->Fc->Prop},(∀v,Q v s)->Fp (FQ pq w) A (keptBack x.env false (du L)) Q E s:=λg=>by
    cases L with
    | nil=>exact wpAny_keptBack_nil g
    | cons y L=>exact E3 (g _)
   refine E1 (C λv=> ?_)
   have p:=ap.upd (a:=x.a) (o:={x.o with slots:=x.sl}) (r:=a8 L++rest) h (λo=>{o with slots:= #[some x.env.code,some (.ref x.env.globals),o.slots.getD 2 none,some v,o.slots.getD 4 none,x.env.func.map Fq,some (.ref x.env.builtins)]++(x.env.cells.map λc=>some (.ref c.2)).toArray}) (λb y _ u z=>u (z▸l x EZ)) (tU (tU k.live))
   refine E1 (wpAny_update n ?_)
   refine vP L (rest:=(x.a,{x.o with slots:=_})::rest) (λy i=>hk y (E2 _ i)) (λy i=>l y (E2 _ i)) (p.perm List.perm_middle.symm) λe d B q=> ?_
   have r:ap j e own (a8 d++aF.cell ⟨x.env,x.a,x.o,tD x v⟩::rest):=q
   refine f e (⟨x.env,x.a,x.o,tD x v⟩::d) ?_ (r.perm List.perm_middle)
   show _::aC d=_::aC L
   rw [B]
theorem EJ {g s:Fc} {own:List Addr} {rest:ao} {x0:aF} {L:List aF} {e t:Nat} {Q:Unit->Fc->Prop} (H:A.frames=some (du (x0::L))) (hk:∀x∈x0::L,mG x) (M:∀x∈x0::L,x.a∈own)
 (J:∀b y,g.heap.get? b=some y->b∉own->b≠e) (h:ap g s own ((e,cK t)::(a8 (x0::L)++rest)))
 (C:∀m f n p,aC f=aC (x0::L)->ap g m own ((n,f1 x0.a (FT x0.a) p)::(e,iC t n)::(a8 f++rest))->Q () m):Fp (FQ pq w) A (HS (.ref e) x0.env) Q E s:=by
 have k:=hk x0 EZ
 have G:s.heap.get? e=some (cK t):=h.has (e,_) EZ
 unfold HS
 simp only [k.frame]
 refine E1 (FY G rfl (x:= .none) rfl ?_)
 rw [if_neg (by decide)]
 unfold frameOf
 refine E1 (E1 (wpAny_frameEnvs H ?_))
 have F:((du (x0::L)).dropWhile λx=>x.frame !=x0.env.frame)=du (x0::L):=by simp [du]
 rw [F]
 show Fp _ _ ((readyFrames (du (x0::L))>>=λ_=>pure (x0.env.frame.map Fq))>>=_) _ _ _
 refine E1 (E1 (vP (x0::L) (rest:=(e,cK t)::rest) hk M (h.perm List.perm_middle.symm) λi f O o=>E3 ?_))
 rw [k.frame]
 refine E3 ?_
 refine E1 (wpAny_entryPlaceOf λl N=> ?_)
 obtain ⟨p,hp⟩:∃p:E9×E9×E9×E9×E9×E9,(if l.isEmpty then FV 6 FW else l)=[p.1,p.2.1,p.2.2.1,p.2.2.2.1,p.2.2.2.2.1,p.2.2.2.2.2]:=by
  rcases N with rfl | ⟨a,b,c,d,B,u,_,rfl⟩
  .exact ⟨(.none, .none, .none, .none, .none, .none),rfl⟩
  .exact ⟨(FT a,FT b,FT c,FT d,B, .bool u),rfl⟩
 unfold EntryCells.newEntry HT
 rw [hp]
 refine E1 (Ge ?_ (by size_fits))
 have q:=(o.push (f1 x0.a (FT x0.a) p) rfl)
 have j:ap g _ own ((e,cK t)::((i.heap.objs.size,f1 x0.a (FT x0.a) p)::(a8 f++rest))):=q.perm ((List.Perm.cons _ List.perm_middle).trans (.swap ..))
 have r:=j.upd (F7 λv=>v.setIfInBounds 1 (.ref i.heap.objs.size)) (λb y D I=>J b y D I) rfl
 refine F8 (j.has (e,_) EZ) rfl (by simp;omega) ?_
 exact C _ f i.heap.objs.size p O (r.perm (.swap ..))
end
structure Go (kt:Nat->Option Obj) (s0:Fc) (own:List Addr) (s:Fc) (all:ao):Prop where
 inv:a9 kt s0.heap own s.heap all
 same:cZ s0 s
section
variable {kt:Nat->Option Obj} {s0 s s':Fc} {own:List Addr} {all all':ao}
theorem Go.start (P:d4 kt all s):Go kt s (keys all) s all:=⟨a9.start P,cZ.refl s⟩
theorem Go.pre (G:Go kt s0 own s all):d4 kt all s:=a9.pre (r:=[]) (by rw [FJ];exact G.inv)
theorem Go.perm (G:Go kt s0 own s all) (p:all.Perm all'):Go kt s0 own s all':=⟨G.inv.perm p,G.same⟩
theorem Go.step (G:Go kt s0 own s all) (A:ap s s' (keys all) all'):Go kt s0 own s' all':=
 ⟨by have:=a9.rule (r:=[]) (by rw [FJ];exact G.inv) A;rw [FJ] at this;exact this,G.same.trans A.same⟩
theorem Go.after (G:Go kt s0 own s all):ap s0 s own all:=G.inv.after G.same
end
def ax (e:bu) (T:af) (t:Sem Gn):Prop:=
 ∀(d:Ctx),d.handled=none->(∀es,T.outer=some es->envsOf d.below=es)->dQ T.d d->∀(p:Pos) (s:Fc) (F:HF->Fc->Prop),d4 e.kt T.all s->
  (∀x b,T.post x->ap s b T.own (T.res x)->F (T.r x) b)->
  wp (FQ pq e.w) d t (λfin p b=>ca e.kt b.heap/\finPost (FQ pq e.w) d F fin p b) (λv _ b=>ca e.kt b.heap/\F (.error v) b) p s
theorem qw {e:bu} {T:af} (t:Sem Gn) (b:bV e T) (h:(∀B c p,dP ⟨e.D,⟨pq,e.w.params⟩,e.kt,B,none,T.d⟩ b (.run c p .base t T.need) T.needB)=(∀B c p,eg ⟨e.D,⟨pq,e.w.params⟩,e.kt,B,none,T.d⟩ b (.run c p .base t T.need) T.needB)):ax e T t:=
 λj g d i p s F P f=>qu t b h j g d i p s F P f
theorem ax.flow {e:bu} {T:af} {t:Sem Flow} (h:ax e T (t>>=λf=>pure (.done f))) (d:Ctx) (m:d.handled=none) (j:∀es,T.outer=some es->envsOf d.below=es) (n:dQ T.d d) (p:Pos) (s:Fc) {Q:Flow->Pos->Fc->Prop} {E:E9->Pos->Fc->Prop}
 (P:d4 e.kt T.all s) (k:∀x b p f,T.post x->ap s b T.own (T.res x)->T.r x= .ok f->Q f p b) (l:∀x b p v,T.post x->ap s b T.own (T.res x)->T.r x= .error v->E v p b):wp (FQ pq e.w) d t Q E p s:=by
 have q:=h d m j n p s (λr b=>∀p,match r with | .ok f=>Q f p b | .error v=>E v p b) P (λx b i A p=>by
  cases g:T.r x with
  | ok f=>exact k x b p f i A g
  | error v=>exact l x b p v i A g)
 rw [E5] at q
 exact Fs _ _ _ (λv p s h=>h.2 p) (λv p s h=>h.2 p) _ _ q
theorem n7:∀L:List aF,du L=(aC L).map (·.1)
 | []=>rfl
 | x::L=>by show x.env::du L=x.env::(aC L).map (·.1);rw [n7 L]
structure cn (x:Env×Addr×Obj):Prop where
 frame:x.1.frame=some x.2.1
 kind:x.1.scope.kind≠ .module
 live:x.2.2.isFreed=false
theorem Aa {L:List aF} {S:List (Env×Addr×Obj)} (e:aC L=S) (h:∀x∈S,cn x):∀x∈L,mG x:=λx b=>by
 subst e
 have k:=h (x.env,x.a,x.o) (Gj.mpr ⟨x,b,rfl⟩)
 exact ⟨k.frame,k.kind,k.live⟩
theorem Go.stepR {kt:Nat->Option Obj} {e s d:Fc} {own:List Addr} {U r b:ao} (G:Go kt e own s (U++r)) (A:ap s d (keys U) b):Go kt e own d (b++r):=⟨a9.rule G.inv A,G.same.trans A.same⟩
theorem Go.sub {kt:Nat->Option Obj} {b s:Fc} {own:List Addr} {U r:ao} (G:Go kt b own s (U++r)):Go kt b own s U:=⟨G.inv.sub,G.same⟩
abbrev P6:=E9×E9×E9×E9×E9×E9
theorem w6 (b:Sem Flow) (h:ExceptHandler) (g:List ExceptHandler) (d:Env):tryStmt false b (h::g) (Hb [] d) [] d=(b.attempt>>=λr=>match r with
 | .ok .next=>Hb [] d
 | .ok f=>pure f
 | .error e=>HS e d>>=λ_=>(setFlight e none>>=λ_=>handleBy e d (h::g))):=by
 unfold tryStmt
 rw [if_pos (show ([]:List Stmt).isEmpty=true from rfl)]
 refine congrArg (b.attempt>>= ·) (funext λr=> ?_)
 cases r with
 | error e=>rfl
 | ok f=>cases f<;>rfl
theorem w7 {e:bu} {T A B:af} {C:B.α->List aF->Nat->P6->af} {N:∀x L t p,(C x L t p).α->af} {D:Expr} {m:List Stmt} {H:List Stmt} {q:ExceptHandler} {r:List ExceptHandler} {u:Pos} {g:Env} {rw:E9->Sem Unit} {ex tx:B.α->Nat} {x0:aF} {Lo:List aF} {rest:B.α->ao} {junk:∀x L t p,(C x L t p).α->ao}
 (Iu:FK table T.c=(whileTurn D [.Try m (q::r) [] [] u] H g).onRaise rw) (U:T.c= .whileLoop D [.Try m (q::r) [] [] u] H g)
 (gt:x0.env=g) (Ix:T.outer=some (g::du Lo)) (Iv:∀x∈x0::Lo,mG x) (hH:T.anyH=false)
 (hA:ax e A ((isTrue D g (eval D g)>>=λb=>pure (.ret (.bool b)))>>=λf=>pure (.done f))) (rA:∀x,A.r x= .ok (.ret (.bool true))) (dA:A.d<=T.d) (oA:A.outer=none) (pA:A.all=T.all) (qA:∀x,A.post x->(A.res x).Perm B.all)
 (hB:ax e B (Hb m g>>=λf=>pure (.done f))) (rB:∀x,B.r x= .error (.ref (ex x))) (dB:B.d<=T.d) (oB:B.outer=none) (qB:∀x,B.post x->(B.res x).Perm ((ex x,cK (tx x))::(a8 (x0::Lo)++rest x)))
 (hC:∀x L t p,B.post x->aC L=aC (x0::Lo)->ax e (C x L t p) ((setFlight (.ref (ex x)) none>>=λ_=>handleBy (.ref (ex x)) g (q::r))>>=λf=>pure (.done f))) (rC:∀x L t p z,(C x L t p).r z= .ok .next) (dC:∀x L t p,(C x L t p).d<=T.d) (oC:∀x L t p,(C x L t p).outer=none)
 (pC:∀x L t p,B.post x->aC L=aC (x0::Lo)->((t,f1 x0.a (FT x0.a) p)::(ex x,iC (tx x) t)::(a8 L++rest x)).Perm (C x L t p).all)
 (qC:∀x L t p z,B.post x->aC L=aC (x0::Lo)->(C x L t p).post z->((C x L t p).res z).Perm ((N x L t p z).all++junk x L t p z))
 (hN:∀x L t p z,B.post x->aC L=aC (x0::Lo)->(C x L t p).post z->ab e (N x L t p z)) (cN:∀x L t p z,(N x L t p z).c=T.c) (dN:∀x L t p z,(N x L t p z).d<=T.d) (oN:∀x L t p z es,aC L=aC (x0::Lo)->(N x L t p z).outer=some es->es=g::du Lo)
 (rN:∀x L t p z y,B.post x->aC L=aC (x0::Lo)->(C x L t p).post z->(N x L t p z).post y->∃v,T.post v/\T.r v=(N x L t p z).r y/\((N x L t p z).res y).Perm (T.res v)):ab e T:=by
 intro j R E hE O p s io It hF
 have E:j.handled=none:=E.resolve_left (by rw [hH];exact Fg)
 have ac:=hE _ Ix
 have V:∀{S:af},S.outer=none->∀es,S.outer=some es->envsOf j.below=es:=λh es M=>by rw [h] at M;cases M
 have X:∀{S:af},S.d<=T.d->dQ S.d j:=λh=>⟨by have:=O.cnt;omega,by have:=O.units;omega⟩
 rw [F1,R]
 show wp _ _ (FK table T.c) _ _ p s
 rw [Iu,Gs]
 unfold whileTurn
 rw [E5]
 have J:Go e.kt s T.own s T.all:=Go.start It
 have J:Go e.kt s T.own s A.all:=by rw [pA];exact J
 have qt:=hA.flow j E (V oA) (X dA) p s J.pre (Q:=λf Y w=>∃x,A.post x/\ap s w A.own (A.res x)/\f= .ret (.bool true)) (E:=λ_ _ _=>False)
  (λx w Y f n I d=>by rw [rA] at d;cases d;exact ⟨x,n,I,rfl⟩) (λx w Y v n I d=>by rw [rA] at d;cases d)
 rw [E5] at qt
 refine Fs _ _ _ (λb Y w h=> ?_) (λ_ _ _ h=>h.elim) _ _ qt
 obtain ⟨xa,Iz,I,Q⟩:∃x,A.post x/\ap s w A.own (A.res x)/\Flow.ret (.bool b)= .ret (.bool true):=h
 cases Q
 have G1:=(J.step I).perm (qA xa Iz)
 rw [if_pos rfl]
 rw [E5,Ip,E5,arm_exec_Try,E5]
 show wp _ _ (tryStmt false (Hb m g) (q::r) (Hb [] g) [] g) _ _ u w
 rw [w6,E5,Sem.wp_attempt]
 refine hB.flow j E (V oB) (X dB) u w G1.pre (λx s2 Z f n A2 d=>by rw [rB] at d;cases d) (λx s2 Z v n A2 d=> ?_)
 rw [rB] at d;cases d
 have G2:=(G1.step A2).perm (qB x n)
 show wp _ _ (HS (.ref (ex x)) g>>=_) _ _ Z s2
 rw [E5]
 have P2:=G2.pre
 have Iy:∀y∈x0::Lo,y.a∈keys ((ex x,cK (tx x))::(a8 (x0::Lo)++rest x)):=λy W=>Gj.mpr ⟨y.cell,E2 _ (F3 _ (Fa W)),rfl⟩
 have Iw:∀l,some (du (x0::Lo))=some l->j.code.envs++envsOf j.below=l:=λl G=>by
  cases G
  rw [R,U,ac,<-gt];rfl
 have nf:=EJ (w:=e.w) (A:={ia j with frames:=some (du (x0::Lo))}) (E:=λ_ _=>False) (e:=ex x) (t:=tx x) (x0:=x0) (L:=Lo) (rest:=rest x) (own:=keys ((ex x,cK (tx x))::(a8 (x0::Lo)++rest x))) rfl Iv Iy
  (λb y _ Q z=>Q (z▸EZ)) (ap.start P2) (Q:=λ_ P=>∃i m k,aC i=aC (x0::Lo)/\ap s2 P (keys ((ex x,cK (tx x))::(a8 (x0::Lo)++rest x))) ((m,f1 x0.a (FT x0.a) k)::(ex x,iC (tx x) m)::(a8 i++rest x)))
  (λs' i m k h1 M=>⟨i,m,k,h1,M⟩) j Z ⟨rfl,FM _,Iw,λl h=>(nomatch h),FM _⟩
 rw [gt] at nf
 refine Fs _ _ _ (λ_ p3 P h=> ?_) (λ_ _ _ h=>h.elim) _ _ nf
 obtain ⟨i,o,k,F,A3⟩:=h
 have G3:=(G2.step A3).perm (pC x i o k n F)
 show wp _ _ (setFlight (.ref (ex x)) none>>=λ_=>handleBy (.ref (ex x)) g (q::r)) _ _ p3 P
 refine (hC x i o k n F).flow j E (V (oC ..)) (X (dC ..)) p3 P G3.pre (λz s4 p4 f G A4 d=> ?_) (λz s4 p4 v G A4 d=>by rw [rC] at d;cases d)
 rw [rC] at d;cases d
 have G4:=(G3.step A4).perm (qC x i o k z n F G)
 show finPost _ _ _ (.again (.whileLoop D [.Try m (q::r) [] [] u] H g)) p4 s4
 have IA:j.code= .whileLoop D [.Try m (q::r) [] [] u] H g:=R.trans U
 have hn:=hN x i o k z n F G (j.goto (.whileLoop D [.Try m (q::r) [] [] u] H g)) ((U.symm.trans (cN x i o k z).symm)) (.inr E) (λes he=>by rw [oN x i o k z es F he];exact ac) ⟨by have:=O.cnt;have:=dN x i o k z;show cF j.below+_<=_;omega,by have:=O.units;have:=dN x i o k z;show HR j.below+_<=_;omega⟩ p4 s4 io G4.sub.pre (λy s5 W A5=> ?_)
 .exact ⟨rfl,hn⟩
 .obtain ⟨v,hv,d,hp⟩:=rN x i o k z y n F G W
  rw [<-d]
  exact hF v s5 hv ((G4.stepR A5).perm (hp.append_right _)).sub.after
theorem pf {d:Type} (i:List Nat) {A B:List (List d)} (h:take i B A (· =[])):A.flatten.Perm B.flatten:=by
 obtain ⟨r,p,b⟩:=bW h
 subst b
 rw [FJ] at p
 exact p.flatten
def py {e:bu} {T:af} (t:Sem Gn) (b:PP e T) (P:E6):Prop:=∀B c p,dP ⟨e.D,⟨pq,P⟩,e.kt,B,none,T.d⟩ (b T .fin) (.run c p .base t T.need) T.needB
def mV {e:bu} {T:af} (t:Sem Gn) (b:PP e T) (P:E6):Prop:=∀B c p,eg ⟨e.D,⟨pq,P⟩,e.kt,B,none,T.d⟩ (b T .fin) (.run c p .base t T.need) T.needB
theorem tk {e:bu} {T:af} (t:Sem Gn) (b:PP e T) (h:py t b e.w.params=mV t b e.w.params:=by kernel_rfl):ax e T t:=qw t (b T .fin) h
theorem tY {b:Type} (g:b->E9) (w:E7) (l n:Nat) (d:List b) (x:b) (h:d.length<=100000):ab (env w) (nD g l n d x):=z5 _ _ _ _ _ _ h
theorem tZ {b:Type} (g:b->E9) (w:E7) (l n:Nat) (d:List b) (t:Nat) (x:b) (h:d.length<=100000):ab (env w) (r5 g l d n t x):=BY _ _ _ _ _ _ _ h
abbrev K7:=Nat×Nat×Nat×Nat×Nat×Nat×Nat
abbrev SL:=Array (Option E9)
def pa (P:E6) (k:K7) (S n st i s nd:Nat) (x:Nat×Nat) (e:Nat):Obj:=
 bD [es P [115,101,108,102] k.1 (.ref S),es P [110,50,105] k.2.1 (.ref n),es P [115,116,97,99,107] k.2.2.1 (.ref st),es P [105,116,115,116,97,99,107] k.2.2.2.1 (.ref i),es P [115,101,101,110] k.2.2.2.2.1 (.ref s),es P [110,111,100,101,50,115,116,97,99,107,105] k.2.2.2.2.2.1 (.ref nd),es P [110,111,100,101] k.2.2.2.2.2.2 (cv x)] e
def bv (es:List E4) (e:Nat) (s:SL):Obj:={cls:= .type "frame",data:= .dict es.toArray e,slots:=s}
def gu (P:E6) (k:K7) (S n st i s nd:Nat) (x:Nat×Nat) (e:Nat) (b:SL):Obj:=
 bv [es P [115,101,108,102] k.1 (.ref S),es P [110,50,105] k.2.1 (.ref n),es P [115,116,97,99,107] k.2.2.1 (.ref st),es P [105,116,115,116,97,99,107] k.2.2.2.1 (.ref i),es P [115,101,101,110] k.2.2.2.2.1 (.ref s),es P [110,111,100,101,50,115,116,97,99,107,105] k.2.2.2.2.2.1 (.ref nd),es P [110,111,100,101] k.2.2.2.2.2.2 (cv x)] e b
def dD (P:E6) (f:Nat):Env:=dY (gT P) 1203 f
def Ej (P:E6) (i f:Nat):Code:=bR (aA (cX (gT P)) 5) (.ref i) (dD P f)
def DW (P:E6) (f:Nat):Code:=qa (aA (aY (aA (cX (gT P)) 5)) 1) (dD P f)
def iV (P:E6):Stmt:=aA (aY (aA (aY (aA (cX (gT P)) 5)) 1)) 1
def iU (P:E6) (f:Nat):Code:=qa (iV P) (dD P f)
def qn (s:Stmt):Expr:=(sP s).2.1
def uE (s:Stmt):ExceptHandler:=(sP s).2.2.2.2.1.headD (.ExceptHandler none none [] default)
def sX (s:Stmt):Pos:=(sP s).2.2.2.2.2.1
def Bk (i:Nat):Obj:={cls:= .type "method-wrapper",data:= .fields #[.builtin "list_iterator.__next__", .ref i]}
def dX (m b s i:Nat):ao:=[(m,Bk b),(b,aW "list_iterator" s i)]
def mv (P:E6) (b:Nat) (k:K7) (S n st i s nd sn t:Nat) (x:Nat×Nat) (f:Nat) (h:List (Nat×Nat)) (d:List Nat) (m:List (Nat×Nat×Int×Nat)) (e:Nat) (g:SL):ao:=[(b,gu P k S n st i s nd x f g),(st,ae (h.map cv) sn),(i,ae (d.map .ref) t),(nd,dO P (.type "dict") none iv m e)]
def kI (P:E6) (k:K7) (S n st i s nd sn t:Nat) (x:Nat×Nat) (f:Nat) (g:List (Nat×Nat)) (b:List Nat) (m:List (Nat×Nat×Int×Nat)) (e:Nat) (d:SL):List Obj:=[gu P k S n st i s nd x f d,ae (g.map cv) sn,ae (b.map .ref) t,dO P (.type "dict") none iv m e]
def fg (P:E6) (f:Nat) (k:K7) (S n st i s nd sn t:Nat) (x:Nat×Nat) (g:Nat) (p:List (Nat×Nat)) (j:List Nat) (m:List (Nat×Nat×Int×Nat)) (e:Nat) (F:ao) (I:List ai) (o:SL) (L:List aF) (b:List (Env×Addr×Obj)) (r:Flow) (y:Nat×Nat) (q:List (Nat×Nat)) (l:List Nat) (h:List (Nat×Nat×Int×Nat)) (d:ao):af:={d:=12,α:=(Nat×Nat×Nat×Nat)×SL×List aF,c:=iU P f,need:=mv P f k S n st i s nd sn t x g p j m e o,r:=λx=> .ok r,put:=λz=>kI P k S n st i s nd z.1.1 z.1.2.1 y z.1.2.2.1 q l h z.1.2.2.2 z.2.1,post:=λz=>aC z.2.2=b,needB:=[aB I,F,a8 L],putB:=λz=>[aB I,d,a8 z.2.2],outer:=some (dD P f::b.map (·.1))}
def iu (P:E6):Stmt:=aA (aY (iV P)) 0
def yI (P:E6) (b:Nat) (k:K7) (S n st i s nd sn t:Nat) (x:Nat×Nat) (f:Nat) (h:List (Nat×Nat)) (d:List Nat) (m:List (Nat×Nat×Int×Nat)) (e:Nat) (F:ao) (I:List ai) (g:SL) (L:List aF):af:={d:=12,α:=Unit,c:=iU P b,need:=mv P b k S n st i s nd sn t x f h d m e g,r:=λx=> .ok (.ret (.bool true)),put:=λz=>kI P k S n st i s nd sn t x f h d m e g,needB:=[aB I,F,a8 L],putB:=λz=>[aB I,F,a8 L]}
def yH (P:E6) (b:Nat) (k:K7) (S n st i s nd sn t:Nat) (x:Nat×Nat) (f:Nat) (h:List (Nat×Nat)) (d:List Nat) (m:List (Nat×Nat×Int×Nat)) (e:Nat) (F j:ao) (I:List ai) (g:SL) (L:List aF):af:={d:=12,α:=Nat×Nat,c:=iU P b,need:=mv P b k S n st i s nd sn t x f h d m e g,r:=λx=> .error (.ref x.1),put:=λz=>kI P k S n st i s nd sn t x f h d m e g,new:=λx=>[(x.1,cK x.2)],needB:=[aB I,F,a8 L],putB:=λz=>[aB I,j,a8 L]}
def yG (P:E6) (f:Nat) (k:K7) (S n st i s nd sn q:Nat) (x:Nat×Nat) (l:Nat) (g:List (Nat×Nat)) (b:List Nat) (m:List (Nat×Nat×Int×Nat)) (j:Nat) (F:ao) (I:List ai) (d:SL) (L:List aF) (c:Nat×Nat) (o e t h:Nat) (p:P6):af:={d:=12,α:=Nat×Nat×Nat×Nat,c:=iU P f,need:=[(f,gu P k S n st i s nd x l d),(st,ae ((g++[c]).map cv) sn),(i,ae ((b++[o]).map .ref) q),(nd,dO P (.type "dict") none iv m j),(e,iC t h),(h,f1 f (FT f) p)],put:=λz=>kI P k S n st i s nd z.1 z.2.1 x z.2.2.1 g b (dZ m c.1) z.2.2.2 d,needB:=[aB I,F,a8 L],putB:=λz=>[aB I,F,a8 L]}
theorem zY (P:E6) (f:Nat):FK table (iU P f)=(whileTurn (qn (iV P)) [.Try (aY (iu P)) (uE (iu P)::[]) [] [] (sX (iu P))] (cw (iV P)) (dD P f)).onRaise (λx=>do HS x (dD P f);Hd x):=by kernel_rfl
theorem zZ (P:E6) (f:Nat):iU P f= .whileLoop (qn (iV P)) [.Try (aY (iu P)) (uE (iu P)::[]) [] [] (sX (iu P))] (cw (iV P)) (dD P f):=by kernel_rfl
theorem Ek (P:E6) (f:Nat) (o:Obj) (h:o.isFreed=false):cn (dD P f,f,o):=⟨rfl,(by
 show (cW (gT P)).scope.kind≠ .module
 have:(cW (gT P)).scope.kind= .function:=by kernel_rfl
 rw [this];exact λz=>nomatch z),h⟩
def ra (L:List aF):SL:=match L with | y::_=>y.sl | []=> #[]
theorem zX (w:E7) (f:Nat) (k:K7) (S n st b h nd sn j:Nat) (x:Nat×Nat) (e:Nat) (d:List (Nat×Nat)) (g:List Nat) (m:List (Nat×Nat×Int×Nat)) (o:Nat) (H F:ao) (I:List ai) (B:SL) (l:List aF) (v:List (Env×Addr×Obj)) (c:Nat×Nat) (ac:Int×Nat) (u Y i:Nat) (gt:ao) (E:ai)
 (io:E.su[i]? =none) (X:(aB I).Perm (E.cells++gt)) (hf:H.Perm (dX u Y E.sc i++F)) (hv:look? m c.1=some ac) (Iu:d.length+1<=1000) (Iv:g.length<=1000) (It:m.length<=1000) (J:aC l=v) (bo:∀x∈v,cn x)
 (r:Flow) (y:Nat×Nat) (U:List (Nat×Nat)) (T:List Nat) (R:List (Nat×Nat×Int×Nat)) (N:ao)
 (ih:∀(sn j e o:Nat) (B:SL) (l:List aF),aC l=v->ab (env w) (fg w.params f k S n st b h nd sn j x e d g (dZ m c.1) o F I B l v r y U T R N)):
 ab (env w) (fg w.params f k S n st b h nd sn j x e (d++[c]) (g++[u]) m o H I B l v r y U T R N):=by
 have rw:(d++[c]).length=d.length+1:=by simp
 let P:=w.params
 let x0:aF:=⟨dD P f,f,pa P k S n st b h nd x e,B⟩
 have Z:∀L,aC L=aC (x0::l)->∃s C,L=⟨dD P f,f,pa P k S n st b h nd x e,s⟩::C/\aC C=v:=λL A=>by
  cases L with
  | nil=>cases A
  | cons z L=>
   obtain ⟨ze,za,zo,zs⟩:=z
   obtain ⟨h1,D⟩:=List.cons.inj A
   cases h1
   exact ⟨zs,L,rfl,D.trans J⟩
 refine w7 (A:=yI P f k S n st b h nd sn j x e (d++[c]) (g++[u]) m o H I B l) (B:=yH P f k S n st b h nd sn j x e (d++[c]) (g++[u]) m o H F I B l)
  (C:=λz L t p=>yG P f k S n st b h nd sn j x e d g m o F I (ra L) L.tail c u z.1 z.2 t p)
  (N:=λz L t p q=>fg P f k S n st b h nd q.1 q.2.1 x q.2.2.1 d g (dZ m c.1) q.2.2.2 F I (ra L) L.tail v r y U T R N)
  (ex:=λz=>z.1) (tx:=λz=>z.2) (x0:=x0) (Lo:=l) (rest:=λz=>[[(st,ae ((d++[c]).map cv) sn)],[(b,ae ((g++[u]).map .ref) j)],[(nd,dO P (.type "dict") none iv m o)],aB I,F].flatten) (junk:=λ_ _ _ _ _=>[])
  (zY P f) (zZ P f) rfl ?_ ?_ rfl ?_ (λ_=>rfl) (FM _) rfl rfl (λ_ _=> .refl _) ?_ (λ_=>rfl) (FM _) rfl ?_ ?_ (λ_ _ _ _ _=>rfl) (λ_ _ _ _=>FM _) (λ_ _ _ _=>rfl) ?_ ?_ ?_ (λ_ _ _ _ _=>rfl) (λ_ _ _ _ _=>FM _) ?_ ?_
 .show some (dD P f::v.map (·.1))=_;rw [n7,J]
 .exact Aa (S:=(dD P f,f,pa P k S n st b h nd x e)::v) (by show _::aC l=_;rw [J]) (λz Q=>by
   rcases GP.mp Q with rfl | Q
   .exact Ek P f _ rfl
   .exact bo z Q)
 .exact tk _ (λ_ G=> .seg 33562625 λO=> .use _ (dv cv w st sn (d++[c]) (Fl d+1) rw (by omega)) [1] [] λV D=> .seg 0 λW=>G () trivial [1,0,0,0] [] [0,0,0])
 .exact tk _ (λ_ G=> .view [] [0] _ _ _ _ (bw X) (.view [] [1] _ _ _ _ (bw hf) (.seg 0x7001007007007001001005 λO=> .use _ (tZ Fq w b j g (O 1) u (by omega)) [6] [] λV D=> .seg 33558530 λW=> .use _ (ch w Y (E.sc) i (E.n) cv (E.su) io) [2,3] [] λM h4=> .seg 0 λO5=> .view [6,1] [1] _ _ _ _ (aX X.symm) (G (M.2,M.1) trivial [5,5,3,4] [1] [0,0,0]))))
 .intro z _
  exact pf (A:=[[(f,gu P k S n st b h nd x e B)],[(st,ae ((d++[c]).map cv) sn)],[(b,ae ((g++[u]).map .ref) j)],[(nd,dO P (.type "dict") none iv m o)],[(z.1,cK z.2)],aB I,F,a8 l])
   (B:=[[(z.1,cK z.2)],[(f,gu P k S n st b h nd x e B)],a8 l,[(st,ae ((d++[c]).map cv) sn)],[(b,ae ((g++[u]).map .ref) j)],[(nd,dO P (.type "dict") none iv m o)],aB I,F]) [4,0,5,0,0,0,0,0] ⟨rfl,rfl,rfl,rfl,rfl,rfl,rfl,rfl,rfl⟩
 .intro z L t p _ A
  exact tk _ (λ_ G=> .seg 0x2001002002002002001001006006005001005000000001006006005 λO=> .use _ (tY cv w st sn d c (by omega)) [1] [] λV D=> .seg 274894700548 λW=> .use _ (DY w nd none o (c.1) (c.2) m ac hv It) [3] [] λM h4=> .seg 0x4001004004004004003 λO5=> .use _ (tY Fq w b j g u (by omega)) [3] [] λx6 h6=> .seg 1 λO7=>G (V,x6,e,M) trivial [3,2,0,0] [] [0,0,0])
 .intro z L t p _ A
  obtain ⟨s,C,rfl,_⟩:=Z L A
  exact pf (A:=[[(t,f1 f (FT f) p)],[(z.1,iC z.2 t)],[(f,gu P k S n st b h nd x e s)],a8 C,[(st,ae ((d++[c]).map cv) sn)],[(b,ae ((g++[u]).map .ref) j)],[(nd,dO P (.type "dict") none iv m o)],aB I,F])
   (B:=[[(f,gu P k S n st b h nd x e s)],[(st,ae ((d++[c]).map cv) sn)],[(b,ae ((g++[u]).map .ref) j)],[(nd,dO P (.type "dict") none iv m o)],[(z.1,iC z.2 t)],[(t,f1 f (FT f) p)],aB I,F,a8 C]) [2,3,3,3,1,0,1,1,0] ⟨rfl,rfl,rfl,rfl,rfl,rfl,rfl,rfl,rfl,rfl⟩
 .intro z L t p q _ A _
  rw [FJ]
  exact .refl _
 .intro z L t p q _ A _
  obtain ⟨s,C,rfl,D⟩:=Z L A
  exact ih q.1 q.2.1 q.2.2.1 q.2.2.2 s C D
 .intro z L t p q es A he
  cases he
  show dD P f::v.map (·.1)=_
  rw [n7,J]
 .intro z L t p q y2 _ A _ hy
  exact ⟨y2,hy,rfl, .refl _⟩
structure SF where
 c:Nat×Nat
 v:Int×Nat
 mw:Nat
 it:Nat
 sc:Nat
 i:Nat
def bO:List SF->List (Nat×Nat)
 | []=>[]
 | f::r=>bO r++[f.c]
def b7:List SF->List Nat
 | []=>[]
 | f::r=>b7 r++[f.mw]
def mF:List SF->List (Nat×Nat×Int×Nat)
 | []=>[]
 | f::r=>mF r++[(f.c.1,f.c.2,f.v)]
def ck:List SF->ao
 | []=>[]
 | f::r=>dX f.mw f.it f.sc f.i++ck r
theorem m9:∀r,(bO r).length=r.length
 | []=>rfl
 | f::r=>by simp [bO,m9 r]
theorem oy:∀r,(b7 r).length=r.length
 | []=>rfl
 | f::r=>by simp [b7,oy r]
theorem oH:∀r,(mF r).length=r.length
 | []=>rfl
 | f::r=>by simp [mF,oH r]
theorem oI:∀r:List SF,∀x∈mF r,∃f∈r,f.c.1=x.1
 | [],_,h=>nomatch h
 | f::r,x,h=>by
  rcases GB.mp h with h | h
  .obtain ⟨g,b,e⟩:=oI r x h
   exact ⟨g,E2 _ b,e⟩
  .simp only [Gb] at h
   exact ⟨f,EZ,by rw [h]⟩
theorem vm {b:Type}:∀{m:List (Nat×Nat×b)} {c t:Nat} {v:b} {m2:List (Nat×Nat×b)},(∀x∈m,x.1≠c)->dZ (m++(c,t,v)::m2) c=m++m2
 | [],_,_,_,_,_=>by simp [dZ]
 | (k,u,x)::m,c,t,v,m2,h=>by
  rw [H4,dZ,if_neg (h (k,u,x) EZ),vm λy d=>h y (E2 _ d)]
  rfl
theorem lO {b:Type}:∀{m:List (Nat×Nat×b)} {c t:Nat} {v:b},(∀x∈m,x.1≠c)->aw m c t v=m++[(c,t,v)]
 | [],_,_,_,_=>rfl
 | (k,u,x)::m,c,t,v,h=>by
  rw [aw,if_neg (h (k,u,x) EZ),lO λy d=>h y (E2 _ d)]
  rfl
def ig (I:List ai) (f:SF):Prop:=∃i∈I,i.node.1=f.c.1/\i.sc=f.sc
def cP (I:List ai):List SF->Option ((Nat×Nat)×List SF)
 | []=>none
 | f::r=>match (bj I f.c.1)[f.i]? with
  | some y=>some (y,{f with i:=f.i+1}::r)
  | none=>cP I r
theorem yd {I:List ai} (g:(am I).Nodup) {f:SF} (h:ig I f):∃(b:ai) (R:ao),bj I f.c.1=b.su/\b.sc=f.sc/\(aB I).Perm (b.cells++R):=by
 obtain ⟨i,d,e,j⟩:=h
 have:=jM g d
 rw [e] at this
 obtain ⟨k,l,rfl⟩:=Hs d
 exact ⟨i,_,this,j,hU ..⟩
section
variable (w:E7) (fr:Nat) (k:K7) (S n2i st is se nd:Nat) (x:Nat×Nat) (I:List ai) (SS:List (Env×Addr×Obj)) (hn:(am I).Nodup) (bo:∀x∈SS,cn x)
include hn bo
theorem sZ (r:Flow) (y:Nat×Nat) (d:List SF):∀(b:List SF) (sn t i h:Nat) (s:SL) (L:List aF),(match cP I b with | some q=>q=(y,d)/\r= .next | none=>d=[]/\y=x/\r= .brk)->aC L=SS->(∀f∈b,ig I f)->(b.map (·.c.1)).Nodup->b.length<=900->
 ab (env w) (fg w.params fr k S n2i st is se nd sn t x i (bO b) (b7 b) (mF b) h (ck b) I s L SS r y (bO d) (b7 d) (mF d) (ck d))
 | [],sn,t,i,h,s,L,hp,m,p,n,A=>by
  obtain ⟨rfl,rfl,rfl⟩:=hp
  exact ct (λ_ v=> .seg 137472512001 λD=> .use _ (dv cv w st sn ([]) 0 rfl (by trivial)) [1] [] λN G=> .seg 0 λO=>v (((sn,t,i,h),s,L)) m [1,0,0,0] [] [0,0,0])
 | f::b,sn,t,i,h,s,L,hp,m,p,n,A=>by
  obtain ⟨l,R,C,B,u⟩:=yd hn (p f EZ)
  rw [Fu,GO] at n
  have hk:∀z∈mF b,z.1≠f.c.1:=λz M q=>by
   obtain ⟨g,o,e⟩:=oI b z M
   exact n.1 (by rw [<-q,<-e];exact Fa (f:=λf:SF=>f.c.1) o)
  have X:=m9 b
  have Y:=oy b
  have Z:=oH b
  simp only [Fb] at A
  unfold cP at hp
  cases j:(bj I f.c.1)[f.i]? with
  | some y'=>
   rw [j] at hp
   obtain ⟨hp,rfl⟩:=hp
   cases hp
   rw [C] at j
   show ab (env w) (fg w.params fr k S n2i st is se nd sn t x i (bO b++[f.c]) (b7 b++[f.mw]) (mF (f::b)) h (dX f.mw f.it f.sc f.i++ck b) I s L SS .next y (bO b++[f.c]) (b7 b++[f.mw]) (mF (f::b)) (dX f.mw f.it f.sc (f.i+1)++ck b))
   rw [<-B]
   exact ct (have J:((bO b)++[f.c]).length=(bO b:List (Nat×Nat)).length+1:=(by simp);have V:(bO b:List (Nat×Nat)).length+1<=1000:=(by omega);have W:(b7 b:List Nat).length<=1000:=(by omega);λ_ v=> .view [] [0] _ _ _ _ (bw u) (.view [] [1] _ _ _ _ (bw (.refl _:(_:ao).Perm (dX f.mw f.it l.sc f.i++(ck b)))) (.seg 412417544193 λD=> .use _ (dv cv w st sn ((bO b)++[f.c]) (Fl (bO b)+1) J (by omega)) [5] [] λN G=> .seg 0x7001007007007001001006 λO=> .use _ (tZ Fq w is t (b7 b) (O 1) f.mw (by omega)) [6] [] λx4 T=> .seg 50335747 λP=> .use _ (cr w f.it (l.sc) f.i (l.n) cv (l.su) y j) [3,4] [] λx6 U=> .seg 28679 λQ=> .view [5,1] [1] _ _ _ _ (aX u.symm) (.view [3,0] [1] _ _ _ _ (aX (.refl _:(dX f.mw f.it l.sc (f.i+1)++(ck b)).Perm (_:ao))) (v (((sn,t,i,h),s,L)) m [2,1,0,0] [] [1,0,0])))))
  | none=>
   rw [j] at hp
   rw [C] at j
   have E:dZ (mF (f::b)) f.c.1=mF b:=(vm (m2:=[]) hk).trans (FJ _)
   have F:look? (mF (f::b)) f.c.1=some f.v:=l0 (m2:=[]) hk
   refine zX w fr k S n2i st is se nd sn t x i (bO b) (b7 b) (mF (f::b)) h (dX f.mw f.it f.sc f.i++ck b) (ck b) I s L SS f.c f.v f.mw f.it f.i R l j u (by rw [B]) F (by omega) (by omega) (by simp [mF];omega) m bo r y (bO d) (b7 d) (mF d) (ck d) λsn t i h s L H=> ?_
   rw [E]
   exact sZ r y d b sn t i h s L hp H (λg o=>p g (E2 _ o)) n.2 (by omega)
end
abbrev SZ:=Array (Int×E9)×Nat×SetTable
def gN (w:E7) (f:Nat) (k:K7) (S n d st i s nd sn t:Nat) (x:Nat×Nat) (g:Nat) (l:List (Nat×Nat)) (h:List Nat) (m:List (Nat×Nat×Int×Nat)) (e:Nat) (F:ao) (I:List ai) (o:List Nat) (z:SZ) (j:SL) (L:List aF) (b:List (Env×Addr×Obj)):af:={d:=40,α:=(Nat×Nat×Nat×Nat×(Nat×Nat))×SL×List aF×SZ×List Nat,c:=DW w.params f,need:=mv w.params f k S n st i s nd sn t x g l h m e j++[(s,bK z),(n,dO w.params (.type "dict") none .ref (ay I) d)],put:=λq=>kI w.params k S n st i s nd q.1.1 q.1.2.1 q.1.2.2.2.2 q.1.2.2.1 [] [] [] q.1.2.2.2.1 q.2.1++[bK q.2.2.2.1,dO w.params (.type "dict") none .ref (ay I) d],post:=λq=>aC q.2.2.1=b/\cx w (bK q.2.2.2.1) q.2.2.2.2/\q.2.2.2.2.Nodup/\(∀c∈q.2.2.2.2,c∈am I),needB:=[aB I,F,a8 L],putB:=λq=>[aB I,a8 q.2.2.1],outer:=some (dD w.params f::b.map (·.1))}
theorem kB:∀{l m:List Nat},l.Nodup->(∀x∈l,x∈m)->l.length<=m.length
 | [],m,_,_=>Gg _
 | x::l,m,h,b=>by
  rw [GO] at h
  have d:=b x EZ
  have:=kB (l:=l) (m:=m.erase x) h.2 λy f=>(List.mem_erase_of_ne (a:=y) (b:=x) (λe=>h.1 (e▸f))).mpr (b y (E2 _ f))
  have g:=List.length_erase_of_mem d
  have hp:0< m.length:=List.length_pos_of_mem d
  simp only [Fb]
  omega
def fq (I:List ai) (r:List SF):Nat:=(r.map λf=>(bj I f.c.1).length-f.i).sum
def fY (I:List ai) (b:List Nat):Nat:=(I.map λi=>if i.node.1∈b then 0 else i.su.length+1).sum
theorem qi {b:List Nat} {c:Nat} (j:c∉b):∀{I:List ai},(am I).Nodup->(c∉am I->fY I (c::b)=fY I b)/\(c∈am I->fY I (c::b)+(bj I c).length+1=fY I b)
 | [],_=>⟨λ_=>rfl,λh=>nomatch h⟩
 | i::I,d=>by
  unfold am at d
  rw [Fu,GO] at d
  obtain ⟨g,k⟩:=qi j (I:=I) d.2
  have e:∀b,fY (i::I) b=(if i.node.1∈b then 0 else i.su.length+1)+fY I b:=λb=>by simp [fY]
  rw [e,e]
  by_cases q:i.node.1=c
  .have hk:c∉am I:=q▸d.1
   have f:bj (i::I) c=i.su:=by unfold bj;rw [List.find?_cons_of_pos (by simpa using q)];rfl
   refine ⟨λh=>(h (by rw [<-q];exact EZ)).elim,λ_=> ?_⟩
   rw [g hk,f,if_pos (by rw [q];exact EZ),if_neg (by rw [q];exact j)]
   omega
  .have f:bj (i::I) c=bj I c:=by unfold bj;rw [HP (by simpa using q)]
   have l:(i.node.1∈c::b)=(i.node.1∈b):=by simp [q]
   rw [f]
   simp only [l]
   refine ⟨λh=> ?_,λh=> ?_⟩
   .rw [g λz=>h (E2 _ z)]
   .rcases GP.mp (show c∈i.node.1::am I from h) with z | z
    .exact (q z.symm).elim
    .have:=k z
     omega
theorem j8 {I:List ai} {y:Nat×Nat} {e:List SF}:∀{r:List SF},cP I r=some (y,e)->∃a f b,r=a++f::b/\e={f with i:=f.i+1}::b/\y∈bj I f.c.1/\fq I e+1<=fq I r
 | [],h=>nomatch h
 | f::r,h=>by
  unfold cP at h
  cases d:(bj I f.c.1)[f.i]? with
  | some z=>
   rw [d] at h
   cases h
   refine ⟨[],f,r,rfl,rfl,Fz d, ?_⟩
   obtain ⟨k,_⟩:=E8.mp d
   unfold fq
   simp only [Fu,List.sum_cons]
   omega
  | none=>
   rw [d] at h
   obtain ⟨a,g,b,rfl,rfl,i,j⟩:=j8 h
   refine ⟨f::a,g,b,rfl,rfl,i, ?_⟩
   have:fq I (f::(a++g::b))=((bj I f.c.1).length-f.i)+fq I (a++g::b):=by simp [fq]
   omega
def fH (r:Nat->Nat) (I:List ai):Prop:=∀i∈I,∀s∈i.su,r i.node.1< r s.1/\s.1∈am I
theorem EQ {r:Nat->Nat} {I:List ai} (h:fH r I) {c:Nat} {y:Nat×Nat} (b:y∈bj I c):r c< r y.1/\y.1∈am I:=by
 unfold bj at b
 cases d:I.find? λi=>i.node.1==c with
 | none=>rw [d] at b;cases b
 | some i=>
  rw [d] at b
  have e:i.node.1=c:=by simpa using List.find?_some d
  rw [<-e]
  exact h i (List.mem_of_find?_eq_some d) y b
structure eF (rk:Nat->Nat) (I:List ai) (r:List SF) (x:Nat×Nat) (cs:List Nat):Prop where
 fin:∀f∈r,ig I f
 srt:r.Pairwise λf g=>rk g.c.1< rk f.c.1
 lt:∀f∈r,rk f.c.1< rk x.1
 xk:x.1∈am I
 nd:cs.Nodup
 sub:∀c∈cs,c∈am I
section
variable {rk:Nat->Nat} {I:List ai} {r:List SF} {x:Nat×Nat} {cs:List Nat}
theorem jO:∀{r:List SF},r.Pairwise (λf g=>rk g.c.1< rk f.c.1)->(r.map (·.c.1)).Nodup
 | [],_=>Gt
 | f::r,h=>by
  rw [List.pairwise_cons] at h
  rw [Fu,GO]
  refine ⟨λd=> ?_,jO h.2⟩
  obtain ⟨g,b,e⟩:=Gj.mp d
  have:=h.1 g b
  rw [e] at this
  exact Nat.lt_irrefl _ this
theorem Dv {f:SF} (h:ig I f):f.c.1∈am I:=by
 obtain ⟨i,b,e,_⟩:=h
 rw [<-e];exact Fa (f:=λi:ai=>i.node.1) b
theorem Dt (h:∀f∈r,ig I f) (e:(r.map (·.c.1)).Nodup):r.length<=I.length:=by
 have:=kB (m:=am I) e λc b=>by
  obtain ⟨f,d,rfl⟩:=Gj.mp b
  exact Dv (h f d)
 simpa [am] using this
theorem eF.len (h:eF rk I r x cs):r.length<=I.length:=Dt h.fin (jO h.srt)
theorem eF.csl (h:eF rk I r x cs):cs.length<=I.length:=by
 have:=kB (m:=am I) h.nd h.sub
 simpa [am] using this
theorem tS {m:List (Nat×Nat×Int×Nat)} {c:Nat} (h:∀z∈m,z.1≠c):look? m c=none:=by
 induction m with
 | nil=>rfl
 | cons z m i=>
  obtain ⟨k,u,v⟩:=z
  rw [look?,if_neg (h (k,u,v) EZ)]
  exact i λy b=>h y (E2 _ b)
theorem eF.keys (h:eF rk I r x cs):∀z∈mF r,z.1≠x.1:=λz g e=>by
 obtain ⟨f,d,b⟩:=oI r z g
 have:=h.lt f d
 rw [b,e] at this
 exact Nat.lt_irrefl _ this
theorem eF.next (A:fH rk I) (j:∀f∈r,ig I f) (o:r.Pairwise λf g=>rk g.c.1< rk f.c.1) (m:cs.Nodup) (p:∀c∈cs,c∈am I) {y:Nat×Nat} {k:List SF} (h:cP I r=some (y,k)):eF rk I k y cs:=by
 obtain ⟨a,f,b,rfl,rfl,q,_⟩:=j8 h
 obtain ⟨i,l⟩:=EQ A q
 have e:=(List.pairwise_append.mp o).2.1
 rw [List.pairwise_cons] at e
 refine ⟨λg d=> ?_, ?_,λg d=> ?_,l,m,p⟩
 .rcases GP.mp d with rfl | d
  .exact j f (FF _ EZ)
  .exact j g (FF _ (E2 _ d))
 .rw [List.pairwise_cons]
  exact e
 .rcases GP.mp d with rfl | d
  .exact i
  .exact Nat.lt_trans (e.1 g d) i
end
section
variable (w:E7) (fr:Nat) (k:K7) (S n2i ne st is se nd:Nat) (I:List ai) (SS:List (Env×Addr×Obj)) (rk:Nat->Nat) (hn:(am I).Nodup) (bo:∀x∈SS,cn x) (A:fH rk I) (hI:I.length<=800)
include hn bo A hI
theorem DX:∀(n:Nat) (r:List SF) (x:Nat×Nat) (d:List Nat) (z:SZ) (sn t g f:Nat) (s:SL) (L:List aF),fq I r+fY I d<=n->eF rk I r x d->cx w (bK z) d->aC L=SS->
 ab (env w) (gN w fr k S n2i ne st is se nd sn t x g (bO r) (b7 r) (mF r) f (ck r) I d z s L SS):=by
 let I8:∀(w:E7) (fr:Nat) (k:K7) (S n2i ne st is se nd sn t:Nat) (x:Nat×Nat) (g:Nat) (l:List (Nat×Nat)) (B:List Nat) (m:List (Nat×Nat×Int×Nat)) (f:Nat) (F:ao) (I:List ai) (d:List Nat) (z:SZ) (s:SL) (L:List aF) (SS:List (Env×Addr×Obj)) (o:aC L=SS) (v:cx w (bK z) d) (Y:d.Nodup) (Z:∀c∈d,c∈am I) (G:d.length<=1000) (H:bU m x.1=false) (y:Nat×Nat) (W:List (Nat×Nat)) (U:List Nat) (T:List (Nat×Nat×Int×Nat)) (P:ao) (p:x.1∈d) (hp:∀(sn t g f:Nat) (s:SL) (L:List aF),aC L=SS->ab (env w) (fg w.params fr k S n2i st is se nd sn t x g l B m f F I s L SS .next y W U T P)) (ih:∀(sn t g f:Nat) (s:SL) (L:List aF),aC L=SS->ab (env w) (gN w fr k S n2i ne st is se nd sn t y g W U T f P I d z s L SS)),PP (env w) (gN w fr k S n2i ne st is se nd sn t x g l B m f F I d z s L SS):= @λw fr k S n2i ne st is se nd sn t x g l B m f F I d z s L SS o v Y Z G H y W U T P p hp ih _ X=>
  .seg 0x5001005005001001001 λO1=>
  .use _ (lA w se z d (x.1) (x.2) v G p) [4] [] λx2 h2=>
  .seg 0x5001005005002002 λO3=>
  .use _ (uH w nd (Fx "dict") none f (x.1) (x.2) m Bool.false H) [4] [] λx4 h4=>
  .seg 0 λO5=>
  .use _ (hp sn t g f s L o) [2,2,2,0] [0,0,0] λD h6=>
  .seg 0 λO=>
  .use _ (ih (D.1.1) (D.1.2.1) (D.1.2.2.1) (D.1.2.2.2) (D.2.1) (D.2.2) h6) [0,0,0,0,0,0] [0,0,0] λN Q=>have Jf:aC N.2.2.1=SS:=(Fv Q);have Jg:cx w (bK N.2.2.2.1) N.2.2.2.2:=(Fv (Fe Q));have Jh:List.Nodup N.2.2.2.2:=(Fv (Fe (Fe Q)));have Ji:∀(c:Nat),c∈N.2.2.2.2->c∈am I:=(Fe (Fe (Fe Q)));
  X (N) Q [0,0,0,0,0,0] [] [0,0]
 let I7:∀(w:E7) (fr:Nat) (k:K7) (S n2i ne st is se nd sn t:Nat) (x:Nat×Nat) (g:Nat) (l:List (Nat×Nat)) (B:List Nat) (m:List (Nat×Nat×Int×Nat)) (f:Nat) (F:ao) (I:List ai) (d:List Nat) (z:SZ) (s:SL) (L:List aF) (SS:List (Env×Addr×Obj)) (o:aC L=SS) (v:cx w (bK z) d) (Y:d.Nodup) (Z:∀c∈d,c∈am I) (G:d.length<=1000) (H:bU m x.1=false) (p:¬x.1∈d) (h:ai) (R:ao) (M:look? (ay I) x.1=some h.a) (J:(aB I).Perm (h.cells++R)) (Iw:x.1∈am I) (IA:l.length<=1000) (IB:B.length<=1000) (Iu:m.length<=1000) (hp:∀(sn t g f b i u:Nat) (s:SL) (L:List aF),aC L=SS->ab (env w) (fg w.params fr k S n2i st is se nd sn t x g (l++[(x.1,x.2)]) (B++[b]) (aw m x.1 x.2 ((l.length:Nat),u)) f (dX b i h.sc 0++F) I s L SS .brk x [] [] [] [])),PP (env w) (gN w fr k S n2i ne st is se nd sn t x g l B m f F I d z s L SS):= @λw fr k S n2i ne st is se nd sn t x g l B m f F I d z s L SS o v Y Z G H p h R M J Iw IA IB Iu hp _ X=>
  .view [] [0] _ _ _ _ (bw J)
  (.seg 0x7001007007003003001 λO1=>
  .use _ (lB w se z d (x.1) (x.2) v G p) [6] [] λx2 h2=>
  .seg 0x1001004001001001001004 λO3=>
  .use _ (rj w se z d (x.1) (x.2) v G p) [0] [] λx4 h4=>
  .seg 0x8001008008008004004000000006006006006004 λO5=>
  .use _ (dW w n2i (Fx "dict") none ne (x.1) (x.2) (ay I) (h.a) M) [7] [] λD h6=>
  .seg 0x9001001001001001001001001001001001001001001004001004004001001001003000003000000001000000000003000000001000001000000000000000000000000003001000000000003 λO=>
  .use _ (oL w is t B (O 3) (by omega)) [8] [] λN Q=>
  .seg 68853694464 λO9=>
  .use _ (dv cv w st sn l (Fl l) rfl (by omega)) [8] [] λac IY=>
  .seg 0xa00100a00a009009 λIT=>
  .use _ (f6 w nd none f (x.1) (x.2) m ((↑(Fl l):Int)) ac Iu) [9] [] λIG IZ=>
  .seg 0x200100a00200200200200a λIU=>
  .use _ (dw w st sn l (x.1,x.2) (by omega)) [1] [] λI9 I0=>
  .seg 0 λIV=>
  .view [7,7] [0] _ _ _ _ (aX J.symm)
  (.view [3,3] [1] _ _ _ _ ((aX (List.Perm.refl (dX (O 3) (O 1) h.sc 0++F))))
  (.use _ (hp (sn+1) (t+1) g IG (O 3) (O 1) ac s L o) [5,0,1,0] [1,0,0] λE Ix=>
  .seg 0 λIW=>
  X (((E.1.1,E.1.2.1,E.1.2.2.1,E.1.2.2.2,x),E.2.1,E.2.2,x4,x.1::d)) ⟨Ix,h4,GO.mpr ⟨p,Y⟩,λc hc=>(GP.mp hc).elim (λe=>e▸Iw) (Z c)⟩ [0,0,0,0,1,0] [] [0,1])))
 let IS:∀(w:E7) (fr:Nat) (k:K7) (S n2i ne st is se nd sn t:Nat) (x:Nat×Nat) (g:Nat) (l:List (Nat×Nat)) (B:List Nat) (m:List (Nat×Nat×Int×Nat)) (f:Nat) (F:ao) (I:List ai) (d:List Nat) (z:SZ) (s:SL) (L:List aF) (SS:List (Env×Addr×Obj)) (o:aC L=SS) (v:cx w (bK z) d) (Y:d.Nodup) (Z:∀c∈d,c∈am I) (G:d.length<=1000) (H:bU m x.1=false) (y:Nat×Nat) (W:List (Nat×Nat)) (U:Nat->List Nat) (T:Nat->List (Nat×Nat×Int×Nat)) (P:Nat->Nat->ao) (p:¬x.1∈d) (h:ai) (R:ao) (M:look? (ay I) x.1=some h.a) (J:(aB I).Perm (h.cells++R)) (Iw:x.1∈am I) (IA:l.length<=1000) (IB:B.length<=1000) (Iu:m.length<=1000) (hp:∀(sn t g f b i u:Nat) (s:SL) (L:List aF),aC L=SS->ab (env w) (fg w.params fr k S n2i st is se nd sn t x g (l++[(x.1,x.2)]) (B++[b]) (aw m x.1 x.2 ((l.length:Nat),u)) f (dX b i h.sc 0++F) I s L SS .next y W (U b) (T u) (P b i))) (ih:∀(sn t g f b i u:Nat) (s:SL) (L:List aF) (z:SZ),cx w (bK z) (x.1::d)->aC L=SS->ab (env w) (gN w fr k S n2i ne st is se nd sn t y g W (U b) (T u) f (P b i) I (x.1::d) z s L SS)),PP (env w) (gN w fr k S n2i ne st is se nd sn t x g l B m f F I d z s L SS):= @λw fr k S n2i ne st is se nd sn t x g l B m f F I d z s L SS o v Y Z G H y W U T P p h R M J Iw IA IB Iu hp ih _ X=>
  .view [] [0] _ _ _ _ (bw J)
  (.seg 0x7001007007003003001 λO1=>
  .use _ (lB w se z d (x.1) (x.2) v G p) [6] [] λx2 h2=>
  .seg 0x1001004001001001001004 λO3=>
  .use _ (rj w se z d (x.1) (x.2) v G p) [0] [] λx4 h4=>
  .seg 0x8001008008008004004000000006006006006004 λO5=>
  .use _ (dW w n2i (Fx "dict") none ne (x.1) (x.2) (ay I) (h.a) M) [7] [] λD h6=>
  .seg 0x9001001001001001001001001001001001001001001004001004004001001001003000003000000001000000000003000000001000001000000000000000000000000003001000000000003 λO=>
  .use _ (oL w is t B (O 3) (by omega)) [8] [] λN Q=>
  .seg 68853694464 λO9=>
  .use _ (dv cv w st sn l (Fl l) rfl (by omega)) [8] [] λac IY=>
  .seg 0xa00100a00a009009 λIT=>
  .use _ (f6 w nd none f (x.1) (x.2) m ((↑(Fl l):Int)) ac Iu) [9] [] λIG IZ=>
  .seg 0x200100a00200200200200a λIU=>
  .use _ (dw w st sn l (x.1,x.2) (by omega)) [1] [] λI9 I0=>
  .seg 0 λIV=>
  .view [7,7] [0] _ _ _ _ (aX J.symm)
  (.view [3,3] [1] _ _ _ _ ((aX (List.Perm.refl (dX (O 3) (O 1) h.sc 0++F))))
  (.use _ (hp (sn+1) (t+1) g IG (O 3) (O 1) ac s L o) [5,0,1,0] [1,0,0] λE Ix=>
  .seg 0 λIW=>
  .use _ (ih (E.1.1) (E.1.2.1) (E.1.2.2.1) (E.1.2.2.2) (O 3) (O 1) ac (E.2.1) (E.2.2) x4 h4 Ix) [0,0,0,0,1,0] [0,0,0] λgt It=>have Ja:aC gt.2.2.1=SS:=(Fv It);have Jb:cx w (bK gt.2.2.2.1) gt.2.2.2.2:=(Fv (Fe It));have Jc:List.Nodup gt.2.2.2.2:=(Fv (Fe (Fe It)));have Je:∀(c:Nat),c∈gt.2.2.2.2->c∈am I:=(Fe (Fe (Fe It)));
  X (gt) It [0,0,0,0,0,0] [] [0,0])))
 intro n
 induction n using Nat.strongRecOn with
 | ind n IH=>
 intro r x d z sn t g f s L Jk C v o
 have Jl:=C.len
 have Jj:=C.csl
 have H:bU (mF r) x.1=false:=by unfold bU;rw [tS C.keys];rfl
 have l1:=m9 r
 have l2:=oy r
 have l3:=oH r
 have pl:=λ(V:List SF) (y:Nat×Nat) (q:Flow) (j:List SF)=>sZ w fr k S n2i st is se nd x I SS hn bo q y j V
 have hN:∀{V:List SF} {y:Nat×Nat} {j:List SF},cP I V=some (y,j)->(match cP I V with | some q=>q=(y,j)/\Flow.next= .next | none=>j=[]/\y=x/\Flow.next= .brk):=λrw=>by rw [rw];exact ⟨rfl,rfl⟩
 have hB:∀{V:List SF},cP I V=none->(match cP I V with | some q=>q=(x,[])/\Flow.brk= .next | none=>([]:List SF)=[]/\x=x/\Flow.brk= .brk):=λrw=>by rw [rw];exact ⟨rfl,rfl,rfl⟩
 by_cases p:x.1∈d
 .cases hp:cP I r with
  | none=>
   exact ct (have I3:∀(sn t g f:Nat) (s:SL) (L:List aF),aC L=SS->ab (env w) (fg w.params fr k S n2i st is se nd sn t x g (bO r) (b7 r) (mF r) f (ck r) I s L SS .brk x [] [] [] []):=(λsn t g f s L o=>pl r x .brk [] sn t g f s L (hB hp) o C.fin (jO C.srt) (by omega));λ_ X=> .seg 0x5001005005001001001 λO1=> .use _ (lA w se z d (x.1) (x.2) v (by omega) p) [4] [] λx2 h2=> .seg 0x5001005005002002 λO3=> .use _ (uH w nd (Fx "dict") none f (x.1) (x.2) (mF r) Bool.false H) [4] [] λx4 h4=> .seg 0 λO5=> .use _ (I3 sn t g f s L o) [2,2,2,0] [0,0,0] λD h6=> .seg 0 λO=>X (((D.1.1,D.1.2.1,D.1.2.2.1,D.1.2.2.2,x),D.2.1,D.2.2,z,d)) ⟨h6,v,C.nd,C.sub⟩ [0,0,0,0,0,0] [] [0,1])
  | some q=>
   obtain ⟨y,j⟩:=q
   obtain ⟨_,_,_,_,_,_,IL⟩:=j8 hp
   have C':=eF.next A C.fin C.srt C.nd C.sub hp
   exact ct (I8 w fr k S n2i ne st is se nd sn t x g (bO r) (b7 r) (mF r) f (ck r) I d z s L SS o v C.nd C.sub (by omega) H y (bO j) (b7 j) (mF j) (ck j) p (λsn t g f s L o=>pl r y .next j sn t g f s L (hN hp) o C.fin (jO C.srt) (by omega))
    (λsn t g f s L o=>IH (n-1) (by omega) j y d z sn t g f s L (by omega) C' v o))
 .obtain ⟨I1,h,I2,Iy,IJ,h1,h2⟩:=jP hn C.xk
  have IM:h∈I:=by rw [Iy];exact FF _ EZ
  have J:(aB I).Perm (h.cells++aB (I1++I2)):=by rw [Iy];exact hU ..
  have M:look? (ay I) x.1=some h.a:=by
   obtain ⟨ID,R,hi,e,G,_⟩:=fX hn C.xk
   have:ID=h:=by
    rw [Iy] at hi
    rcases GB.mp hi with q | q
    .exact absurd e (h1 ID q)
    .rcases GP.mp q with q | q
     .exact q
     .exact absurd e (h2 ID q)
   rw [<-this];exact G
  have Iv:=jM hn IM
  rw [IJ] at Iv
  have I4:∀IF,aw (mF r) x.1 x.2 IF=mF r++[(x.1,x.2,IF)]:=λIF=>lO C.keys
  have I5:=(qi p hn).2 C.xk
  have II:∀b i u,∀io∈(⟨x,((r.length:Nat),u),b,i,h.sc,0⟩::r:List SF),ig I io:=λb i u io hf=>by
   rcases GP.mp hf with rfl | hf
   .exact ⟨h,IM,IJ,rfl⟩
   .exact C.fin io hf
  have IQ:∀b i u,(⟨x,((r.length:Nat),u),b,i,h.sc,0⟩::r:List SF).Pairwise λio IX=>rk IX.c.1< rk io.c.1:=λb i u=>List.pairwise_cons.mpr ⟨C.lt,C.srt⟩
  have IN:(x.1::d).Nodup:=GO.mpr ⟨p,C.nd⟩
  have IR:∀c∈x.1::d,c∈am I:=λc hc=>(GP.mp hc).elim (λe=>e▸C.xk) (C.sub c)
  have IK:∀b i u,fq I (⟨x,((r.length:Nat),u),b,i,h.sc,0⟩::r)=h.su.length+fq I r:=λb i u=>by simp [fq,Iv]
  rw [Iv] at I5
  have IE:∀(y:Nat×Nat) (q:Flow) (j:Nat->Nat->Nat->List SF),(∀b i u,(match cP I (⟨x,((r.length:Nat),u),b,i,h.sc,0⟩::r) with | some I6=>I6=(y,j b i u)/\q= .next | none=>j b i u=[]/\y=x/\q= .brk))->
   ∀(sn t g f b i u:Nat) (s:SL) (L:List aF),aC L=SS->ab (env w) (fg w.params fr k S n2i st is se nd sn t x g (bO r++[(x.1,x.2)]) (b7 r++[b]) (aw (mF r) x.1 x.2 (((bO r).length:Nat),u)) f (dX b i h.sc 0++ck r) I s L SS q y (bO (j b i u)) (b7 (j b i u)) (mF (j b i u)) (ck (j b i u))):=λy q j rw sn t g f b i u s L o=>by
   rw [I4,l1]
   exact pl (⟨x,((r.length:Nat),u),b,i,h.sc,0⟩::r) y q (j b i u) sn t g f s L (rw b i u) o (II b i u) (jO (IQ b i u)) (by simp;omega)
  cases hy:h.su[0]? with
  | some y=>
   have hp:∀b i u,cP I (⟨x,((r.length:Nat),u),b,i,h.sc,0⟩::r)=some (y,⟨x,((r.length:Nat),u),b,i,h.sc,1⟩::r):=λb i u=>by
    unfold cP
    simp only [Iv,hy]
   refine av (IS w fr k S n2i ne st is se nd sn t x g (bO r) (b7 r) (mF r) f (ck r) I d z s L SS o v C.nd C.sub (by omega) H y (bO r++[x]) (λb=>b7 r++[b]) (λu=>mF r++[(x.1,x.2,(((r.length:Nat):Int),u))]) (λb i=>dX b i h.sc 1++ck r) p h (aB (I1++I2)) M J C.xk (by omega) (by omega) (by omega)
    (IE y .next (λb i u=>⟨x,((r.length:Nat),u),b,i,h.sc,1⟩::r) λb i u=>hN (hp b i u)) (λsn t g f b i u s L z' IC Iz=> ?_))
   obtain ⟨_,_,_,_,_,_,IL⟩:=j8 (hp b i u)
   have IK:=IK b i u
   exact IH (n-1) (by omega) (⟨x,((r.length:Nat),u),b,i,h.sc,1⟩::r) y (x.1::d) z' sn t g f s L (by omega) (eF.next A (II b i u) (IQ b i u) IN IR (hp b i u)) IC Iz
  | none=>
   have IP:∀b i u,cP I (⟨x,((r.length:Nat),u),b,i,h.sc,0⟩::r)=cP I r:=λb i u=>by
    rw [cP]
    simp only [Iv,hy]
   cases hp:cP I r with
   | none=>
    exact av (I7 w fr k S n2i ne st is se nd sn t x g (bO r) (b7 r) (mF r) f (ck r) I d z s L SS o v C.nd C.sub (by omega) H p h (aB (I1++I2)) M J C.xk (by omega) (by omega) (by omega)
     (IE x .brk (λ_ _ _=>[]) λb i u=>hB ((IP b i u).trans hp)))
   | some q=>
    obtain ⟨y,j⟩:=q
    refine av (IS w fr k S n2i ne st is se nd sn t x g (bO r) (b7 r) (mF r) f (ck r) I d z s L SS o v C.nd C.sub (by omega) H y (bO j) (λ_=>b7 j) (λ_=>mF j) (λ_ _=>ck j) p h (aB (I1++I2)) M J C.xk (by omega) (by omega) (by omega)
     (IE y .next (λ_ _ _=>j) λb i u=>hN ((IP b i u).trans hp)) (λsn t g f b i u s L z' IC Iz=> ?_))
    obtain ⟨_,_,_,_,_,_,IL⟩:=j8 hp
    exact IH (n-1) (by omega) j y (x.1::d) z' sn t g f s L (by omega) (eF.next A C.fin C.srt IN IR hp) IC Iz
end
def uP (P:E6) (k:Nat×Nat×Nat×Nat×Nat×Nat) (S n st i s nd:Nat) (e:Nat) (b:SL):Obj:=
 bv [es P [115,101,108,102] k.1 (.ref S),es P [110,50,105] k.2.1 (.ref n),es P [115,116,97,99,107] k.2.2.1 (.ref st),es P [105,116,115,116,97,99,107] k.2.2.2.1 (.ref i),es P [115,101,101,110] k.2.2.2.2.1 (.ref s),es P [110,111,100,101,50,115,116,97,99,107,105] k.2.2.2.2.2 (.ref nd)] e b
def nO (w:E7) (f b i:Nat) (g:Obj) (d n st h s nd sn t e:Nat) (I:List ai) (j:List Nat) (z:SZ) (L:List aF) (S:List (Env×Addr×Obj)):af:={d:=60,α:=List aF,c:=Ej w.params b f,need:=[(d,dO w.params (.type "dict") none .ref (ay I) n),(b,bZ "dict_keyiterator" d i (ay I).length n),(f,g),(st,ae [] sn),(h,ae [] t),(nd,dO w.params (.type "dict") none iv [] e),(s,bK z)],put:=λq=>[dO w.params (.type "dict") none .ref (ay I) n],post:=λq=>aC q=S,needB:=[aB I,a8 L],putB:=λq=>[aB I,a8 q],outer:=some (dD w.params f::S.map (·.1))}
section
variable (w:E7) (fr it:Nat) (n2i ne st is se nd:Nat) (I:List ai) (SS:List (Env×Addr×Obj)) (S:Nat) (rk:Nat->Nat) (hn:(am I).Nodup) (bo:∀x∈SS,cn x) (A:fH rk I) (hI:I.length<=800)
include hn bo A hI
theorem vg (k:K7) (x:Nat×Nat) (b:List Nat) (z:SZ) (sn t d e:Nat) (s:SL) (L:List aF) (m:cx w (bK z) b) (g:aC L=SS) (i:b.Nodup) (j:∀c∈b,c∈am I) (l:x.1∈am I):ab (env w) (gN w fr k S n2i ne st is se nd sn t x d [] [] [] e [] I b z s L SS):=
 DX w fr k S n2i ne st is se nd I SS rk hn bo A hI _ [] x b z sn t d e s L (FM _) ⟨λf h=>(nomatch h), .nil,λf h=>(nomatch h),l,i,j⟩ m g
theorem tO {q:Nat×Nat×Nat} {i:Nat} (h:(ay I)[i]? =some q):q.1∈am I:=by
 obtain ⟨j,b,e⟩:=Gj.mp (Fz h)
 rw [<-e];exact Fa (f:=λi:ai=>i.node.1) b
theorem vw:∀(u:List (Nat×Nat×Nat)) (i:Nat) (k:K7) (l:Nat×Nat) (f:List Nat) (z:SZ) (sn t j h:Nat) (s:SL) (L:List aF),(ay I).drop i=u->cx w (bK z) f->aC L=SS->f.Nodup->(∀c∈f,c∈am I)->
 ab (env w) (nO w fr it i (gu w.params k S n2i st is se nd l j s) n2i ne st is se nd sn t h I f z L SS):=by
 intro u
 induction u with
 | nil=>
  intro i k l f z sn t j h s L D p r n o
  have C:f.length<=1000:=by have:=kB (m:=am I) n o;simp [am] at this;omega
  exact ct (λ_ v=> .seg 137455738881 λO=> .use _ (ua w it n2i i ne (Fx "dict") none (ay I) (aV D)) [1,0] [] λT B=> .seg 4099 λG=>v (L) r [1] [] [0,0])
 | cons q u F=>
  intro i k l f z sn t j h s L D p r n o
  have C:f.length<=1000:=by have:=kB (m:=am I) n o;simp [am] at this;omega
  obtain ⟨E,B⟩:=aQ D
  exact ct (λ_ v=> .seg 137455738881 λO=> .use _ (t9 w it n2i i ne (Fx "dict") none (ay I) q E) [1,0] [] λT X=> .seg 0x7001007007003003003003 λG=> .or (q.1∈f) (¬(q.1∈f)) (FI _) (λy=> .use _ (lA w se z f (q.1) (q.2.1) p C y) [6] [] λU J=> .seg 0 λH=> .use _ ((λk l f z sn t j h s L a b c d=>F (i+1) k l f z sn t j h s L B a b c d) (k.1,k.2.1,k.2.2.1,k.2.2.2.1,k.2.2.2.2.1,k.2.2.2.2.2.1,k.2.2.2.2.2.2) (q.1,q.2.1) f z sn t j h s L p r n o) [2,1,1,1,1,1,0] [0,0] λg m=>v (g) m [0] [] [0,0]) (λy=> .use _ (lB w se z f (q.1) (q.2.1) p C y) [6] [] λU J=> .seg 0 λH=> .view [] [] _ _ _ _ (qc) (.use _ ((λk x f z sn t j h s L a b c d e=>vg w fr n2i ne st is se nd I SS S rk hn bo A hI k x f z sn t j h s L a b c d e) (k.1,k.2.1,k.2.2.1,k.2.2.2.1,k.2.2.2.2.1,k.2.2.2.2.2.1,k.2.2.2.2.2.2) (q.1,q.2.1) f z sn t j h s L p r n o (tO I SS rk hn bo A hI E)) [3,3,3,3,0,1] [1,0,0] λg m=>have M:aC g.2.2.1=SS:=(Fv m);have N:cx w (bK g.2.2.2.1) g.2.2.2.2:=(Fv (Fe m));have P:List.Nodup g.2.2.2.2:=(Fv (Fe (Fe m)));have Q:∀(c:Nat),c∈g.2.2.2.2->c∈am I:=(Fe (Fe (Fe m))); .seg 0 λW=> .use _ ((λk l f z sn t j h s L a b c d=>F (i+1) k l f z sn t j h s L B a b c d) (k.1,k.2.1,k.2.2.1,k.2.2.2.1,k.2.2.2.2.1,k.2.2.2.2.2.1,k.2.2.2.2.2.2) (g.1.2.2.2.2) (g.2.2.2.2) (g.2.2.2.1) (g.1.1) (g.1.2.1) (g.1.2.2.1) (g.1.2.2.2.1) (g.2.1) (g.2.2.1) N M P Q) [5,5,0,0,0,0,0] [0,0] λV R=>v (V) R [0] [] [0,0])))
theorem Ei (k:Nat×Nat×Nat×Nat×Nat×Nat) (z:SZ) (sn t h g:Nat) (s:SL) (L:List aF) (l:cx w (bK z) []) (o:aC L=SS):
 ab (env w) (nO w fr it 0 (uP w.params k S n2i st is se nd h s) n2i ne st is se nd sn t g I [] z L SS):=by
 cases r:(ay I)[0]? with
 | none=>exact ct (λ_ m=> .seg 137455738881 λv=> .use _ (ua w it n2i 0 ne (Fx "dict") none (ay I) r) [1,0] [] λJ B=> .seg 4099 λO=>m (L) o [1] [] [0,0])
 | some q=>exact ct (λ_ m=> .seg 137455738881 λv=> .use _ (t9 w it n2i 0 ne (Fx "dict") none (ay I) q r) [1,0] [] λJ B=> .seg 0x7001007007003003003003 λO=> .or (q.1∈[]) (¬(q.1∈[])) (FI _) (λn=> .use _ (lA w se z [] (q.1) (q.2.1) l (Gg _:([]:List Nat).length<=1000) n) [6] [] λM C=> .seg 0 λy=> .use _ ((λk u j z sn t h g s L a b c d=>vw w fr it n2i ne st is se nd I SS S rk hn bo A hI ((ay I).drop 1) 1 k u j z sn t h g s L rfl a b c d) (k.1,k.2.1,k.2.2.1,k.2.2.2.1,k.2.2.2.2.1,k.2.2.2.2.2,O 0) (q.1,q.2.1) [] z sn t (h+1) g s L l o Gt (λc p=>(nomatch p))) [2,1,1,1,1,1,0] [0,0] λf i=>m (f) i [0] [] [0,0]) (λn=> .use _ (lB w se z [] (q.1) (q.2.1) l (Gg _:([]:List Nat).length<=1000) n) [6] [] λM C=> .seg 0 λy=> .view [] [] _ _ _ _ (qc) (.use _ ((λk x j z sn t h g s L a b c d e=>vg w fr n2i ne st is se nd I SS S rk hn bo A hI k x j z sn t h g s L a b c d e) (k.1,k.2.1,k.2.2.1,k.2.2.2.1,k.2.2.2.2.1,k.2.2.2.2.2,O 0) (q.1,q.2.1) [] z sn t (h+1) g s L l o Gt (λc p=>(nomatch p)) (tO I SS rk hn bo A hI r)) [3,3,3,3,0,1] [1,0,0] λf i=>have D:aC f.2.2.1=SS:=(Fv i);have E:cx w (bK f.2.2.2.1) f.2.2.2.2:=(Fv (Fe i));have F:List.Nodup f.2.2.2.2:=(Fv (Fe (Fe i)));have G:∀(c:Nat),c∈f.2.2.2.2->c∈am I:=(Fe (Fe (Fe i))); .seg 0 λP=> .use _ ((λk u j z sn t h g s L a b c d=>vw w fr it n2i ne st is se nd I SS S rk hn bo A hI ((ay I).drop 1) 1 k u j z sn t h g s L rfl a b c d) (k.1,k.2.1,k.2.2.1,k.2.2.2.1,k.2.2.2.2.1,k.2.2.2.2.2,O 0) (f.1.2.2.2.2) (f.2.2.2.2) (f.2.2.2.1) (f.1.1) (f.1.2.1) (f.1.2.2.1) (f.1.2.2.2.1) (f.2.1) (f.2.2.1) E D F G) [5,5,0,0,0,0,0] [0,0] λN H=>m (N) H [0] [] [0,0])))
theorem Eh (k:Nat×Nat×Nat×Nat×Nat×Nat) (sn t f e:Nat) (s:SL) (L:List aF) (h:aC L=SS):
 ab (env w) (nO w fr it 0 (uP w.params k S n2i st is se nd f s) n2i ne st is se nd sn t e I [] (#[],0, .fresh 0 0 (!w.params.followText "set-order")) L SS):=
 Ei w fr it n2i ne st is se nd I SS S rk hn bo A hI k _ sn t f e s L (yf _ _) h
end
section
variable {β:Type}
def sw (f:β->E9) (P:E6) (d:Nat) (b:E9) (g:Option Addr) (m:List (Nat×Nat×β)) (e:Nat):af:={d:=1,α:=Nat,c:= .builtin "dict.__iter__" ⟨[.ref d],[]⟩,need:=[(d,dO P b g f m e)],r:=λa=> .ok (.ret (.ref a)),put:=λ_=>[dO P b g f m e],new:=λa=>[(a,bZ "dict_keyiterator" d 0 m.length e)]}
theorem Cs (f:β->E9) (w:E7) (d:Nat) (g:E9) (h:Option Addr) (m:List (Nat×Nat×β)) (b:Nat) (l:g= .type "dict"\/g= .ref 1093):ab (env w) (sw f w.params d g h m b):=by
 refine aN λA s G o p P k=> ?_
 have i:s.heap.get? d=some (dO w.params g h f m b):=P.has (d,_) EZ
 have n:1228<=d:=P.ge (d,_) EZ
 show Fp _ _ (FK table (.builtin "dict.__iter__" ⟨[.ref d],[]⟩)) _ _ s
 rw [aE _ _ F.entry_dict_iter]
 show Fp _ _ (Hy "__iter__" ⟨[.ref d],[]⟩>>=_) _ _ s
 refine E1 ?_
 unfold Hy
 refine E1 (gA (d:=d) rfl P.base i l ?_)
 show Fp _ _ (pure (Fq d)) _ _ s
 refine E3 ?_
 show Fp _ _ (Gq d>>=_) _ _ s
 unfold Gq
 rw [if_neg (by rw [eL n];exact Fg)]
 refine E1 (E3 ?_)
 refine E1 (FO i rfl ?_)
 refine E1 (Gi i rfl ?_)
 unfold HT
 refine E1 (Ge ?_ (by size_fits))
 refine E3 ?_
 have j:=(ap.start P).push (bZ "dict_keyiterator" d 0 ((m.map (aS w.params f)).toArray.size) b) rfl
 have e:(m.map (aS w.params f)).toArray.size=m.length:=by simp
 refine k _ _ trivial ?_
 show ap s {s with heap:=s.heap.push (bZ "dict_keyiterator" d 0 ((m.map (aS w.params f)).toArray.size) b)} _ [(d,dO w.params g h f m b),(s.heap.objs.size,bZ "dict_keyiterator" d 0 m.length b)]
 rw [show bZ "dict_keyiterator" d 0 m.length b=bZ "dict_keyiterator" d 0 ((m.map (aS w.params f)).toArray.size) b from by rw [e]]
 exact j.perm (.swap ..)
def j2 (n t:String) (f:β->E9) (P:E6) (d:Nat) (b:E9) (e:Option Addr) (m:List (Nat×Nat×β)) (g:Nat):af:={d:=1,α:=Nat,c:= .builtin ("dict."++n) ⟨[.ref d],[]⟩,need:=[(d,dO P b e f m g)],r:=λa=> .ok (.ret (.ref a)),put:=λ_=>[dO P b e f m g],new:=λa=>[(a,{cls:= .type t,data:= .fields #[.ref d]})]}
theorem vQ {w:E7} {A:Around} {E:E9->Fc->Prop} {s:Fc} {d:Addr} {f:β->E9} {b:E9} {e:Option Addr} {m:List (Nat×Nat×β)} {g:Nat} {n:String} {Q:Addr->Fc->Prop} (B:ca (kt w.params) s.heap) (j:s.heap.get? d=some (dO w.params b e f m g)) (i:b= .type "dict"\/b= .ref 1093) (h:Q d s):
 Fp (FQ pq w) A (Ic n ⟨[.ref d],[]⟩) Q E s:=by
 unfold Ic
 refine E1 (gA (d:=d) rfl B j i ?_)
 show Fp _ _ (Builtin.Dict.nameIsSure n ⟨[.ref d],[]⟩ false>>=_) _ _ s
 unfold Builtin.Dict.nameIsSure
 refine E1 (E3 ?_)
 show Fp _ _ (pure d) _ _ s
 exact E3 h
theorem ui (f:β->E9) (w:E7) (d:Nat) (b:E9) (e:Option Addr) (m:List (Nat×Nat×β)) (g:Nat) (j:b= .type "dict"\/b= .ref 1093):ab (env w) (j2 "items" "dict_items" f w.params d b e m g):=by
 refine aN λA s G n o P i=> ?_
 have l:s.heap.get? d=some (dO w.params b e f m g):=P.has (d,_) EZ
 have k:1228<=d:=P.ge (d,_) EZ
 show Fp _ _ (FK table (.builtin "dict.items" ⟨[.ref d],[]⟩)) _ _ s
 rw [aE _ _ F.entry_dict_items]
 show Fp _ _ (Ic "items" ⟨[.ref d],[]⟩>>=_) _ _ s
 refine E1 (vQ P.base l j ?_)
 show Fp _ _ (Gq d>>=_) _ _ s
 unfold Gq
 rw [if_neg (by rw [eL k];exact Fg)]
 refine E1 (E3 ?_)
 unfold HT
 refine E1 (Ge ?_ (by size_fits))
 refine E3 ?_
 have h:=(ap.start P).push {cls:= .type "dict_items",data:= .fields #[.ref d]} rfl
 exact i _ _ trivial (h.perm (.swap ..))
theorem wm (f:β->E9) (w:E7) (d:Nat) (b:E9) (e:Option Addr) (m:List (Nat×Nat×β)) (g:Nat) (j:b= .type "dict"\/b= .ref 1093):ab (env w) (j2 "values" "dict_values" f w.params d b e m g):=by
 refine aN λA s G n o P i=> ?_
 have l:s.heap.get? d=some (dO w.params b e f m g):=P.has (d,_) EZ
 have k:1228<=d:=P.ge (d,_) EZ
 show Fp _ _ (FK table (.builtin "dict.values" ⟨[.ref d],[]⟩)) _ _ s
 rw [aE _ _ F.entry_dict_values]
 show Fp _ _ (Ic "values" ⟨[.ref d],[]⟩>>=_) _ _ s
 refine E1 (vQ P.base l j ?_)
 show Fp _ _ (Gq d>>=_) _ _ s
 unfold Gq
 rw [if_neg (by rw [eL k];exact Fg)]
 refine E1 (E3 ?_)
 unfold HT
 refine E1 (Ge ?_ (by size_fits))
 refine E3 ?_
 have h:=(ap.start P).push {cls:= .type "dict_values",data:= .fields #[.ref d]} rfl
 exact i _ _ trivial (h.perm (.swap ..))
def nN (f:β->E9) (P:E6) (d:Nat) (b:E9) (e:Option Addr) (m:List (Nat×Nat×β)) (g:Nat) (k:Nat):af:={d:=1,α:=Nat,c:= .builtin "dict.__len__" ⟨[.ref d],[]⟩,need:=[(d,dO P b e f m g)],r:=λa=> .ok (.ret (.int k a)),put:=λ_=>[dO P b e f m g],new:=λa=>[]}
theorem vc (f:β->E9) (w:E7) (d:Nat) (b:E9) (g:Option Addr) (m:List (Nat×Nat×β)) (h k:Nat) (hk:m.length=k) (l:b= .type "dict"\/b= .ref 1093):ab (env w) (nN f w.params d b g m h k):=by
 subst hk
 refine aN λA s G o p P j=> ?_
 have i:s.heap.get? d=some (dO w.params b g f m h):=P.has (d,_) EZ
 have n:1228<=d:=P.ge (d,_) EZ
 show Fp _ _ (FK table (.builtin "dict.__len__" ⟨[.ref d],[]⟩)) _ _ s
 rw [aE _ _ F.entry_dict_len]
 show Fp _ _ (Hy "__len__" ⟨[.ref d],[]⟩>>=_) _ _ s
 refine E1 ?_
 unfold Hy
 refine E1 (gA (d:=d) rfl P.base i l ?_)
 show Fp _ _ (pure (Fq d)) _ _ s
 refine E3 ?_
 show Fp _ _ (dictSize d>>=_) _ _ s
 unfold dictSize
 refine E1 (E1 (FO i rfl (E3 ?_)))
 refine E1 (wpAny_pendingCount_other (eL n) ?_)
 refine E1 (wpAny_mkInt (E3 ?_))
 have e:((((m.map (aS w.params f)).toArray.size:Nat):Int)+((0:Nat):Int))=(m.length:Int):=by simp
 show G (.ok (.ret (.int ((((m.map (aS w.params f)).toArray.size:Nat):Int)+((0:Nat):Int)) s.toks))) _
 rw [e]
 exact j _ _ trivial ((ap.start P).toks _)
end
section
variable (w:E7) (d:Nat) (dd:Option Addr) (ep:Nat)
theorem Cr (m:List (Nat×Nat×Nat)):ab (env w) (sw .ref w.params d (.type "dict") dd m ep):=Cs _ _ _ _ _ _ _ (.inl rfl)
theorem ug (m:List (Nat×Nat×Int×Nat)):ab (env w) (j2 "items" "dict_items" iv w.params d (.type "dict") dd m ep):=ui _ _ _ _ _ _ _ (.inl rfl)
theorem g6 (m:List (Nat×Nat×Int×Nat)):ab (env w) (j2 "items" "dict_items" iv w.params d (.ref 1093) dd m ep):=ui _ _ _ _ _ _ _ (.inr rfl)
theorem wk (m:List (Nat×Nat×Nat)):ab (env w) (j2 "values" "dict_values" .ref w.params d (.type "dict") dd m ep):=wm _ _ _ _ _ _ _ (.inl rfl)
theorem vd (m:List (Nat×Nat×Int×Nat)) (k:Nat) (hk:m.length=k):ab (env w) (nN iv w.params d (.ref 1093) dd m ep k):=vc _ _ _ _ _ _ _ _ hk (.inr rfl)
theorem gx (m:List (Nat×Nat×Int×Nat)) (k:Nat) (hk:m.length=k):ab (env w) (nN iv w.params d (.type "dict") dd m ep k):=vc _ _ _ _ _ _ _ _ hk (.inl rfl)
end
section
variable {β:Type}
def vO (t:String) (d:Nat):Obj:={cls:= .type t,data:= .fields #[.ref d]}
def rv (v d:Nat) (f:β->E9) (P:E6) (b:E9) (g:Option Addr) (m:List (Nat×Nat×β)) (e:Nat):af:={d:=1,α:=Nat,c:= .builtin "dict_values.__iter__" ⟨[.ref v],[]⟩,need:=[(v,vO "dict_values" d),(d,dO P b g f m e)],r:=λa=> .ok (.ret (.ref a)),put:=λ_=>[vO "dict_values" d,dO P b g f m e],new:=λa=>[(a,bZ "dict_valueiterator" d 0 m.length e)]}
theorem wv (v d:Nat) (f:β->E9) (w:E7) (g:E9) (h:Option Addr) (m:List (Nat×Nat×β)) (b:Nat):ab (env w) (rv v d f w.params g h m b):=by
 refine aN λA s G n o P k=> ?_
 have l:s.heap.get? v=some (vO "dict_values" d):=P.has (v,_) EZ
 have i:s.heap.get? d=some (dO w.params g h f m b):=P.has (d,_) (E2 _ EZ)
 show Fp _ _ (FK table (.builtin "dict_values.__iter__" ⟨[.ref v],[]⟩)) _ _ s
 rw [aE _ _ F.entry_dict_values_iter]
 show Fp _ _ (Hx (.ref v)>>=_) _ _ s
 refine E1 ?_
 unfold Hx
 refine E1 (FY l rfl (x:= .ref d) rfl ?_)
 show Fp _ _ (pure d) _ _ s
 refine E3 ?_
 show Fp _ _ (GW "dict_valueiterator" d>>=_) _ _ s
 unfold GW
 refine E1 (E1 (FO i rfl ?_))
 refine E1 (Gi i rfl ?_)
 show Fp _ _ (HT "dict_valueiterator" [.ref d,FT 0,FT ((m.map (aS w.params f)).toArray.size:Nat),FT b]) _ _ s
 unfold HT
 refine Ge ?_ (by size_fits)
 refine E3 ?_
 have e:(m.map (aS w.params f)).toArray.size=m.length:=by simp
 have j:=(ap.start P).push (bZ "dict_valueiterator" d 0 ((m.map (aS w.params f)).toArray.size) b) rfl
 refine k _ _ trivial ?_
 show ap s {s with heap:=s.heap.push (bZ "dict_valueiterator" d 0 ((m.map (aS w.params f)).toArray.size) b)} _ [(v,vO "dict_values" d),(d,dO w.params g h f m b),(s.heap.objs.size,bZ "dict_valueiterator" d 0 m.length b)]
 rw [show bZ "dict_valueiterator" d 0 m.length b=bZ "dict_valueiterator" d 0 ((m.map (aS w.params f)).toArray.size) b from by rw [e]]
 exact j.perm (FD (l₁:=[(s.heap.objs.size,bZ "dict_valueiterator" d 0 ((m.map (aS w.params f)).toArray.size) b)]) (l₂:=[(v,vO "dict_values" d),(d,dO w.params g h f m b)]))
def sh (v d:Nat) (f:β->E9) (P:E6) (b:E9) (g:Option Addr) (m:List (Nat×Nat×β)) (e:Nat):af:={d:=1,α:=Nat,c:= .builtin "dict_items.__iter__" ⟨[.ref v],[]⟩,need:=[(v,vO "dict_items" d),(d,dO P b g f m e)],r:=λa=> .ok (.ret (.ref a)),put:=λ_=>[vO "dict_items" d,dO P b g f m e],new:=λa=>[(a,aT .none d 0 m.length e .none .none)]}
theorem CR (v d:Nat) (f:β->E9) (w:E7) (g:E9) (h:Option Addr) (m:List (Nat×Nat×β)) (b:Nat):ab (env w) (sh v d f w.params g h m b):=by
 refine aN λA s G o p P l=> ?_
 have n:s.heap.get? v=some (vO "dict_items" d):=P.has (v,_) EZ
 have i:s.heap.get? d=some (dO w.params g h f m b):=P.has (d,_) (E2 _ EZ)
 show Fp _ _ (FK table (.builtin "dict_items.__iter__" ⟨[.ref v],[]⟩)) _ _ s
 rw [aE _ _ F.entry_dict_items_iter]
 show Fp _ _ (Hx (.ref v)>>=_) _ _ s
 refine E1 ?_
 unfold Hx
 refine E1 (FY n rfl (x:= .ref d) rfl ?_)
 show Fp _ _ (pure d) _ _ s
 refine E3 ?_
 show Fp _ _ (GW "dict_itemiterator" d>>=_) _ _ s
 unfold GW
 refine E1 (E1 (FO i rfl ?_))
 refine E1 (Gi i rfl ?_)
 have e:(m.map (aS w.params f)).toArray.size=m.length:=by simp
 have k:(if Ga "dict_itemiterator"=true then Il++[.ref d,FT 0,FT ((m.map (aS w.params f)).toArray.size:Nat),FT b]++[.none, .none] else [.ref d,FT 0,FT ((m.map (aS w.params f)).toArray.size:Nat),FT b])=[.none, .bool false, .ref d,FT 0,FT ((m.map (aS w.params f)).toArray.size:Nat),FT b, .none, .none]:=by
  rw [if_pos (by decide+kernel)];rfl
 show Fp _ _ (HT "dict_itemiterator" (if Ga "dict_itemiterator"=true then Il++[.ref d,FT 0,FT ((m.map (aS w.params f)).toArray.size:Nat),FT b]++[.none, .none] else [.ref d,FT 0,FT ((m.map (aS w.params f)).toArray.size:Nat),FT b])) _ _ s
 rw [k]
 unfold HT
 refine Ge ?_ (by size_fits)
 refine E3 ?_
 have j:=(ap.start P).push (aT .none d 0 ((m.map (aS w.params f)).toArray.size) b .none .none) rfl
 refine l _ _ trivial ?_
 show ap s {s with heap:=s.heap.push (aT .none d 0 ((m.map (aS w.params f)).toArray.size) b .none .none)} _ [(v,vO "dict_items" d),(d,dO w.params g h f m b),(s.heap.objs.size,aT .none d 0 m.length b .none .none)]
 rw [show aT .none d 0 m.length b .none .none=aT .none d 0 ((m.map (aS w.params f)).toArray.size) b .none .none from by rw [e]]
 exact j.perm (FD (l₁:=[(s.heap.objs.size,aT .none d 0 ((m.map (aS w.params f)).toArray.size) b .none .none)]) (l₂:=[(v,vO "dict_items" d),(d,dO w.params g h f m b)]))
end
theorem wu (v d:Nat) (w:E7) (b:E9) (e:Option Addr) (m:List (Nat×Nat×Nat)) (f:Nat):ab (env w) (rv v d .ref w.params b e m f):=wv _ _ _ _ _ _ _ _
theorem fS (v d:Nat) (w:E7) (b:E9) (e:Option Addr) (m:List (Nat×Nat×Int×Nat)) (f:Nat):ab (env w) (sh v d iv w.params b e m f):=CR _ _ _ _ _ _ _ _
def yY (w:E7) (S s:Nat) (k:Nat×Nat×Nat×Nat) (n:Nat) (r:E9) (p e:Int×Nat) (d:Nat) (I:List ai) (L:List aF) (b:List (Env×Addr×Obj)):af:={d:=80,α:=List aF,c:= .call (.ref 1203) ⟨[.ref S],[]⟩,need:=[(S,bd s),(s,be w.params k n r p e),(n,dO w.params (.type "dict") none .ref (ay I) d)],r:=λx=> .ok (.ret .none),put:=λq=>[bd s,be w.params k n r p e,dO w.params (.type "dict") none .ref (ay I) d],post:=λq=>aC q=b,needB:=[aB I,a8 L],putB:=λq=>[aB I,a8 q],outer:=some (b.map (·.1))}
theorem Dm (w:E7) (S s:Nat) (k:Nat×Nat×Nat×Nat) (n:Nat) (j:E9) (p i:Int×Nat) (d:Nat) (I:List ai) (L:List aF) (b:List (Env×Addr×Obj)) (f:aC L=b) (r:Nat->Nat) (g:(am I).Nodup) (bo:∀x∈b,cn x) (A:fH r I) (e:I.length<=800):ab (env w) (yY w S s k n j p i d I L b):=av (λ_ o=> .seg 0x8001008008005005005004004001001001001001001001001001001001001000000003003002002001001003000002002000000000002001000000000002001001001001000000001 λO=> .use _ (Cr w n none d (ay I)) [7] [] λl u=> .seg 2 λq=> .use _ (Eh w (O 0) l n d (O 4) (O 6) (O 8) (O 10) I b S r g bo A e (O 1,O 3,O 5,O 7,O 9,O 11) 0 0 6 0 (#[]) L f) [0,0,4,3,2,0,0] [0,0] λm h=> .seg 0 λt=>o (m) h [1,1,0] [] [0,0])
theorem qb {ev:Env} {a:Addr} {es:List E4} {ep:Nat} {sl:SL} {L:List aF}:([(a,bv es ep sl)]++[a8 L].flatten).Perm (([]:ao)++[a8 (⟨ev,a,bD es ep,sl⟩::L)].flatten):=by
 simp only [List.flatten_cons,List.flatten_nil,FJ,Hz]
 exact .refl _
theorem ip {d:Env} {a:Addr} {es:List E4} {e:Nat} {s:SL} {L b:List aF} (h:b=⟨d,a,bD es e,s⟩::L):(([]:ao)++[a8 b].flatten).Perm ([(a,bv es e s)]++[a8 L].flatten):=by
 subst h
 simp only [List.flatten_cons,List.flatten_nil,FJ,Hz]
 exact .refl _
theorem iB {L:List aF} {e:Env} {a:Addr} {o:Obj} {S:List (Env×Addr×Obj)} (h:aC L=(e,a,o)::S):∃p:SL×List aF,L=⟨e,a,o,p.1⟩::p.2/\aC p.2=S:=by
 cases L with
 | nil=>cases h
 | cons x L=>
  obtain ⟨k,j,l,i⟩:=x
  injection h with b f
  injection b with b d
  injection d with d g
  subst b;subst d;subst g
  exact ⟨(i,L),rfl,f⟩
theorem n4 {e:Env} {a:Addr} {o:Obj} {S:List (Env×Addr×Obj)} (h:cn (e,a,o)) (bo:∀x∈S,cn x):∀x∈(e,a,o)::S,cn x:=λx b=>by
 rcases GP.mp b with rfl | b
 .exact h
 .exact bo x b
def sp (w:E7) (S s:Nat) (k:Nat×Nat×Nat×Nat) (n:Nat) (r:E9) (p f:Int×Nat) (d:Nat) (I:List ai) (g:Env) (h:Nat) (es:List E4) (e:Nat) (i:SL) (L:List aF) (b:List (Env×Addr×Obj)):af:={d:=80,α:=SL×List aF,c:= .call (.ref 1203) ⟨[.ref S],[]⟩,need:=[(S,bd s),(s,be w.params k n r p f),(n,dO w.params (.type "dict") none .ref (ay I) d),(h,bv es e i)],r:=λx=> .ok (.ret .none),put:=λq=>[bd s,be w.params k n r p f,dO w.params (.type "dict") none .ref (ay I) d,bv es e q.1],post:=λq=>aC q.2=b,needB:=[aB I,a8 L],putB:=λq=>[aB I,a8 q.2],outer:=some (g::b.map (·.1))}
theorem Ds (w:E7) (S m:Nat) (k:Nat×Nat×Nat×Nat) (n:Nat) (r:E9) (j i:Int×Nat) (g:Nat) (I:List ai) (b:Env) (f:Nat) (es:List E4) (e:Nat) (s:SL) (L:List aF) (d:List (Env×Addr×Obj)) (q:aC L=d) (l:Nat->Nat) (u:(am I).Nodup) (t:cn (b,f,bD es e)) (bo:∀x∈d,cn x) (A:fH l I) (o:I.length<=800):ab (env w) (sp w S m k n r j i g I b f es e s L d):=av (λ_ v=> .view [3] [1] _ _ _ _ (qb (ev:=b) (a:=f) (es:=es) (ep:=e) (sl:=s) (L:=L)) (.use _ (Dm w S m k n r j i g I (⟨b,f,bD es e,s⟩::L) ((b,f,bD es e)::d) (by show _::aC L=_;rw [q]:aC (⟨b,f,bD es e,s⟩::L)=(b,f,bD es e)::d) l u (n4 t bo) A o) [0,0,0] [1,0] λx h=> .pick _ _ (iB h) λp hp=> .view [] [1] _ _ _ _ (ip hp.1) (v (p.1,p.2) hp.2 [1,1,1,0] [] [1,0])))
def kW (T:String):Prop:=∀(w:E7) (A:Around) (E:E9->Fc->Prop) (s:Fc) (i:Addr) (Q:E9->Fc->Prop),s.TypeIs (.ref i) T->Q (.ref i) s->Fp (FQ pq w) A (pyIter (.ref i)) Q E s
theorem gI:kW "list_iterator":=λw A E s i Q h b=>wpAny_pyIter_slot h slot_listiter_iter (HM slot_listiter_iter h entry_listiter_iter (by
 show Fp _ _ (ret (.ref i)) _ _ s
 exact E3 ⟨_,rfl,"list_iterator",_,h,slot_listiter_next.lookup,b⟩) (args_listiter_iter _))
theorem yg:kW "dict_valueiterator":=λw A E s i Q h b=>wpAny_pyIter_slot h F.slot_dict_valueiterator_iter (HM F.slot_dict_valueiterator_iter h entry_dict_valueiterator_iter (by
 show Fp _ _ (ret (.ref i)) _ _ s
 exact E3 ⟨_,rfl,"dict_valueiterator",_,h,F.slot_dict_valueiterator_next.lookup,b⟩) (F.args_dict_valueiterator_iter_1 _))
theorem jQ:kW "range_iterator":=λw A E s i Q h b=>wpAny_pyIter_slot h F.slot_range_iterator_iter (HM F.slot_range_iterator_iter h F.entry_range_iterator_iter (by
 show Fp _ _ (ret (.ref i)) _ _ s
 exact E3 ⟨_,rfl,"range_iterator",_,h,F.slot_range_iterator_next.lookup,b⟩) (F.args_range_iterator_iter_1 _))
theorem nj:kW "str_ascii_iterator":=λw A E s i Q h b=>wpAny_pyIter_slot h F.slot_str_ascii_iterator_iter (HM F.slot_str_ascii_iterator_iter h F.entry_str_ascii_iterator_iter (by
 show Fp _ _ (ret (.ref i)) _ _ s
 exact E3 ⟨_,rfl,"str_ascii_iterator",_,h,F.slot_str_ascii_iterator_next.lookup,b⟩) (F.args_str_ascii_iterator_iter_1 _))
theorem aL {w:E7} {d:Type} {t:Sem d} {b:Ctx} {p:Pos} {s:Fc} {Q:d->Pos->Fc->Prop} {E:E9->Pos->Fc->Prop}
 (h:Fp (FQ pq w) (ia b) t (λa s=>∀p,Q a p s) (λv s=>∀p,E v p s) s):wp (FQ pq w) b t Q E p s:=
 Fs _ _ _ (λ_ p _ h=>h p) (λ_ p _ h=>h p) _ _ (h b p (kC b))
theorem dq {w:E7} {T:af} {t:String} {i:Nat} {o:Obj} {b:E9} {d:Env} {e:Expr} {n:Nat} (m:kW t) (D:o.cls= .type t) (B:(i,o)∈T.need)
 (u:((clausesOf e)[n]?).elim false (·.is_async !=0)=false) (y:(Code.compStart e n (.ref i) b d).isFrame=false) (v:T.c= .compLoop e n (.ref i) b d) (h:ab (env w) T):
 ab (env w) {T with c:= .compStart e n (.ref i) b d}:=by
 intro j f A q l p s F P r
 have f:j.code= .compStart e n (.ref i) b d:=f
 have C:s.heap.get? i=some o:=P.has (i,o) (F3 _ B)
 have k:s.TypeIs (.ref i) t:=⟨_,C,D⟩
 have go:∀p,wpCode (FQ pq (env w).w) (j.goto (.compLoop e n (.ref i) b d)) F p s:=λp=>h (j.goto (.compLoop e n (.ref i) b d)) v.symm A q ⟨l.cnt,l.units⟩ p s F P r
 rw [F1,f]
 show wp _ _ (if (Code.compStart e n (.ref i) b d).isFrame then _ else (compStart e n (.ref i) b d).onRaise _) _ _ p s
 rw [if_neg (by rw [y];exact Fg),Gs]
 unfold compStart
 rw [if_neg (by rw [u];exact Fg),E5]
 refine aL (wpAny_askSetting λp=> ?_)
 split
 .show finPost _ _ _ (.again (.compLoop e n (.ref i) b d)) p s
  exact ⟨rfl,go p⟩
 .rw [E5]
  show wp _ _ (rule _) _ _ p s
  refine aL (GX λp=> ?_)
  cases E:(clausesOf e)[n]? with
  | none=>
   show wp _ _ (pyIter (.ref i)>>=λx=>again (.compLoop e n x b d)) _ _ p s
   rw [E5]
   exact aL (m _ _ _ _ _ _ k λp=>⟨rfl,go p⟩)
  | some g=>
   show wp _ _ (standAt g.iter.pos>>=λ_=>pyIter (.ref i)>>=λx=>again (.compLoop e n x b d)) _ _ p s
   rw [E5]
   refine aL (Gz λp=> ?_)
   rw [E5]
   exact aL (m _ _ _ _ _ _ k λp=>⟨rfl,go p⟩)
def no (e:Expr):Scope:=(eP e).2.2.2.1
def eU (e:Expr) (b:Env) (d:Nat) (cells:List (Str×Addr)):Env:={scope:=relabel (no e) b,locals:=d,globals:=3,cells:=cells,qual:=b.qual,func:=none,code:=b.code,frame:=b.frame,builtins:=0}
def dE (e:Expr) (n i b:Nat) (f:Env) (d:Nat) (cells:List (Str×Addr)):Code:= .compLoop e n (.ref i) (.ref b) (eU e f d cells)
def bB (e:Expr) (n i b:Nat) (f:Env) (d:Nat) (cells:List (Str×Addr)):Code:= .compStart e n (.ref i) (.ref b) (eU e f d cells)
def j7 (P:E6) (f:Nat):Env:=dY (kr P) 1168 f
def sV (P:E6):Expr:=bI (aA (cX (kr P)) 1)
def co (I:List ai):List (Nat×Nat):=(I.filter λi=>decide (i.np.1=0)).map (·.node)
def f8 (w:E7) (e i b g d h f n:Nat) (lo:List E4) (l:Nat) (I:List ai) (r res:List (Nat×Nat)):af:={d:=20,α:=Nat×Nat×Nat×Nat,c:=dE (sV w.params) 0 e b (j7 w.params h) d [],need:=[(f,dO w.params (.type "dict") none .ref (ay I) n),(b,ae (r.map cv) g),(d,oD lo l),(e,bZ "dict_valueiterator" f i (ay I).length n)],put:=λq=>[dO w.params (.type "dict") none .ref (ay I) n,ae (res.map cv) q.1,oD [es w.params [105] q.2.1 (.ref q.2.2.1)] q.2.2.2],post:=λq=>True,needB:=[aB I],putB:=λq=>[aB I]}
theorem uw {I:List ai} {i:Nat} {ib:ai} (h:I[i]? =some ib):(ay I)[i]? =some (ib.node.1,ib.node.2,ib.a)/\∃R,(aB I).Perm (ib.cells++R):=by
 refine ⟨by unfold ay;rw [Fi,h];rfl, ?_⟩
 obtain ⟨b,d,rfl⟩:=Hs (Fz h)
 exact ⟨_,hU ..⟩
theorem sU (w:E7) (g j q s n h:Nat) (I:List ai) (Q:I.length<=800):∀(e:List ai) (i d k a l:Nat) (r:List (Nat×Nat)),I.drop i=e->r.length<=i->ab (env w) (f8 w g i j d q s n h [es w.params [105] k (.ref a)] l I r (r++co e)):=by
 intro e
 induction e with
 | nil=>
  intro i d k a l r t B
  have u:(ay I)[i]? =none:=by unfold ay;rw [Fi,aV t];rfl
  rw [show co []=[] from rfl,FJ]
  exact ct (λ_ p=> .seg 274894700545 λD=> .use _ (wo w g n i h (Fx "dict") none (ay I) u) [3,0] [] λL m=> .seg 3 λO=>p (d,k,a,l) trivial [1,3,3] [] [0])
 | cons b e C=>
  intro i d k a l r t B
  obtain ⟨A,m⟩:=aQ t
  obtain ⟨u,R,v⟩:=uw A
  have S:i< I.length:=(E8.mp A).1
  have F:b.np.1=0->∀(d k a l:Nat),ab (env w) (f8 w g (i+1) j d q s n h [es w.params [105] k (.ref a)] l I (r++[b.node]) (r++co (b::e))):=λy d k a l=>by
   have:=C (i+1) d k a l (r++[b.node]) m (by simp;omega)
   rw [Fm] at this
   simpa [co,y] using this
  have G:¬b.np.1=0->∀(d k a l:Nat),ab (env w) (f8 w g (i+1) j d q s n h [es w.params [105] k (.ref a)] l I r (r++co (b::e))):=λy d k a l=>by
   have:=C (i+1) d k a l r m (by omega)
   simpa [co,y] using this
  exact av (have B:r.length<=1000:=(by omega);λ_ p=> .view [] [0] _ _ _ _ (bw v) (.seg 412333662209 λD=> .use _ (qd w g n i h (Fx "dict") none (ay I) (b.node.1,b.node.2,b.a) u) [5,2] [] λL m=> .seg 0x1003000003000000001000000000003000000001000001000000000000000000000000003001000000000003006006006 λO=> .or (b.np.1=0) (¬(b.np.1=0)) (FI _) (λf=> .use _ (g7 w (b.np.1) 0 (b.np.2) (O 2) f) [] [] λM H=> .seg 0x5001003000003000000001000000000003000000001000001000000000000000000000000003001000000000003006 λE=> .use _ (dw w j d r (b.node.1,b.node.2) (by omega)) [4] [] λx J=> .seg 0 λN=> .view [3,3] [0] _ _ _ _ (aX v.symm) (.use _ (F f (d+1) k ((b.node.1,b.node.2,b.a).2.2) l) [2,0,1,0] [0] λo P=>p (o.1,o.2.1,o.2.2.1,o.2.2.2) trivial [0,0,0] [] [0])) (λf=> .use _ (g8 w (b.np.1) 0 (b.np.2) (O 2) f) [] [] λM H=> .seg 0 λE=> .view [2,2] [0] _ _ _ _ (aX v.symm) (.use _ (G f d k ((b.node.1,b.node.2,b.a).2.2) l) [1,1,1,0] [0] λx J=>p (x.1,x.2.1,x.2.2.1,x.2.2.2) trivial [0,0,0] [] [0]))))
theorem zU (w:E7) (e d h j n f b l:Nat) (I:List ai) (q:I.length<=800) (C:I≠[]):ab (env w) (f8 w e 0 d b h j n f [] l I [] (co I)):=by
 obtain ⟨i,r,rfl⟩:=Fy C
 obtain ⟨B,R,o⟩:=uw (I:=i::r) (i:=0) (ib:=i) rfl
 have u:i.np.1=0->∀(b k a l:Nat),ab (env w) (f8 w e 1 d b h j n f [es w.params [105] k (.ref a)] l (i::r) ([]++[i.node]) (co (i::r))):=λp b k a l=>by
  have:=sU w e d h j n f (i::r) q r 1 b k a l [i.node] rfl (by simp)
  simpa [co,p] using this
 have v:¬i.np.1=0->∀(b k a l:Nat),ab (env w) (f8 w e 1 d b h j n f [es w.params [105] k (.ref a)] l (i::r) [] (co (i::r))):=λp b k a l=>by
  have:=sU w e d h j n f (i::r) q r 1 b k a l [] rfl (by simp)
  simpa [co,p] using this
 exact av (have J:([]:List (Nat×Nat)).length<=1000:=(Gg _);λ_ s=> .view [] [0] _ _ _ _ (bw o) (.seg 412333662209 λE=> .use _ (qd w e n 0 f (Fx "dict") none (ay (i::r)) (i.node.1,i.node.2,i.a) B) [5,2] [] λL G=> .seg 0x1003000003000000001000000000003000000001000001000000000000000000000000003001000000000003006006006 λO=> .or (i.np.1=0) (¬(i.np.1=0)) (FI _) (λg=> .use _ (g7 w (i.np.1) 0 (i.np.2) (O 2) g) [] [] λD y=> .seg 0x5001003000003000000001000000000003000000001000001000000000000000000000000003001000000000003006 λt=> .use _ (dw w d b [] (i.node.1,i.node.2) (by omega)) [4] [] λx A=> .seg 0 λF=> .view [3,3] [0] _ _ _ _ (aX o.symm) (.use _ (u g (b+1) (O 0) ((i.node.1,i.node.2,i.a).2.2) (l+1)) [2,0,1,0] [0] λm H=>s (m.1,m.2.1,m.2.2.1,m.2.2.2) trivial [0,0,0] [] [0])) (λg=> .use _ (g8 w (i.np.1) 0 (i.np.2) (O 2) g) [] [] λD y=> .seg 0 λt=> .view [2,2] [0] _ _ _ _ (aX o.symm) (.use _ (v g b (O 0) ((i.node.1,i.node.2,i.a).2.2) (l+1)) [1,1,1,0] [0] λx A=>s (x.1,x.2.1,x.2.2.1,x.2.2.2) trivial [0,0,0] [] [0]))))
theorem zS (w:E7) (i b d f n e g l:Nat) (I:List ai) (h:I.length<=800) (j:I≠[]):ab (env w) {f8 w i 0 b g d f n e [] l I [] (co I) with c:=bB (sV w.params) 0 i b (j7 w.params f) d []}:=
 dq yg (o:=bZ "dict_valueiterator" n 0 (ay I).length e) rfl (by simp [f8]) (by kernel_rfl) (by kernel_rfl) rfl (zU w i b d f n e g l I h j)
def yF (w:E7) (S s:Nat) (k:Nat×Nat×Nat×Nat) (n:Nat) (p e:Int×Nat) (d:Nat) (I:List ai) (L:List aF) (b:List (Env×Addr×Obj)):af:={d:=100,α:=Nat×Nat×List aF,c:= .call (.ref 1168) ⟨[.ref S],[]⟩,need:=[(S,bd s),(s,be w.params k n .none p e),(n,dO w.params (.type "dict") none .ref (ay I) d)],r:=λx=> .ok (.ret .none),put:=λq=>[bd s,be w.params k n (.ref q.1) p e,dO w.params (.type "dict") none .ref (ay I) d],new:=λx=>[(x.1,ae ((co I).map cv) x.2.1)],post:=λq=>aC q.2.2=b,needB:=[aB I,a8 L],putB:=λq=>[aB I,a8 q.2.2],outer:=some (b.map (·.1))}
theorem zW (P:E6) (f:Nat) (o:Obj) (h:o.isFreed=false):cn (j7 P f,f,o):=⟨rfl,(by
 show (cW (kr P)).scope.kind≠ .module
 have:(cW (kr P)).scope.kind= .function:=(by kernel_rfl)
 rw [this];exact λz=>nomatch z),h⟩
theorem Dq (w:E7) (S s:Nat) (k:Nat×Nat×Nat×Nat) (n:Nat) (r:E9) (p g:Int×Nat) (d:Nat) (I:List ai) (f o:Nat) (e:Nat) (i:SL) (L:List aF) (b:List (Env×Addr×Obj)) (l:aC L=b) (h:Nat->Nat) (m:(am I).Nodup) (bo:∀x∈b,cn x) (A:fH h I) (j:I.length<=800):ab (env w) (sp w S s k n r p g d I (j7 w.params f) f [es w.params [115,101,108,102] o (.ref S)] e i L b):=Ds w S s k n r p g d I (j7 w.params f) f _ e i L b l h m (zW _ _ _ rfl) bo A j
theorem zR (w:E7) (S s:Nat) (k:Nat×Nat×Nat×Nat) (n:Nat) (p f:Int×Nat) (b:Nat) (I:List ai) (L:List aF) (d:List (Env×Addr×Obj)) (i:aC L=d) (r:Nat->Nat) (j:(am I).Nodup) (bo:∀x∈d,cn x) (A:fH r I) (h:I.length<=800) (l:I≠[]):ab (env w) (yF w S s k n p f b I L d):=av (λ_ u=> .seg 0x4001004004004004003000002002000000000002001000000000002001003000002002000000000002001000000000002001001001001000000001 λe=> .use _ (wk w n none b (ay I)) [3] [] λm C=> .seg 137455738882 λv=> .use _ (wu m n w (Fx "dict") none (ay I) b) [1,0] [] λo D=> .seg 3 λO=> .use _ (zS w o (O 0) (O 1) (e 0) n b 0 0 I h l) [3,1,0,1] [0] λq E=> .seg 0x7006000000000000006000000000006000000000006005007007007000006000000000006000006001000006001000000000006005003003003 λy=> .use _ (Dq w S s (k.1,k.2.1,k.2.2.1,k.2.2.2) n (Fq (O 0)) (p.1,p.2) (f.1,f.2) b I (e 0) (e 1) 1 (#[]) L d i r j bo A h) [5,5,0,3] [0,0] λt g=> .seg 67125252 λB=>u (O 0,q.1,t.2) g [0,0,0] [1] [0,0])
structure bt (e:bu) (d:Nat) (Γ:Ctx):Prop where
 hh:Γ.handled=none
 hl:dQ d Γ
section
variable {e:bu} {T:af} {d:Nat} {Γ:Ctx} {p:Pos} {s0 s:Fc} {own:List Addr} {r:ao}
theorem iR {t:Sem Flow} (h:ax e T (t>>=λf=>pure (.done f))) (H:bt e d Γ) (m:T.d<=d) (l:T.outer=none) (G:Go e.kt s0 own s (T.all++r)) {f0:Flow} (i:∀x,T.r x= .ok f0)
 {Q:Flow->Pos->Fc->Prop} {E:E9->Pos->Fc->Prop} (k:∀x g p,T.post x->Go e.kt s0 own g (T.res x++r)->Q f0 p g):wp (FQ pq e.w) Γ t Q E p s:=
 h.flow Γ H.hh (λes z=>by rw [l] at z;cases z) ⟨by have:=H.hl.cnt;omega,by have:=H.hl.units;omega⟩ p s G.sub.pre
  (λx g p f j A b=>by rw [i] at b;cases b;exact k x g p j (G.stepR A)) (λx g p v j A b=>by rw [i] at b;cases b)
theorem j4 {t:Sem E9} (h:ax e T ((t>>=λv=>pure (.ret v))>>=λf=>pure (.done f))) (H:bt e d Γ) (o:T.d<=d) (m:T.outer=none) (G:Go e.kt s0 own s (T.all++r)) {v0:T.α->E9} (j:∀x,T.r x= .ok (.ret (v0 x)))
 {Q:E9->Pos->Fc->Prop} {E:E9->Pos->Fc->Prop} (l:∀x b p,T.post x->Go e.kt s0 own b (T.res x++r)->Q (v0 x) p b):wp (FQ pq e.w) Γ t Q E p s:=by
 have q:=h.flow Γ H.hh (λes z=>by rw [m] at z;cases z) ⟨by have:=H.hl.cnt;omega,by have:=H.hl.units;omega⟩ p s G.sub.pre (Q:=λf p b=>∃v,f= .ret v/\Q v p b) (E:=λ_ _ _=>False)
  (λx b p f k A g=>by rw [j] at g;cases g;exact ⟨_,rfl,l x b p k (G.stepR A)⟩) (λx b p v k A g=>by rw [j] at g;cases g)
 rw [E5] at q
 refine Fs _ _ _ (λv p s h=> ?_) (λ_ _ _ h=>h.elim) _ _ q
 obtain ⟨i,n,h⟩:∃i,Flow.ret v= .ret i/\Q i p s:=h
 cases n;exact h
theorem fP {t:Sem Bool} (h:ax e T ((t>>=λb=>pure (.ret (.bool b)))>>=λf=>pure (.done f))) (H:bt e d Γ) (o:T.d<=d) (m:T.outer=none) (G:Go e.kt s0 own s (T.all++r)) {b0:Bool} (j:∀x,T.r x= .ok (.ret (.bool b0)))
 {Q:Bool->Pos->Fc->Prop} {E:E9->Pos->Fc->Prop} (l:∀x g p,T.post x->Go e.kt s0 own g (T.res x++r)->Q b0 p g):wp (FQ pq e.w) Γ t Q E p s:=by
 have q:=h.flow Γ H.hh (λes z=>by rw [m] at z;cases z) ⟨by have:=H.hl.cnt;omega,by have:=H.hl.units;omega⟩ p s G.sub.pre (Q:=λf p g=>f= .ret (.bool b0)/\Q b0 p g) (E:=λ_ _ _=>False)
  (λx g p f k A i=>by rw [j] at i;cases i;exact ⟨rfl,l x g p k (G.stepR A)⟩) (λx g p v k A i=>by rw [j] at i;cases i)
 rw [E5] at q
 refine Fs _ _ _ (λv p s h=> ?_) (λ_ _ _ h=>h.elim) _ _ q
 obtain ⟨n,h⟩:Flow.ret (.bool v)= .ret (.bool b0)/\Q b0 p s:=h
 cases n;exact h
end
theorem xw {w:E7} {i:Ctx} {u:List Stmt} {d:Env} (F:i.code= .func u d) {p X Y:Pos} {s:Fc} {t:Str} {ac:Sem E9} {f v:Addr} {y x:Obj} {j:FuncData} {m:Arg} {vs:Array E9} {o:Str} {tf:Tok} {Q:E9->Pos->Fc->Prop} {E:E9->Pos->Fc->Prop}
 (P:d.kindOf "super"=some .globalImplicit) (O:d.kindOf "__class__"=some .free) (D:(t==("__class__":Str))=false) (N:d.func=some f) (I:s.heap.get? f=some y) (J:y.data= .func j)
 (hp:(j.params.posonlyargs++j.params.args).head? =some m) (H:d.code= .ref v) (G:s.heap.get? v=some x) (R:x.data= .fields vs) (U:vs[2]? =some (.str o tf))
 (L:((pq.main.file:Str)==o)=true) (S:(pq.main.scope.names.lookup ("super":Str)).isSome=false)
 (h:∀p,wp (FQ pq w) i (HI d "super") (λg p A=>g= .type "super"/\wp (FQ pq w) i (HI d "__class__") (λn p k=>∀p,wp (FQ pq w) i (HI d m.arg) (λZ p B=>
  wp (FQ pq w) i (isType n) (λb p C=>b=true/\wp (FQ pq w) i (call (.type "super") [n,Z]) Q E p C) E p B) E p k) E p A) E p s):
 wp (FQ pq w) i (attributeBase (.Call (.Name "super" X) [] [] Y) t d ac) Q E p s:=by
 unfold attributeBase
 simp only [bne_self_eq_false,D,P,O,N,H,Bool.or_false,Bool.or_self,Gc,if_false,Option.isSome_some,if_true,pure_bind]
 unfold funcData
 rw [E5,E5]
 refine aL (wpAny_load I λp=> ?_)
 rw [J]
 show wp _ _ (pure j) _ _ p s
 refine aL (E3 λp=> ?_)
 simp only [hp]
 rw [E5]
 refine aL (wpAny_askSetting λp=> ?_)
 rw [E5]
 refine aL (FY G R U λp=> ?_)
 have M:((FQ pq w).prog.main.file==o)=true:=L
 have T:(List.lookup (Str.ofString "super") (FQ pq w).prog.main.scope.names).isSome=false:=S
 simp only [M,T,if_true,Gc,if_false]
 rw [E5]
 refine aL (GX λp=> ?_)
 rw [E5]
 refine aL (Gz λp=> ?_)
 rw [E5]
 refine Fs _ _ _ (λg p A q=> ?_) (λ_ _ _ z=>z) _ _ (h p)
 obtain ⟨rfl,q⟩:=q
 rw [E5]
 refine Fs _ _ _ (λn p k V=> ?_) (λ_ _ _ z=>z) _ _ q
 rw [E5]
 refine Fs _ _ _ (λl p s h=>(h p)) (λe p s h=>h p) _ _ (ks_wpAt_noComps (M:=FQ pq w) (A:=ia i) (body:=u) (env':=d) (s:=k) (E:=λe s=>∀p,E e p s) (Q:=λl s=>∀p,_) (λp=> ?_) i p F (kC i))
 show wp _ _ (HI d m.arg>>=_) _ _ p k
 rw [E5]
 refine Fs _ _ _ (λgt p B W=> ?_) (λ_ _ _ z=>z) _ _ (V p)
 rw [E5]
 refine Fs _ _ _ (λb p C r=> ?_) (λ_ _ _ z=>z) _ _ W
 obtain ⟨rfl,r⟩:=r
 exact r
theorem xv {w:E7} {d:Ctx} {N:List Stmt} {e:Env} (P:d.code= .func N e) {p n o j i r:Pos} {s:Fc} {l:Str} {k:List Expr} {m:List Keyword} {f x:Addr} {F D:Obj} {t:FuncData} {u:Arg} {vs:Array E9} {y:Str} {tf:Tok} {Q:Flow->Pos->Fc->Prop} {E:E9->Pos->Fc->Prop}
 (Z:e.kindOf "super"=some .globalImplicit) (Y:e.kindOf "__class__"=some .free) (O:(l==("__class__":Str))=false) (W:e.func=some f) (T:s.heap.get? f=some F) (U:F.data= .func t)
 (hp:(t.params.posonlyargs++t.params.args).head? =some u) (S:e.code= .ref x) (R:s.heap.get? x=some D) (ac:D.data= .fields vs) (io:vs[2]? =some (.str y tf))
 (V:((pq.main.file:Str)==y)=true) (gt:(pq.main.scope.names.lookup ("super":Str)).isSome=false) (X:interactive e=false)
 (h:∀p,wp (FQ pq w) d (HI e "super") (λg p H=>g= .type "super"/\wp (FQ pq w) d (HI e "__class__") (λq p I=>∀p,wp (FQ pq w) d (HI e u.arg) (λIu p J=>
  wp (FQ pq w) d (isType q) (λb p L=>b=true/\wp (FQ pq w) d (call (.type "super") [q,Iu]) (λG p M=>wp (FQ pq w) d ((standAt j.atName>>=λ_=>methodCall (.Call (.Name "super" n) [] [] o) l j i e G (k.length+m.length) (backTo i (starEach k e)) (backToKw i (keywordEach m e)))>>=λv=>dropValue (.Call (.Attribute (.Call (.Name "super" n) [] [] o) l j) k m i) r v) Q E p M) E p L) E p J) E p I) E p H) E p s):
 wp (FQ pq w) d (exec (.Expr (.Call (.Attribute (.Call (.Name "super" n) [] [] o) l j) k m i) r) e) Q E p s:=by
 rw [arm_exec_Expr,E5]
 refine aL (Gz λp=> ?_)
 show wp _ _ (if interactive e=true then _ else _) _ _ p s
 rw [if_neg (by rw [X];exact Fg)]
 show wp _ _ (eval (.Call (.Attribute (.Call (.Name "super" n) [] [] o) l j) k m i) e>>=λv=>dropValue (.Call (.Attribute (.Call (.Name "super" n) [] [] o) l j) k m i) r v) _ _ p s
 rw [E5,arm_eval_Call,E5]
 refine xw P Z Y O W T U hp S R ac io V gt λp=> ?_
 refine Fs _ _ _ (λg p H A=>⟨A.1,Fs _ _ _ (λq p I rw p=>Fs _ _ _ (λIv p J It=>Fs _ _ _ (λb p L B=>⟨B.1,Fs _ _ _ (λG p M C=> ?_) (λ_ _ _ z=>z) _ _ B.2⟩) (λ_ _ _ z=>z) _ _ It) (λ_ _ _ z=>z) _ _ (rw p)) (λ_ _ _ z=>z) _ _ A.2⟩) (λ_ _ _ z=>z) _ _ (h p)
 rw [E5] at C
 exact C
def cO (P:E6) (d:Nat) (m:List (Nat×Nat×Int×Nat)) (e:Nat):Obj:=dO P (.ref 1093) (some d) iv m e
def y6 (P:E6):af:={d:=60,α:=Nat×Nat×Nat,c:= .call (.ref 1093) ⟨[],[]⟩,need:=[],r:=λx=> .ok (.ret (.ref x.1)),new:=λx=>[(x.1,cO P x.2.1 [] 0),(x.2.1,oD [] x.2.2)]}
def eD (o:Obj) (a f:Nat):Env:={dY o a f with cells:=[(⟨⟨[95,95,99,108,97,115,115,95,95]⟩⟩,874)]}
def cD (P:E6) (f:Nat):Env:=eD (lS P) 887 f
def ci (P:E6):List Stmt:=cX (lS P)
def bQ (P:E6) (k:Nat×Nat×Nat) (S:Nat) (i:E9) (b:Nat):Obj:=bD [es P [115,101,108,102] k.1 (.ref S),es P [105,116,101,114,97,98,108,101] k.2.1 i,es P [107,119,100,115] k.2.2 (.ref b)] 3
def bN (S:Nat):Obj:={cls:= .type "super",data:= .fields #[.ref 1093, .ref S, .ref 1093]}
def bl (C:ao) (f:Flow):af:={d:=10,α:=Unit,need:=C,r:=λ_=> .ok f,put:=λ_=>C.map (·.2)}
def rR (C:ao) (S:Nat):af:={d:=10,α:=Nat,need:=C,r:=λx=> .ok (.ret (.ref x)),put:=λ_=>C.map (·.2),new:=λx=>[(x,bN S)]}
def tV (t:Sem E9):Sem Gn:=(t>>=λv=>pure (.ret v))>>=λf=>pure (.done f)
def e6 (t:Sem Bool):Sem Gn:=(t>>=λv=>pure (.ret (.bool v)))>>=λf=>pure (.done f)
def tF (t:Sem Flow):Sem Gn:=t>>=λf=>pure (.done f)
def jJ (st:Stmt) (e:Env) (h:E9):Sem Flow:=match st with
 | .Expr (.Call (.Attribute o f b) d k p) g=>(standAt b.atName>>=λ_=>methodCall o f b p e h (d.length+k.length) (backTo p (starEach d e)) (backToKw p (keywordEach k e)))>>=λv=>dropValue (.Call (.Attribute o f b) d k p) g v
 | _=>pure .next
def e7 (s:Stmt):Expr:=(sP s).2.1
def xS (s:Stmt):Pos:=(sP s).2.2.2.2.2.1
def gy (e:Expr):Expr:=(eP e).1
def En (e:Expr):List Expr:=match e with | .Call _ a _ _=>a | _=>[]
def Em (e:Expr):List Keyword:=match e with | .Call _ _ k _=>k | _=>[]
def my (e:Expr):Pos:=(eP e).2.2.1
def vL (e:Expr):Expr:=(eP e).1
def mD (e:Expr):Str:=match e with | .Attribute _ n _=>n | _=>⟨⟨[]⟩⟩
def jK (s:Stmt):Stmt:= .Expr (.Call (.Attribute (.Call (.Name "super" (my (gy (vL (gy (e7 s)))))) [] [] (my (vL (gy (e7 s))))) (mD (gy (e7 s))) (my (gy (e7 s)))) (En (e7 s)) (Em (e7 s)) (my (e7 s))) (xS s)
def jF (o:Obj):Array E9:=match o.data with | .fields vs=>vs | _=> #[]
def qU (v:Option E9):Str:=match v with | some (.str s _)=>s | _=>⟨⟨[]⟩⟩
def xl (v:Option E9):Tok:=match v with | some (.str _ t)=>t | _=>0
def rm (o:Obj):Arg:=(((cW o).params.posonlyargs++(cW o).params.args).head?).getD {arg:=⟨⟨[]⟩⟩,annotation:=none,pos:=default}
structure pP (P:E6) (f cc:Nat) (of oc:Obj):Prop where
 kf:kt P f=some of
 kc:kt P cc=some oc
 fd:of.data= .func (cW of)
 hp:((cW of).params.posonlyargs++(cW of).params.args).head? =some (rm of)
 code:(cW of).code= .ref cc
 ks:∀fr,(eD of f fr).kindOf "super"=some .globalImplicit
 kk:∀fr,(eD of f fr).kindOf "__class__"=some .free
 dat:oc.data= .fields (jF oc)
 vs:(jF oc)[2]? =some (.str (qU (jF oc)[2]?) (xl (jF oc)[2]?))
 file:((pq.main.file:Str)==qU (jF oc)[2]?)=true
 top:(pq.main.scope.names.lookup ("super":Str)).isSome=false
 int:∀fr,interactive (eD of f fr)=false
 slf:(rm of).arg="self"
theorem CA (P:E6):pP P 887 886 (lS P) (tt P):=⟨(by kernel_rfl),(by kernel_rfl),(by kernel_rfl),(by kernel_rfl),(by kernel_rfl),λf=>(by kernel_rfl),λf=>(by kernel_rfl),(by kernel_rfl),(by kernel_rfl),(by kernel_rfl),(by kernel_rfl),λf=>(by kernel_rfl),(by kernel_rfl)⟩
theorem ww (P:E6):pP P 936 935 (lR P) (ts P):=⟨(by kernel_rfl),(by kernel_rfl),(by kernel_rfl),(by kernel_rfl),(by kernel_rfl),λf=>(by kernel_rfl),λf=>(by kernel_rfl),(by kernel_rfl),(by kernel_rfl),(by kernel_rfl),(by kernel_rfl),λf=>(by kernel_rfl),(by kernel_rfl)⟩
theorem qM {w:E7} {g:Ctx} {f j b S k l:Nat} {o v:Obj} {D:List Stmt} {st:Stmt} {m:List (Nat×Nat×Int×Nat)} {n:Obj} {e s:Fc} {own:List Addr} {all rS rf:ao} {p:Pos} (O:pP w.params f j o v) (R:g.code= .func D (eD o f b)) (u:st=jK st) (P:(mD (gy (e7 st))==("__class__":Str))=false) (H:bt (env w) 20 g)
 (F:ax (env w) (bl [] (.ret (.type "super"))) (tV (HI (eD o f b) "super"))) (I:ax (env w) (bl [] (.ret (.ref 1093))) (tV (HI (eD o f b) "__class__"))) (J:ax (env w) (bl [(b,n)] (.ret (.ref S))) (tV (HI (eD o f b) "self")))
 (L:ax (env w) (bl [] (.ret (.bool true))) (e6 (isType (.ref 1093)))) (M:ax (env w) (rR [(S,cO w.params k m l)] S) (tV (PySem.call (.type "super") [.ref 1093, .ref S])))
 (r:all.Perm ([(S,cO w.params k m l)]++rS)) (t:all.Perm ([(b,n)]++rf)) (G:Go (env w).kt e own s all) {Q:Flow->Pos->Fc->Prop} {E:E9->Pos->Fc->Prop}
 (N:∀d x p,Go (env w).kt e own x ((d,bN S)::all)->wp (FQ pq w) g (jJ st (eD o f b) (.ref d)) Q E p x):wp (FQ pq w) g (exec st (eD o f b)) Q E p s:=by
 rw [u]
 have T:(eD o f b).code= .ref j:=O.code
 refine xv R (O.ks b) (O.kk b) P rfl (G.inv.base f o O.kf) O.fd O.hp T (G.inv.base j v O.kc) O.dat O.vs O.file O.top (O.int b) λp=> ?_
 refine j4 F H (by show 10<=20;omega) rfl (r:=all) G (λ_=>rfl) λ_ V p _ A=>⟨rfl, ?_⟩
 refine j4 I H (by show 10<=20;omega) rfl (r:=all) A (λ_=>rfl) λ_ W p _ B p=> ?_
 rw [O.slf]
 refine j4 J H (by show 10<=20;omega) rfl (r:=rf) (Go.perm B t) (λ_=>rfl) λ_ U p _ h=> ?_
 have h:Go (env w).kt e own U all:=Go.perm (all:=[(b,n)]++rf) h t.symm
 refine fP L H (by show 10<=20;omega) rfl (r:=all) h (λ_=>rfl) λ_ s4 p _ C=>⟨rfl, ?_⟩
 refine j4 M H (by show 10<=20;omega) rfl (r:=rS) (Go.perm C r) (v0:=λd=> .ref d) (λ_=>rfl) λd y p _ i=> ?_
 have i:Go (env w).kt e own y ((S,cO w.params k m l)::(d,bN S)::rS):=i
 have q:=N d y p (Go.perm i ((List.Perm.swap ..).trans (.cons _ r.symm)))
 rw [u] at q
 exact q
theorem CM (w:E7) (f:Nat):ax (env w) (bl [] (.ret (.type "super"))) (tV (HI (cD w.params f) "super")):=tk _ (λ_ b=> .seg 0 λO=>b () trivial [] [] [])
theorem CL (w:E7) (f:Nat):ax (env w) (bl [] (.ret (.ref 1093))) (tV (HI (cD w.params f) "__class__")):=tk _ (λ_ b=> .seg 0 λO=>b () trivial [] [] [])
theorem CK (w:E7) (f:Nat) (k:Nat×Nat×Nat) (S:Nat) (i:E9) (b:Nat):ax (env w) (bl [(f,bQ w.params k S i b)] (.ret (.ref S))) (tV (HI (cD w.params f) "self")):=tk _ (λ_ d=> .seg 1 λO=>d () trivial [0] [] [])
theorem uv (w:E7):ax (env w) (bl [] (.ret (.bool true))) (e6 (isType (.ref 1093))):=tk _ (λ_ b=> .seg 0 λO=>b () trivial [] [] [])
theorem uu (w:E7) (S d:Nat) (m:List (Nat×Nat×Int×Nat)) (e:Nat):ax (env w) (rR [(S,cO w.params d m e)] S) (tV (PySem.call (.type "super") [.ref 1093, .ref S])):=tk _ (λ_ b=> .seg 0x1001001001001001000002002000001001001001001001001000001001 λO=>b (O 0) trivial [1] [0] [])
theorem CJ (w:E7) (f S d s e:Nat):ax (env w) (bl [(S+1228,cO w.params d [] e),(s,bN (S+1228))] .next) (tF (jJ (aA (ci w.params) 0) (cD w.params f) (.ref s))):=tk _ (λ_ b=> .seg 0x2002001001001001000001001001000000002002002001002001002002 λO=>b () trivial [1,1] [] [])
theorem CG (P:E6):ci P=jK (aA (ci P) 0)::(ci P).drop 1:=by kernel_rfl
theorem ut (P:E6):aA (ci P) 0=jK (aA (ci P) 0):=by kernel_rfl
theorem CB (P:E6):(mD (gy (e7 (aA (ci P) 0)))==("__class__":Str))=false:=by kernel_rfl
theorem us (w:E7) (f:Nat) (k:Nat×Nat×Nat) (S g u h:Nat) (t:E9) {rS rf:ao} (T:af) (D:ax (env w) T (tF (Hb ((ci w.params).drop 1) (cD w.params f)))) (M:∀x,T.r x= .ok .next) (e:Nat) (C:T.d<=e) (R:20<=e) (L:T.outer=none) (B:T.anyH=false)
 (l:T.all.Perm ([(S,cO w.params g [] h)]++rS)) (I:T.all.Perm ([(f,bQ w.params k S t u)]++rf)):ab (env w) {T with d:=e,c:= .func (ci w.params) (cD w.params f),r:=λ_=> .ok (.ret .none)}:=by
 intro i m n U r p s F P E
 have n:i.handled=none:=n.resolve_left (by show ¬T.anyH=true;rw [B];exact Fg)
 have A:bt (env w) e i:=⟨n,r⟩
 have H:bt (env w) 20 i:=⟨n,⟨by have:cF i.below+4*e<=640:=r.cnt;omega,by have:HR i.below+10*e<=2000:=r.units;omega⟩⟩
 have G:Go (env w).kt s (keys T.all) s T.all:=Go.start P
 have V:1228<=S:=P.ge (S,cO w.params g [] h) (l.symm.subset EZ)
 have m:i.code= .func (ci w.params) (cD w.params f):=m
 obtain ⟨d,rfl⟩:∃d,S=d+1228:=⟨S-1228,by omega⟩
 rw [F1,m]
 show wp _ _ (do point;match<-(Hb (ci w.params) (cD w.params f)).onRaise (leaving (cD w.params f)) with | .ret v=>ret v | _=>ret .none) _ _ p s
 rw [E5]
 refine aL (wpAny_point λp=> ?_)
 rw [E5,Gs,show Hb (ci w.params) (cD w.params f)=Hb (jK (aA (ci w.params) 0)::(ci w.params).drop 1) (cD w.params f) from congrArg (λb=>Hb b (cD w.params f)) (CG w.params),Ip,E5,<-ut]
 refine qM (CA w.params) m (ut _) (CB _) H (CM w f) (CL w f) (CK w f k _ t u) (uv w) (uu w _ g [] h) l I G λj N p o=> ?_
 have o:Go (env w).kt s (keys T.all) N ([((d+1228),cO w.params g [] h),(j,bN (d+1228))]++rS):=Go.perm o ((List.Perm.cons _ l).trans (.swap ..))
 refine iR (CJ w f d g j h) H (by show 10<=20;omega) rfl (r:=rS) o (λ_=>rfl) λ_ O p _ q=> ?_
 have q:Go (env w).kt s (keys T.all) O (T.all++[(j,bN (d+1228))]):=Go.perm (all:=[((d+1228),cO w.params g [] h),(j,bN (d+1228))]++rS) q (((List.Perm.swap ..).trans (.cons _ l.symm)).trans (FD (l₁:=[(j,bN (d+1228))])))
 refine iR D A C L q M λx Q p J y=> ?_
 exact E x Q J y.sub.after
section
variable {β:Type} {w:E7} {f:β->E9} {m:List (Nat×Nat×β)} {A:Around} {E:E9->Fc->Prop} {s:Fc} {d:Addr} {cls:E9} {dd:Option Addr} {ep c t:Nat}
theorem EH {v:β} {Q:Unit->Fc->Prop} (e:s.heap.get? d=some (dO w.params cls dd f m ep)) (g:m.length<=1000)
 (h:∀F:Obj->Obj,F (dO w.params cls dd f m ep)=dO w.params cls dd f (aw m c t v) (fv m c ep)->Q () {s with heap:=s.heap.update d F}):
 Fp (FQ pq w) A (dictSetHashed d (.str ⟨⟨[c]⟩⟩ t) ((sk w).hash ⟨⟨[c]⟩⟩) (f v)) Q E s:=by
 unfold dictSetHashed
 try with_reducible refine Gh ?_
 refine E1 (kP (m:=m) e ?_)
 cases b:m.findIdx? λx=>decide (x.1=c) with
 | some i=>
  refine E1 (GX (E1 (wpAny_updateDict e rfl (wpAny_point (h _ ?_)))))
  unfold fv;rw [b]
  unfold dO Obj.mapDict
  rw [nR b]
  simp
 | none=>
  refine E1 (GX (wpAny_updateDictKeys (hz:=by simp [Gu];omega) e rfl (h _ ?_)))
  unfold fv;rw [b]
  unfold dO He
  rw [nS b]
  simp [aS]
  rfl
theorem zN {i:Nat} {x:Nat×Nat×β} (k:(ak m).Nodup) (h:m[i]? =some x):aw (m.take i) x.1 x.2.1 x.2.2=m.take (i+1):=by
 obtain ⟨o,e⟩:=E8.mp h
 have l:m.take (i+1)=m.take i++[x]:=by rw [List.take_succ,h];rfl
 rw [l]
 refine lO λy n z=> ?_
 obtain ⟨j,g,q⟩:=Is.mp n
 rw [FN] at g
 have p:j< i:=by omega
 rw [GM] at q
 have b:(ak m)[j]'(by simp [ak];omega)=(ak m)[i]'(by simp [ak];omega):=by
  simp only [ak,List.getElem_map,q,z,e]
 have:=(List.getElem_inj k).mp b
 omega
theorem pN {nm:String} {o:Addr} {l:E9} {n:Option Addr} {p:Nat} {C:Fc} {own:List Addr} {r:ao} {Q:Unit->Fc->Prop} (R:d≠o) (S:1228<=o) (V:d∈own)
 (D:ap C s own ((d,dO w.params cls dd f [] ep)::(o,dO w.params l n f m p)::r)) (U:m.length<=8) (W:(ak m).Nodup)
 (O:∀g e,ap C g own ((d,dO w.params cls dd f m e)::(o,dO w.params l n f m p)::r)->Q () g):
 Fp (FQ pq w) A (Hn nm d o) Q E s:=by
 have v:s.heap.get? o=some (dO w.params l n f m p):=D.has (o,_) (E2 _ EZ)
 unfold Hn
 rw [if_neg (by simpa using R)]
 unfold Gq
 rw [if_neg (by rw [eL S];exact Fg)]
 refine E1 (E3 ?_)
 refine E1 (FO v rfl ?_)
 dsimp only
 have J:(m.map (aS w.params f)).toArray.size=m.length:=by simp
 have u:((m.map (aS w.params f)).toArray.all λe=>(keyPart e.key).isSome)=true:=by
  rw [Array.all_eq_true']
  intro x hx
  obtain ⟨y,_,rfl⟩:=Gj.mp (List.mem_toArray.mp hx)
  rfl
 have few:(decide ((m.map (aS w.params f)).toArray.size<=8)&&(m.map (aS w.params f)).toArray.all λe=>(keyPart e.key).isSome)=true:=by
  rw [u,Bool.and_true,decide_eq_true_eq,J]
  exact U
 rw [few]
 rw [if_neg (by simp)]
 refine E1 (Gi v rfl ?_)
 refine E1 (FO v rfl ?_)
 refine E1 ?_
 rw [GY]
 simp only [Std.Legacy.Range.size,Nat.sub_zero,Nat.add_sub_cancel,Nat.div_one]
 rw [J]
 refine wpAny_forIn_list _
  (λB _ g=>∃i e,B=HU i (m.length-i)/\i<=m.length/\ap C g own ((d,dO w.params cls dd f (m.take i) e)::(o,dO w.params l n f m p)::r))
  _ ?_ ?_ _ _ ⟨0,ep,by simp,Gg _,by simpa using D⟩
 .rintro x B b g ⟨i,e,j,H,k⟩
  have I:i< m.length:=by
   rcases Nat.lt_or_ge i m.length with h | h
   .exact h
   .rw [Nat.sub_eq_zero_of_le h] at j;simp at j
  obtain ⟨rfl,Z⟩:x=i/\B=HU (i+1) (m.length-(i+1)):=by
   have e:m.length-i=(m.length-(i+1))+1:=by omega
   rw [e,HN] at j
   injection j with N u
   exact ⟨N,u⟩
  have X:g.heap.get? o=some (dO w.params l n f m p):=k.has (o,_) (E2 _ EZ)
  have P:g.heap.get? d=some (dO w.params cls dd f (m.take x) e):=k.has (d,_) EZ
  refine E1 (FO X rfl ?_)
  obtain ⟨y,L⟩:∃y,m[x]? =some y:=⟨m[x],Ff I⟩
  have M:((m.map (aS w.params f)).toArray)[x]? =some (aS w.params f y):=by
   rw [Ft,Fi,L];rfl
  simp only [M]
  show Fp _ _ (holding [(aS w.params f y).key,(aS w.params f y).val] (dictSetHashed d (.str ⟨⟨[y.1]⟩⟩ y.2.1) ((sk w).hash ⟨⟨[y.1]⟩⟩) (f y.2.2))>>=_) _ _ g
  refine E1 (Gh (EH P (by rw [FN];omega) λF G=> ?_))
  have q:=k.set F V (by rw [G];rfl)
  rw [G,zN W L] at q
  have Y:=q.has (o,_) (E2 _ EZ)
  refine E1 (Gi Y rfl ?_)
  rw [if_neg (by simp)]
  exact E3 ⟨x+1,_,Z,I,q⟩
 .rintro b g ⟨i,e,j,H,k⟩
  have T:i=m.length:=by
   rcases Nat.lt_or_ge i m.length with h | h
   .have e:m.length-i=(m.length-(i+1))+1:=by omega
    rw [e,HN] at j;exact nomatch j
   .exact Nat.le_antisymm H h
  subst T
  rw [GH] at k
  exact E3 (O g e k)
end
def yA (P:E6) (o:Nat) (m:List (Nat×Nat×Int×Nat)) (e:Nat):af:=bl [(o,dO P (.type "dict") none iv m e)] (.ret (.bool true))
def yz (P:E6) (o b:Nat) (m:List (Nat×Nat×Int×Nat)) (e:Nat):af:=bl [(o,cO P b m e)] (.ret (.bool true))
def yU (P:E6) (o b d:Nat) (m:List (Nat×Nat×Int×Nat)) (e:Nat):af:=bl [(o,cO P b m e),(b,oD [] d)] (.ret (.bool false))
theorem zC (w:E7) (o:Nat) (m:List (Nat×Nat×Int×Nat)) (e:Nat):ax (env w) (yA w.params o m e) (e6 (Builtin.Dict.readDirectly (.ref o))):=tk _ (λ_ b=> .seg 4097 λO=>b () trivial [0] [] [])
theorem sR (w:E7) (o b:Nat) (m:List (Nat×Nat×Int×Nat)) (e:Nat):ax (env w) (yz w.params o b m e) (e6 (Builtin.Dict.readDirectly (.ref o))):=tk _ (λ_ d=> .seg 16777217 λO=>d () trivial [0] [] [])
theorem uc (w:E7) (o b d:Nat) (m:List (Nat×Nat×Int×Nat)) (e:Nat):ax (env w) (yU w.params o b d m e) (e6 (getAttr? (.ref o) "keys">>=λv=>pure v.isNone)):=tk _ (λ_ f=> .seg 0x1001001002000001001000000000001001000001001000000000000000000001 λO=>f () trivial [1,1] [] [])
theorem pL {w:E7} {A:Around} {E:E9->Fc->Prop} {s:Fc} {a:Addr} {o:Obj} {Q:E9->Fc->Prop} (h:s.heap.get? a=some o) (b:Q o.cls s):Fp (FQ pq w) A (typeOf (.ref a)) Q E s:=by
 unfold typeOf
 refine E1 (wpAny_loadPart h (E3 ?_))
 exact b
def jR (P:E6) (d b g o:Nat) (m:List (Nat×Nat×Int×Nat)) (f:Nat):af:={d:=20,α:=Nat,c:= .builtin "dict.update" ⟨[.ref d, .ref o],[]⟩,need:=[(d,cO P b [] g),(o,dO P (.type "dict") none iv m f)],r:=λ_=> .ok (.ret .none),put:=λe=>[cO P b m e,dO P (.type "dict") none iv m f]}
theorem wA (w:E7) (d f g o:Nat) (m:List (Nat×Nat×Int×Nat)) (b:Nat) (v:m.length<=8) (y:(ak m).Nodup):ab (env w) (jR w.params d f g o m b):=by
 intro i j k E x p s D P q
 have k:i.handled=none:=k.resolve_left (λz=>nomatch z)
 have H:bt (env w) 20 i:=⟨k,x⟩
 have G:Go (env w).kt s (keys (jR w.params d f g o m b).all) s (jR w.params d f g o m b).all:=Go.start P
 have r:s.heap.get? d=some (cO w.params f [] g):=P.has (d,_) EZ
 have C:s.heap.get? o=some (dO w.params (.type "dict") none iv m b):=P.has (o,_) (E2 _ EZ)
 have u:1228<=o:=P.ge (o,dO w.params (.type "dict") none iv m b) (E2 _ EZ)
 have t:d≠o:=by
  have:=P.nd
  intro z;subst z
  exact absurd this (by simp [jR,af.all])
 have j:i.code= .builtin "dict.update" ⟨[.ref d, .ref o],[]⟩:=j
 rw [F1]
 show wp _ _ (FK table i.code) _ _ p s
 rw [j,aE _ _ F.entry_dict_update]
 show wp _ _ (Gy "update" ⟨[.ref d, .ref o],[]⟩>>=_) _ _ p s
 unfold Gy
 rw [E5,E5]
 refine aL (gA (d:=d) rfl P.base r (.inr rfl) λp=> ?_)
 show wp _ _ (pure (d,[Fq o])) _ _ p s
 refine aL (E3 λp=> ?_)
 show wp _ _ (GE "dict.update" d (.ref o) [] .none) _ _ p s
 unfold GE
 rw [E5]
 refine aL (pL C λp=> ?_)
 have B:¬((dO w.params (.type "dict") none iv m b).cls != .type "dict")=true:=by
  show ¬(Fx "dict" !=Fx "dict")=true
  simp
 rw [if_neg B]
 dsimp only
 unfold Builtin.Dict.merge
 rw [E5,E5]
 refine fP (zC w o m b) H (by show 10<=20;omega) rfl (r:=[(d,cO w.params f [] g)]) (Go.perm G (.swap ..)) (b0:=true) (λ_=>rfl) λ_ l p _ h=> ?_
 have h:Go (env w).kt s (keys (jR w.params d f g o m b).all) l [(o,dO w.params (.type "dict") none iv m b),(d,cO w.params f [] g)]:=h
 have h:=Go.perm h (.swap ..)
 rw [if_pos rfl]
 show wp _ _ (Hn "dict.update" d o) _ _ p l
 refine aL (pN (cls:= .ref 1093) (dd:=some f) (f:=iv) (r:=[]) t u (EZ) h.after v y λn e A p=> ?_)
 show wp _ _ (ret .none) _ _ p n
 exact q e n trivial A
def iH (P:E6) (d f i o b h:Nat) (m:List (Nat×Nat×Int×Nat)) (g:Nat):af:={d:=20,α:=Nat,c:= .builtin "dict.update" ⟨[.ref d, .ref o],[]⟩,need:=[(d,cO P f [] i),(o,cO P b m g),(b,oD [] h)],r:=λ_=> .ok (.ret .none),put:=λe=>[cO P f m e,cO P b m g,oD [] h]}
theorem wB (w:E7) (d i j o f l:Nat) (m:List (Nat×Nat×Int×Nat)) (g:Nat) (J:m.length<=8) (M:(ak m).Nodup):ab (env w) (iH w.params d i j o f l m g):=by
 intro r u x S L p s R P C
 have x:r.handled=none:=x.resolve_left (λz=>nomatch z)
 have H:bt (env w) 20 r:=⟨x,L⟩
 have G:Go (env w).kt s (keys (iH w.params d i j o f l m g).all) s [(d,cO w.params i [] j),(o,cO w.params f m g),(f,oD [] l)]:=Go.start P
 have D:s.heap.get? d=some (cO w.params i [] j):=P.has (d,_) EZ
 have O:s.heap.get? o=some (cO w.params f m g):=P.has (o,_) (E2 _ EZ)
 have I:1228<=o:=P.ge (o,cO w.params f m g) (E2 _ EZ)
 have E:d≠o:=by
  have:=P.nd
  intro z;subst z
  exact absurd this (by simp [iH,af.all])
 have u:r.code= .builtin "dict.update" ⟨[.ref d, .ref o],[]⟩:=u
 rw [F1]
 show wp _ _ (FK table r.code) _ _ p s
 rw [u,aE _ _ F.entry_dict_update]
 show wp _ _ (Gy "update" ⟨[.ref d, .ref o],[]⟩>>=_) _ _ p s
 unfold Gy
 rw [E5,E5]
 refine aL (gA (d:=d) rfl P.base D (.inr rfl) λp=> ?_)
 show wp _ _ (pure (d,[Fq o])) _ _ p s
 refine aL (E3 λp=> ?_)
 show wp _ _ (GE "dict.update" d (.ref o) [] .none) _ _ p s
 unfold GE
 rw [E5]
 refine aL (pL O λp=> ?_)
 have N:((cO w.params f m g).cls != .type "dict")=true:=by
  rw [show (cO w.params f m g).cls= .ref 1093 from rfl];rfl
 rw [if_pos N]
 dsimp only
 have k:=fP (uc w o f l m g) H (by show 10<=20;omega) rfl (r:=[(d,cO w.params i [] j)]) (Go.perm G (FD (l₁:=[(d,cO w.params i [] j)]))) (b0:=false) (λ_=>rfl) (p:=p)
  (Q:=λb p q=>b=false/\Go (env w).kt s (keys (iH w.params d i j o f l m g).all) q [(o,cO w.params f m g),(f,oD [] l),(d,cO w.params i [] j)]) (E:=λ_ _ _=>False) λ_ q p _ t=>⟨rfl,t⟩
 rw [E5] at k
 rw [E5]
 refine Fs _ _ _ (λv p q h=> ?_) (λ_ _ _ h=>h.elim) _ _ k
 obtain ⟨Q,t⟩:v.isNone=false/\Go (env w).kt s (keys (iH w.params d i j o f l m g).all) q [(o,cO w.params f m g),(f,oD [] l),(d,cO w.params i [] j)]:=h
 rw [if_neg (by rw [Q];exact Fg)]
 unfold Builtin.Dict.merge
 rw [E5,E5]
 refine fP (sR w o f m g) H (by show 10<=20;omega) rfl (r:=[(f,oD [] l),(d,cO w.params i [] j)]) t (b0:=true) (λ_=>rfl) λ_ y p _ n=> ?_
 have n:Go (env w).kt s (keys (iH w.params d i j o f l m g).all) y [(o,cO w.params f m g),(f,oD [] l),(d,cO w.params i [] j)]:=n
 have n:=Go.perm n (all':=[(d,cO w.params i [] j),(o,cO w.params f m g),(f,oD [] l)]) (FD (l₁:=[(o,cO w.params f m g),(f,oD [] l)]))
 rw [if_pos rfl]
 show wp _ _ (Hn "dict.update" d o) _ _ p y
 refine aL (pN (cls:= .ref 1093) (dd:=some i) (f:=iv) (r:=[(f,oD [] l)]) E I (EZ) n.after J M λA e B p=> ?_)
 show wp _ _ (ret .none) _ _ p A
 exact C e A trivial B
def bJ (P:E6) (f:Nat):Env:=eD (lR P) 936 f
def fJ (P:E6):List Stmt:=cX (lR P)
def nV (s:Stmt):Pos:=(sP s).2.2.2.2.2.1
def jk (s:Stmt):Stmt:= .If (bI s) (aY s) (cw s) (nV s)
def u0 (P:E6):Stmt:=aA (fJ P) 0
def u1 (P:E6):Stmt:=aA (aY (u0 P)) 0
def u2 (P:E6):Stmt:=aA (aY (u1 P)) 0
def u3 (P:E6):Stmt:=aA (cw (u2 P)) 0
def iy (s:Stmt) (e:Env):Sem Bool:=isTrue (bI s) e (eval (bI s) e)
def iI (P:E6) (C:ao) (S d:Nat) (m:List (Nat×Nat×Int×Nat)) (b s:Nat):af:={d:=35,α:=Nat,need:=(S,cO P d [] b)::(s,bN S)::C,put:=λe=>cO P d m e::bN S::C.map (·.2)}
section
variable (w:E7) (fr:Nat) (k:Nat×Nat×Nat) (S:Nat) (itv:E9) (kw o:Nat)
theorem wS:ax (env w) (bl [] (.ret (.type "super"))) (tV (HI (bJ w.params fr) "super")):=tk _ (λ_ b=> .seg 0 λO=>b () trivial [] [] [])
theorem wR:ax (env w) (bl [] (.ret (.ref 1093))) (tV (HI (bJ w.params fr) "__class__")):=tk _ (λ_ b=> .seg 0 λO=>b () trivial [] [] [])
theorem wQ:ax (env w) (bl [(fr,bQ w.params k S itv kw)] (.ret (.ref S))) (tV (HI (bJ w.params fr) "self")):=tk _ (λ_ b=> .seg 1 λO=>b () trivial [0] [] [])
theorem wI:ax (env w) (bl [(fr,bQ w.params k S (.ref o) kw)] (.ret (.bool true))) (e6 (iy (u0 w.params) (bJ w.params fr))):=tk _ (λ_ b=> .seg 1 λO=>b () trivial [0] [] [])
theorem wG (m:List (Nat×Nat×Int×Nat)) (e:Nat):ax (env w) (bl [(fr,bQ w.params k S (.ref o) kw),(o,dO w.params (.type "dict") none iv m e)] (.ret (.bool true))) (e6 (iy (u1 w.params) (bJ w.params fr))):=tk _ (λ_ b=> .seg 0x1001001001000000001000000000000000000000000000002001001001000001000000 λO=> .seg 0x1001001001000000001000001001000000000000000000000000000000000001000000001000000000000000000000000000000000000000000000000000001001003001003001001003001003001003001001001003001001001000000001 λd=> .seg 0x1001001000000001000000000001001 λf=>b () trivial [2,2] [] [])
theorem wH (b:Nat) (m:List (Nat×Nat×Int×Nat)) (e d:Nat):ax (env w) (bl [(fr,bQ w.params k S (.ref o) kw),(o,cO w.params b m e),(b,oD [] d)] (.ret (.bool true))) (e6 (iy (u1 w.params) (bJ w.params fr))):=tk _ (λ_ f=> .seg 0x1001001001000000001000000000000000000000000000002001001001000001000000 λO=> .seg 0x1001001001000000001000001001000000000000000000000000000000000001000000001000000000000000000000000000000000000000000000000000001001003001000003001001000000000003001000003001000000000000000000003001001001003001001001000000001 λg=> .seg 0x1001001000000001000000000001001 λh=>f () trivial [2,2,2] [] [])
theorem wF (d e:Nat):ax (env w) (bl [(fr,bQ w.params k S (.ref o) kw),(S,cO w.params d [] e)] (.ret (.bool false))) (e6 (iy (u2 w.params) (bJ w.params fr))):=tk _ (λ_ b=> .seg 0x2000000000002001 λO=> .seg 0x2001000000000002001 λf=> .use _ (vd w S (FC d) e ([]) 0 rfl) [1] [] λx h=> .seg 0 λg=>b () trivial [1,0] [] [])
theorem wO (d b s:Nat) (m:List (Nat×Nat×Int×Nat)) (e:Nat) (h:m.length<=8) (f:(ak m).Nodup):ax (env w) (iI w.params [(fr,bQ w.params k (S+1228) (.ref o) kw),(o,dO w.params (.type "dict") none iv m e)] (S+1228) d m b s) (tF (jJ (u3 w.params) (bJ w.params fr) (.ref s))):=tk _ (λ_ g=> .seg 0x2002000002001001001004000001001001000000002002002001002001002002 λO=> .use _ (wA w (S+1228) d b o m e h f) [1,3] [] λx j=> .seg 0 λi=>g (x) trivial [0,2,2,0] [] [])
theorem wP (d f s b g:Nat) (m:List (Nat×Nat×Int×Nat)) (e:Nat) (h:m.length<=8) (i:(ak m).Nodup):ax (env w) (iI w.params [(fr,bQ w.params k (S+1228) (.ref o) kw),(o,cO w.params b m e),(b,oD [] g)] (S+1228) d m f s) (tF (jJ (u3 w.params) (bJ w.params fr) (.ref s))):=tk _ (λ_ j=> .seg 0x2002000002001001001004000001001001000000002002002001002001002002 λO=> .use _ (wB w (S+1228) d f o b g m e h i) [1,3,3] [] λx n=> .seg 0 λl=>j (x) trivial [0,3,3,0,0] [] [])
theorem wJ (b:Nat):ax (env w) (bl [(fr,bQ w.params k S (.ref o) kw),(kw,oD [] b)] .next) (tF (Hb ((fJ w.params).drop 1) (bJ w.params fr))):=tk _ (λ_ d=> .seg 33562625 λO=> .seg 137455738881 λe=> .use _ (gx w kw none b ([]) 0 rfl) [1] [] λx h=> .seg 0 λf=>d () trivial [1,0] [] [])
end
theorem wC (P:E6):fJ P=jk (u0 P)::(fJ P).drop 1:=by kernel_rfl
theorem w1 (P:E6):aY (u0 P)=[jk (u1 P)]:=by kernel_rfl
theorem wZ (P:E6):aY (u1 P)=[jk (u2 P)]:=by kernel_rfl
theorem wW (P:E6):cw (u2 P)=[u3 P]:=by kernel_rfl
theorem wV (P:E6):u3 P=jK (u3 P):=by kernel_rfl
theorem wU (P:E6):(mD (gy (e7 (u3 P)))==("__class__":Str))=false:=by kernel_rfl
theorem pd (st:Stmt) (e:Env) {M:Model} {b:Ctx} {Q:Flow->Pos->Fc->Prop} {E:E9->Pos->Fc->Prop} {p:Pos} {s:Fc} (h:wp M b (exec st e) (λf p s=>f= .next/\Q .next p s) E p s):wp M b (Hb [st] e) Q E p s:=by
 rw [Ip,E5]
 refine Fs _ _ _ (λf p s h=> ?_) (λ_ _ _ h=>h) _ _ h
 obtain ⟨rfl,h⟩:=h
 exact h
theorem pg (st:Stmt) (e:Env) {w:E7} {d:Ctx} {Q:Flow->Pos->Fc->Prop} {E:E9->Pos->Fc->Prop} {p:Pos} {s:Fc} (h:∀p,wp (FQ pq w) d (iy st e) (λb p s=>wp (FQ pq w) d (if b=true then Hb (aY st) e else Hb (cw st) e) Q E p s) E p s):wp (FQ pq w) d (exec (jk st) e) Q E p s:=by
 unfold jk
 rw [arm_exec_If,E5]
 refine aL (Gz λp=> ?_)
 rw [E5]
 exact h p
def fb (P:E6) (f:Nat) (k:Nat×Nat×Nat) (S d h o b g:Nat) (m:List (Nat×Nat×Int×Nat)) (X:ao):af:={d:=40,α:=Nat,c:= .func (fJ P) (bJ P f),need:=(S,cO P d [] h)::(f,bQ P k S (.ref o) b)::(b,oD [] g)::X,r:=λ_=> .ok (.ret .none),put:=λe=>cO P d m e::bQ P k S (.ref o) b::oD [] g::X.map (·.2)}
theorem kZ:∀X:ao,(X.map (·.1)).zip (X.map (·.2))=X
 | []=>rfl
 | x::X=>by simp [kZ X]
theorem Go.eq {kt:Nat->Option Obj} {d s:Fc} {own:List Addr} {a b:ao} (G:Go kt d own s a) (h:a=b):Go kt d own s b:=h▸G
theorem qf (w:E7) (j:Nat) (k:Nat×Nat×Nat) (S g h o n q:Nat) (m:List (Nat×Nat×Int×Nat)) (X:ao)
 (U:ax (env w) (bl ((j,bQ w.params k S (.ref o) n)::X) (.ret (.bool true))) (e6 (iy (u1 w.params) (bJ w.params j))))
 (Q:∀d l,S=d+1228->ax (env w) (iI w.params ((j,bQ w.params k (d+1228) (.ref o) n)::X) (d+1228) g m h l) (tF (jJ (u3 w.params) (bJ w.params j) (.ref l)))):ab (env w) (fb w.params j k S g h o n q m X):=by
 intro r u v hE y p s gt P R
 have v:r.handled=none:=v.resolve_left (λz=>nomatch z)
 have H:bt (env w) 40 r:=⟨v,y⟩
 have M:bt (env w) 20 r:=⟨v,⟨by have:=y.cnt;have:cF r.below+4*40<=640:=y.cnt;omega,by have:HR r.below+10*40<=2000:=y.units;omega⟩⟩
 let f0:dR:=(j,bQ w.params k S (.ref o) n)
 let i:dR:=(n,oD [] q)
 have G:Go (env w).kt s (keys (fb w.params j k S g h o n q m X).all) s ((S,cO w.params g [] h)::f0::i::X):=by
  have:=Go.start P
  have e:(fb w.params j k S g h o n q m X).all=(S,cO w.params g [] h)::f0::i::X:=by
   show ((S,cO w.params g [] h)::f0::i::X)++[]=_
   rw [FJ]
  rw [e] at this⊢
  exact this
 have io:1228<=S:=P.ge (S,cO w.params g [] h) EZ
 have u:r.code= .func (fJ w.params) (bJ w.params j):=u
 rw [F1]
 show wp _ _ (FK table r.code) _ _ p s
 rw [u]
 show wp _ _ (do point;match<-(Hb (fJ w.params) (bJ w.params j)).onRaise (leaving (bJ w.params j)) with | .ret ac=>ret ac | _=>ret .none) _ _ p s
 rw [E5]
 refine aL (wpAny_point λp=> ?_)
 rw [E5,Gs,show Hb (fJ w.params) (bJ w.params j)=Hb (jk (u0 w.params)::(fJ w.params).drop 1) (bJ w.params j) from congrArg (λb=>Hb b (bJ w.params j)) (wC w.params),Ip,E5]
 have I:∀C:ao,(bl C (.ret (.bool true))).all=C:=λC=>FJ C
 have Z:∀(C:ao) (f:Flow) (x:Unit),(bl C f).res x=C:=λC f x=>by
  show (C.map (·.1)).zip (C.map (·.2))++([]++[])=C
  rw [kZ];simp
 refine pg _ _ λp=> ?_
 refine fP (wI w j k S n o) H (by show 10<=40;omega) rfl (r:=(S,cO w.params g [] h)::i::X) (Go.perm G (.swap ..)) (b0:=true) (λ_=>rfl) λ_ s1 p _ A=> ?_
 have A:Go (env w).kt s (keys (fb w.params j k S g h o n q m X).all) s1 (f0::(S,cO w.params g [] h)::i::X):=A
 rw [if_pos rfl,w1]
 refine pd _ _ (pg _ _ λp=> ?_)
 have F:(f0::(S,cO w.params g [] h)::i::X).Perm ((bl (f0::X) (.ret (.bool true))).all++[(S,cO w.params g [] h),i]):=by
  rw [I]
  exact .cons _ ((FD (l₁:=[(S,cO w.params g [] h),i]) (l₂:=X)))
 refine fP U H (by show 10<=40;omega) rfl (r:=[(S,cO w.params g [] h),i]) (Go.perm A F) (b0:=true) (λ_=>rfl) λx s2 p _ t=> ?_
 have t:=Go.eq t (congrArg (· ++[(S,cO w.params g [] h),i]) (Z (f0::X) (.ret (.bool true)) x))
 rw [I] at F
 have t:=Go.perm t F.symm
 rw [if_pos rfl,wZ]
 refine pd _ _ (pg _ _ λp=> ?_)
 refine fP (wF w j k S n o g h) H (by show 10<=40;omega) rfl (r:=i::X) t (b0:=false) (λ_=>rfl) λ_ s3 p _ B=> ?_
 have B:Go (env w).kt s (keys (fb w.params j k S g h o n q m X).all) s3 (f0::(S,cO w.params g [] h)::i::X):=B
 rw [if_neg Fg,wW]
 refine pd _ _ ?_
 refine qM (ww w.params) u (wV _) (wU _) M (wS w j) (wR w j) (wQ w j k S (.ref o) n) (uv w) (uu w S g [] h) (rS:=f0::i::X) (rf:=(S,cO w.params g [] h)::i::X) (.swap ..) (.refl _) B λl s4 p L=> ?_
 obtain ⟨d,T⟩:∃d,S=d+1228:=⟨S-1228,by omega⟩
 subst T
 have V:((l,bN (d+1228))::f0::((d+1228),cO w.params g [] h)::i::X).Perm ((iI w.params (f0::X) (d+1228) g m h l).all++[i]):=by
  have:=pf (A:=[[(l,bN (d+1228))],[f0],[((d+1228),cO w.params g [] h)],[i],X]) (B:=[[((d+1228),cO w.params g [] h)],[(l,bN (d+1228))],[f0],X,[i]]) [2,0,0,1,0] ⟨rfl,rfl,rfl,rfl,rfl,rfl⟩
  have e:(iI w.params (f0::X) (d+1228) g m h l).all=((d+1228),cO w.params g [] h)::(l,bN (d+1228))::f0::X:=FJ _
  rw [e]
  simpa using this
 refine iR (Q d l rfl) H (by show 35<=40;omega) rfl (r:=[i]) (Go.perm L V) (f0:= .next) (λ_=>rfl) λe s5 p _ D=>⟨rfl,rfl,rfl, ?_⟩
 have O:(iI w.params (f0::X) (d+1228) g m h l).res e=((d+1228),cO w.params g m e)::(l,bN (d+1228))::f0::X:=by
  show ((d+1228),cO w.params g m e)::(l,bN (d+1228))::f0::((X.map (·.1)).zip (X.map (·.2))++([]++[]))=_
  rw [kZ];simp
 have D:=Go.eq D (congrArg (· ++[i]) O)
 have W:((((d+1228),cO w.params g m e)::(l,bN (d+1228))::f0::X)++[i]).Perm ([f0,i]++(((d+1228),cO w.params g m e)::X++[(l,bN (d+1228))])):=by
  have:=pf (A:=[[((d+1228),cO w.params g m e)],[(l,bN (d+1228))],[f0],X,[i]]) (B:=[[f0],[i],[((d+1228),cO w.params g m e)],X,[(l,bN (d+1228))]]) [2,3,0,1,0] ⟨rfl,rfl,rfl,rfl,rfl,rfl⟩
  simpa using this
 refine iR (wJ w j k (d+1228) n o q) H (by show 10<=40;omega) rfl (r:=((d+1228),cO w.params g m e)::X++[(l,bN (d+1228))]) (Go.perm D W) (f0:= .next) (λ_=>rfl) λ_ J p _ E=> ?_
 have E:Go (env w).kt s (keys (fb w.params j k (d+1228) g h o n q m X).all) J ([f0,i]++(((d+1228),cO w.params g m e)::X++[(l,bN (d+1228))])):=E
 have N:(fb w.params j k (d+1228) g h o n q m X).res e=((d+1228),cO w.params g m e)::f0::i::X:=by
  show ((d+1228),cO w.params g m e)::f0::i::((X.map (·.1)).zip (X.map (·.2))++([]++[]))=_
  rw [kZ];simp
 have Y:([f0,i]++(((d+1228),cO w.params g m e)::X++[(l,bN (d+1228))])).Perm ((fb w.params j k (d+1228) g h o n q m X).res e++[(l,bN (d+1228))]):=by
  rw [N]
  have:=pf (A:=[[f0],[i],[((d+1228),cO w.params g m e)],X,[(l,bN (d+1228))]]) (B:=[[((d+1228),cO w.params g m e)],[f0],[i],X,[(l,bN (d+1228))]]) [2,0,0,0,0] ⟨rfl,rfl,rfl,rfl,rfl,rfl⟩
  simpa using this
 exact R e J trivial (Go.perm E Y).sub.after
theorem wD (w:E7) (f:Nat) (k:Nat×Nat×Nat) (S d h o b i:Nat) (m:List (Nat×Nat×Int×Nat)) (g:Nat) (l:m.length<=8) (n:(ak m).Nodup):ab (env w) (fb w.params f k S d h o b i m [(o,dO w.params (.type "dict") none iv m g)]):=
 qf w f k S d h o b i m _ (wG w f k S b o m g) λj s e=>wO w f k j b o d h s m g l n
theorem wE (w:E7) (f:Nat) (k:Nat×Nat×Nat) (S g i o d j b l:Nat) (m:List (Nat×Nat×Int×Nat)) (h:Nat) (p:m.length<=8) (q:(ak m).Nodup):ab (env w) (fb w.params f k S g i o b l m [(o,cO w.params d m h),(d,oD [] j)]):=
 qf w f k S g i o b l m _ (wH w f k S b o d m h j) λn s e=>wP w f k n b o g i s d j m h p q
def ry (P:E6) (S d b o:Nat) (m:List (Nat×Nat×Int×Nat)) (X:ao):af:={d:=45,α:=Nat,c:= .call (.ref 936) ⟨[.ref S, .ref o],[]⟩,need:=(S,cO P d [] b)::X,r:=λ_=> .ok (.ret .none),put:=λe=>cO P d m e::X.map (·.2)}
theorem qk (w:E7) (S d b o:Nat) (m:List (Nat×Nat×Int×Nat)) (e:Nat) (h:m.length<=8) (f:(ak m).Nodup):ab (env w) (ry w.params S d b o m [(o,dO w.params (.type "dict") none iv m e)]):=ct (λ_ g=> .seg 0x1001001001001001000000000001 λO=> .use _ (wD w (O 1) (O 2,O 3,O 4) S d b o (O 0) 0 m e h f) [2,0,0,0] [] λx i=>g (x) trivial [0,2] [] [])
theorem w0 (w:E7) (S d f o b g:Nat) (m:List (Nat×Nat×Int×Nat)) (e:Nat) (h:m.length<=8) (i:(ak m).Nodup):ab (env w) (ry w.params S d f o m [(o,cO w.params b m e),(b,oD [] g)]):=ct (λ_ j=> .seg 0x1001001001001001000000000001 λO=> .use _ (wE w (O 1) (O 2,O 3,O 4) S d f o b g (O 0) 0 m e h i) [2,0,0,0,0] [] λx k=>j (x) trivial [0,2,2] [] [])
theorem CI (w:E7) (f:Nat) (k:Nat×Nat×Nat) (S d:Nat) (b g de:Nat) (e:Nat):ax (env w) (bl [(f,bQ w.params k S .none (b+1228)),(b+1228,oD [] g),(S,cO w.params d [] e),(d,oD [] de)] .next) (tF (Hb ((ci w.params).drop 1) (cD w.params f))):=tk _ (λ_ h=> .seg 0x2002001001001001001001001001001000000000001002001000002001004004004001004004003002001000001004000003003000000000000000000003001000003001000000000000000000003001 λO=> .seg 137455738881 λi=> .use _ (gx w (O 3) none 0 ([]) 0 rfl) [1] [] λx l=> .seg 0 λj=>h () trivial [4,4,4,4] [] [])
def nJ (P:E6) (j:Nat) (k:Nat×Nat×Nat) (S d b g de i h:Nat) (m:List (Nat×Nat×Int×Nat)) (f:Nat):af:={d:=60,α:=Nat,need:=[(S,cO P d [] i),(j,bQ P k S (.ref h) (b+1228)),(b+1228,oD [] g),(d,oD [] de),(h,dO P (.type "dict") none iv m f)],put:=λe=>[cO P d m e,bQ P k S (.ref h) (b+1228),oD [] g,oD [] de,dO P (.type "dict") none iv m f]}
theorem CH (w:E7) (f:Nat) (k:Nat×Nat×Nat) (S d l j de b h:Nat) (m:List (Nat×Nat×Int×Nat)) (e:Nat) (g:m.length<=8) (i:(ak m).Nodup):ax (env w) (nJ w.params f k S d l j de b h m e) (tF (Hb ((ci w.params).drop 1) (cD w.params f))):=tk _ (λ_ n=> .seg 0x2001000002001005005005001005005004003001000001004000001001000000000000000000001001000001001000000000000000000001002 λO=> .use _ (qk w S d b h m e g i) [2,5] [] λx p=> .seg 0 λo=>n (x) trivial [0,3,3,3,0] [] [])
theorem rg {e:bu} {T:Nat->af} (h:∀a,ab e (T (a+1228))) (k:∀a,∃o,(a,o)∈(T a).all) (a:Nat):ab e (T a):=by
 intro m g i d j p s F P f
 obtain ⟨o,l⟩:=k a
 have:1228<=a:=P.ge (a,o) l
 obtain ⟨b,rfl⟩:∃b,a=b+1228:=⟨a-1228,by omega⟩
 exact h b m g i d j p s F P f
theorem CD (w:E7) (f:Nat) (k:Nat×Nat×Nat) (S d b g de e:Nat):ab (env w) {bl [(f,bQ w.params k S .none (b+1228)),(b+1228,oD [] g),(S,cO w.params d [] e),(d,oD [] de)] .next with d:=20,c:= .func (ci w.params) (cD w.params f),r:=λ_=> .ok (.ret .none)}:=
 us w f k S d (b+1228) e .none (rS:=[(f,bQ w.params k S .none (b+1228)),(b+1228,oD [] g),(d,oD [] de)]) (rf:=[(b+1228,oD [] g),(S,cO w.params d [] e),(d,oD [] de)]) (bl [(f,bQ w.params k S .none (b+1228)),(b+1228,oD [] g),(S,cO w.params d [] e),(d,oD [] de)] .next) (CI w f k S d b g de e) (λ_=>rfl) 20 (by show 10<=20;omega) (FM _) rfl rfl
  (List.Perm.trans (List.Perm.cons _ (.swap ..)) (.swap ..)) (.refl _)
theorem CF (w:E7) (f:Nat) (k:Nat×Nat×Nat) (S d b i de g h:Nat) (m:List (Nat×Nat×Int×Nat)) (e:Nat) (j:m.length<=8) (l:(ak m).Nodup):ab (env w) {nJ w.params f k S d b i de g h m e with d:=60,c:= .func (ci w.params) (cD w.params f),r:=λ_=> .ok (.ret .none)}:=
 us w f k S d (b+1228) g (.ref h) (rS:=[(f,bQ w.params k S (.ref h) (b+1228)),(b+1228,oD [] i),(d,oD [] de),(h,dO w.params (.type "dict") none iv m e)]) (rf:=[(S,cO w.params d [] g),(b+1228,oD [] i),(d,oD [] de),(h,dO w.params (.type "dict") none iv m e)]) (nJ w.params f k S d b i de g h m e) (CH w f k S d b i de g h m e j l) (λ_=>rfl) 60 (FM _) (by omega) rfl rfl (.refl _) (.swap ..)
theorem CC (w:E7) (f:Nat) (k:Nat×Nat×Nat) (S d b e de g:Nat):ab (env w) {bl [(f,bQ w.params k S .none b),(b,oD [] e),(S,cO w.params d [] g),(d,oD [] de)] .next with d:=20,c:= .func (ci w.params) (cD w.params f),r:=λ_=> .ok (.ret .none)}:=
 rg (T:=λb=>{bl [(f,bQ w.params k S .none b),(b,oD [] e),(S,cO w.params d [] g),(d,oD [] de)] .next with d:=20,c:= .func (ci w.params) (cD w.params f),r:=λ_=> .ok (.ret .none)}) (λb=>CD w f k S d b e de g) (λa=>⟨oD [] e,F3 _ (E2 _ EZ)⟩) b
def sj (P:E6) (g:Nat) (k:Nat×Nat×Nat) (S d b i de j h:Nat) (m:List (Nat×Nat×Int×Nat)) (f:Nat):af:={d:=60,α:=Nat,c:= .func (ci P) (cD P g),need:=[(S,cO P d [] j),(g,bQ P k S (.ref h) b),(b,oD [] i),(d,oD [] de),(h,dO P (.type "dict") none iv m f)],r:=λ_=> .ok (.ret .none),put:=λe=>[cO P d m e,bQ P k S (.ref h) b,oD [] i,oD [] de,dO P (.type "dict") none iv m f]}
theorem CE (w:E7) (i:Nat) (k:Nat×Nat×Nat) (S e b d de g h:Nat) (m:List (Nat×Nat×Int×Nat)) (f:Nat) (j:m.length<=8) (l:(ak m).Nodup):ab (env w) (sj w.params i k S e b d de g h m f):=
 rg (T:=λb=>sj w.params i k S e b d de g h m f) (λb=>CF w i k S e b d de g h m f j l) (λa=>⟨oD [] d,F3 _ (E2 _ (E2 _ EZ))⟩) b
theorem jy (w:E7):ab (env w) (y6 w.params):=ct (λ_ b=> .seg 0x1001001001001001000000000001000000000000001000001000000000000001000000000000000000000001000000000001000001000000001 λO=> .use _ (CC w (O 3) (O 4,O 5,O 6) (O 1) (O 0) (O 2) 0 0 0) [0,0,0,0] [] λx h=> .seg 0 λd=>b (O 1,O 0,0) trivial [] [2,2] [])
def y5 (P:E6) (h:Nat) (m:List (Nat×Nat×Int×Nat)) (e:Nat):af:={d:=75,α:=Nat×Nat×Nat×Nat,c:= .call (.ref 1093) ⟨[.ref h],[]⟩,need:=[(h,dO P (.type "dict") none iv m e)],r:=λx=> .ok (.ret (.ref x.1)),put:=λ_=>[dO P (.type "dict") none iv m e],new:=λx=>[(x.1,cO P x.2.1 m x.2.2.1),(x.2.1,oD [] x.2.2.2)]}
theorem pv (w:E7) (h:Nat) (m:List (Nat×Nat×Int×Nat)) (e:Nat) (b:m.length<=8) (d:(ak m).Nodup):ab (env w) (y5 w.params h m e):=ct (λ_ f=> .seg 0x1001001001001001000000000001000000000000001000001000000000000001000000000000000000000001000000000001000001000000001 λO=> .use _ (CE w (O 3) (O 4,O 5,O 6) (O 1) (O 0) (O 2) 0 0 0 h m e b d) [2,0,0,0,0] [] λx i=> .seg 0 λg=>f (O 1,O 0,x,0) trivial [4] [0,2] [])
def sy (P:E6) (d b:Nat) (m:List (Nat×Nat×Int×Nat)) (e:Nat) (k:Nat):af:={d:=6,α:=Nat,c:= .builtin "len" ⟨[.ref d],[]⟩,need:=[(d,cO P b m e)],r:=λu=> .ok (.ret (.int k u)),put:=λ_=>[cO P b m e]}
theorem mz (w:E7) (d b:Nat) (m:List (Nat×Nat×Int×Nat)) (e k:Nat) (h:m.length=k) (j:m.length<=8):ab (env w) (sy w.params d b m e k):=by
 let p:∀{w:E7} {n:Nat} {d b:Nat} {m:List (Nat×Nat×Int×Nat)} {e:Nat} (h:m.length=n),PP (env w) (sy w.params d b m e n):= @λw n d b m e h _ f=>
  .seg 0x1001000000000001001 λg=>
  .use _ (vd w d (FC b) e m n h) [0] [] λx i=>
  .seg 0 λO=>
  f (O 0) trivial [0] [] []
 obtain rfl | rfl | rfl | rfl | rfl | rfl | rfl | rfl | rfl:k=0\/k=1\/k=2\/k=3\/k=4\/k=5\/k=6\/k=7\/k=8:=by omega
 .exact ct (p h)
 .exact ct (p h)
 .exact ct (p h)
 .exact ct (p h)
 .exact ct (p h)
 .exact ct (p h)
 .exact ct (p h)
 .exact ct (p h)
 .exact ct (p h)
theorem xf {e:bu} {T:af} (t:Sem Gn) (d:bV e T) (h:∀b,(∀B c p,dP ⟨e.D,⟨pq,cM e.w.params b⟩,e.kt,B,none,T.d⟩ d (.run c p .base t T.need) T.needB)=(∀B c p,eg ⟨e.D,⟨pq,cM e.w.params b⟩,e.kt,B,none,T.d⟩ d (.run c p .base t T.need) T.needB)):ax e T t:=by
 have q:=h (e.w.params.followText "special-get-raises")
 rw [ni] at q
 exact qw t d q
theorem aG {e:bu} {T:af} (t:Sem Gn) (d:PP e T) (h:py t d (cM e.w.params false)=mV t d (cM e.w.params false):=by kernel_rfl) (f:py t d (cM e.w.params true)=mV t d (cM e.w.params true):=by kernel_rfl):ax e T t:=xf t (d T .fin) (λb=>match b with | false=>h | true=>f)
def tN (i:Nat):Sem Flow:=pyNext (.ref i)>>=λr=>match r with | some v=>pure (.ret v) | none=>pure .brk
def yV (P:E6) (g d i e:Nat) (ok o:E9) (b:E9) (f:Option Addr) (m:List (Nat×Nat×Int×Nat)) (x:Nat×Nat×Int×Nat):af:={d:=5,α:=Nat,need:=[(g,aT .none d i m.length e ok o),(d,dO P b f iv m e)],r:=λa=> .ok (.ret (.ref a)),put:=λa=>[aT (.int a 0) d (i+1) m.length e (.str ⟨⟨[x.1]⟩⟩ x.2.1) (iv x.2.2),dO P b f iv m e],new:=λa=>[(a,aR [.str ⟨⟨[x.1]⟩⟩ x.2.1,iv x.2.2] 0)]}
theorem Cx (w:E7) (b d i g:Nat) (ok o:E9) (e:E9) (f:Option Addr) (m:List (Nat×Nat×Int×Nat)) (x:Nat×Nat×Int×Nat) (h:m[i]? =some x):ax (env w) (yV w.params b d i g ok o e f m x) (tF (tN b)):=tk _ (λ_ k=> .seg 16781313 λO=> .use _ (Cu w b d i g ok o e f m x h) [0,0] [] λj n=> .seg 0 λl=>k (j) trivial [0,0] [0] [])
def um (e:Expr):Bool:=match e with | .Tuple .. =>true | _=>false
theorem EI {w:E7} {A:Around} {E:E9->Fc->Prop} {s:Fc} {e a d i n f:Nat} {ok o:E9} {t:Expr} {Q:Unit->Fc->Prop} (g:um t=true) (b:s.heap.get? e=some (aT (.int a 0) d i n f ok o))
 (h:Q () {s with heap:=s.heap.update e (F7 λvs=>vs.setIfInBounds 0 .none)}):Fp (FQ pq w) A (Gp t (.ref e) (.ref a)) Q E s:=by
 cases t<;>first | exact absurd g Fg | skip
 unfold Gp
 refine E1 (wpAny_load b ?_)
 show Fp _ _ (if (["enumerate","zip","dict_itemiterator","dict_reverseitemiterator","odict_iterator","itertools.zip_longest","itertools.pairwise"].contains "dict_itemiterator"&&(some (Gf a 0)==some (FT a)))=true then _ else _) _ _ s
 rw [if_pos (by
  rw [Bool.and_eq_true]
  exact ⟨by decide,by simp [FT]⟩)]
 refine E1 (GX ?_)
 unfold updateField
 refine E1 (wpAny_load b ?_)
 show Fp _ _ (if 0< (#[Gf a 0, .bool false, .ref d, .int i 0, .int n 0, .int f 0,ok,o]:Array E9).size then _ else _) _ _ s
 rw [if_pos (by simp)]
 exact wpAny_update b h
theorem jh {w:E7} {T:af} {B:Nat->af} {N:∀a,(B a).α->af} {junk:∀a,(B a).α->ao} {target:Expr} {body els:List Stmt} {ev:Env} {b d i g:Nat} {ok ov:E9} {l:E9} {n:Option Addr} {m:List (Nat×Nat×Int×Nat)} {x:Nat×Nat×Int×Nat} {r0:ao}
 (h:m[i]? =some x) (L:T.c= .forLoop target (.ref b) body els ev) (ht:um target=true) (hH:T.anyH=false) (hO:T.outer=none) (hd:5<=T.d)
 (O:T.all.Perm ([(b,aT .none d i m.length g ok ov),(d,dO w.params l n iv m g)]++r0))
 (hB:∀a,ax (env w) (B a) (tF (assign target ev (.ref a)>>=λ_=>Hb body ev))) (rB:∀a x,(B a).r x= .ok .next) (X:∀a,(B a).d<=T.d) (oB:∀a,(B a).outer=none)
 (pB:∀a,([(b,aT .none d (i+1) m.length g (.str ⟨⟨[x.1]⟩⟩ x.2.1) (iv x.2.2)),(d,dO w.params l n iv m g),(a,aR [.str ⟨⟨[x.1]⟩⟩ x.2.1,iv x.2.2] 0)]++r0).Perm (B a).all)
 (qB:∀a z,(B a).post z->((B a).res z).Perm ((N a z).all++junk a z))
 (hN:∀a z,(B a).post z->ab (env w) (N a z)) (W:∀a z,(N a z).c=T.c) (J:∀a z,(N a z).d<=T.d) (oN:∀a z,(N a z).outer=none)
 (rN:∀a z y,(B a).post z->(N a z).post y->∃v,T.post v/\T.r v=(N a z).r y/\((N a z).res y).Perm (T.res v)):ab (env w) T:=by
 intro e ac o hE r p s F P hF
 have o:e.handled=none:=o.resolve_left (by rw [hH];exact Fg)
 have H:bt (env w) T.d e:=⟨o,r⟩
 have gt:e.code= .forLoop target (.ref b) body els ev:=ac.trans L
 have G:Go (env w).kt s T.own s T.all:=Go.start P
 rw [F1]
 show wp _ _ (FK table e.code) _ _ p s
 rw [gt]
 show wp _ _ ((forTurn target (.ref b) body els ev).onRaise (λx=>do HS x ev;Hd x)) _ _ p s
 rw [Gs]
 unfold forTurn
 rw [E5]
 refine aL (Gz λp=> ?_)
 rw [E5,Gs]
 have q:=(Cx w b d i g ok ov l n m x h).flow e o (λes z=>nomatch z) ⟨by have:=r.cnt;show cF e.below+4*5<=640;omega,by have:=r.units;show HR e.below+10*5<=2000;omega⟩ p s (Go.perm G O).sub.pre (Q:=λf p j=>∃a,f= .ret (.ref a)/\Go (env w).kt s T.own j ([(b,aT (.int a 0) d (i+1) m.length g (.str ⟨⟨[x.1]⟩⟩ x.2.1) (iv x.2.2)),(d,dO w.params l n iv m g),(a,aR [.str ⟨⟨[x.1]⟩⟩ x.2.1,iv x.2.2] 0)]++r0)) (E:=λ_ _ _=>False)
  (λa j p f hx A I=>by cases I;exact ⟨a,rfl,(Go.perm G O).stepR A⟩) (λa j p v hx A I=>by cases I)
 unfold tN at q
 rw [E5] at q
 refine Fs _ _ _ (λio p Q C=> ?_) (λ_ _ _ h=>h.elim) _ _ q
 cases io with
 | none=>obtain ⟨a,E,_⟩:∃a,Flow.brk= .ret (.ref a)/\_:=C;cases E
 | some v=>
  obtain ⟨a,E,D⟩:∃a,Flow.ret v= .ret (.ref a)/\Go (env w).kt s T.own Q ([(b,aT (.int a 0) d (i+1) m.length g (.str ⟨⟨[x.1]⟩⟩ x.2.1) (iv x.2.2)),(d,dO w.params l n iv m g),(a,aR [.str ⟨⟨[x.1]⟩⟩ x.2.1,iv x.2.2] 0)]++r0):=C
  cases E
  show wp _ _ (Gp target (.ref b) (.ref a)>>=λ_=>assign target ev (.ref a)>>=λ_=>Hb body ev>>=_) _ _ p Q
  rw [E5]
  have ho:=D.inv.has (b,_) EZ
  refine aL (EI ht ho λp=> ?_)
  have S:=(ap.start D.pre).set (F7 λvs=>vs.setIfInBounds 0 .none) (by exact EZ) rfl
  have V:=Go.perm (D.step S) (pB a)
  have k:=iR (hB a) H (X a) (oB a) (r:=[]) (Go.eq V (FJ _).symm) (rB a) (p:=p) (Q:=λf p j=>f= .next/\∃z,(B a).post z/\Go (env w).kt s T.own j ((N a z).all++junk a z)) (E:=λ_ _ _=>False)
   λz j p t u=>⟨rfl,z,t,Go.perm (Go.eq u (FJ _)) (qB a z t)⟩
  rw [E5] at k
  rw [E5]
  refine Fs _ _ _ (λ_ p s2 Y=> ?_) (λ_ _ _ h=>h.elim) _ _ k
  rw [E5]
  refine Fs _ _ _ (λf p R Z=> ?_) (λ_ _ _ h=>h.elim) _ _ Y
  obtain ⟨rfl,z,t,u⟩:=Z
  show finPost _ _ _ (.again (.forLoop target (.ref b) body els ev)) p R
  have hn:=hN a z t (e.goto (.forLoop target (.ref b) body els ev)) (L.symm.trans (W a z).symm) (.inr o) (λes M=>by rw [oN] at M;cases M) ⟨by have:=r.cnt;have:=J a z;show cF e.below+_<=_;omega,by have:=r.units;have:=J a z;show HR e.below+_<=_;omega⟩ p R F u.sub.pre (λy s4 hy U=> ?_)
  .exact ⟨rfl,hn⟩
  .obtain ⟨v,hv,C,hp⟩:=rN a z y t hy
   rw [<-C]
   exact hF v s4 hv ((u.stepR U).perm (hp.append_right _)).sub.after
abbrev MI:=List (Nat×Nat×Int×Nat)
def ik:MI->MI->MI->Prop
 | [],b,d=>d=b
 | x::m,b,d=>∃u,ik m (aw b x.1 x.2.1 (x.2.2.1+aa b x.1,u)) d
def fT (id:String) (S:Nat):Obj:={cls:= .type "builtin_function_or_method",data:= .fields #[.builtin id, .ref S]}
def wz (P:E6) (i f:Nat):Code:=bR (aA (aY (u2 P)) 1) (.ref i) (bJ P f)
def eQ (P:E6) (k:Nat×Nat×Nat) (S:Nat) (i:E9) (d b mt:Nat) (m:List E4) (f:Nat):Obj:=bD ([es P [115,101,108,102] k.1 (.ref S),es P [105,116,101,114,97,98,108,101] k.2.1 i,es P [107,119,100,115] k.2.2 (.ref d),es P [115,101,108,102,95,103,101,116] b (.ref mt)]++m) f
def gi (P:E6) (k:Nat×Nat) (c:Nat×Nat) (v:Int×Nat):List E4:=[es P [101,108,101,109] k.1 (cv c),es P [99,111,117,110,116] k.2 (iv v)]
def jS (P:E6) (f h i:Nat) (ok s:E9) (k:Nat×Nat×Nat) (S g o mt l j:Nat) (d:E9) (n:Option Nat) (e:Nat) (r:List E4) (q:Nat) (m t b:MI) (p:Nat):af:={d:=15,α:=(MI×Nat)×(Nat×Nat)×(Nat×Nat)×(Int×Nat)×Nat,c:=wz P h f,need:=[(h,aT .none o i m.length e ok s),(f,eQ P k S (.ref o) l j mt r q),(S,cO P g b p),(o,dO P d n iv m e),(mt,fT "dict.get" S)],new:=λx=>[(S,cO P g x.1.1 x.1.2),(o,dO P d n iv m e),(f,eQ P k S (.ref o) l j mt (gi P x.2.1 x.2.2.1 x.2.2.2.1) x.2.2.2.2)],post:=λx=>ik t b x.1.1}
def li (P:E6):Expr:=match aA (aY (u2 P)) 1 with | .For t _ _ _ _=>t | _=> .Name ⟨⟨[]⟩⟩ default
def lj (P:E6):List Stmt:=aY (aA (aY (u2 P)) 1)
def eC (P:E6) (d i:Nat) (o:Nat) (b:E9) (f:Option Nat) (m:MI) (e a:Nat) (x:Nat×Nat×Int×Nat):ao:=[(d,aT .none o (i+1) m.length e (.str ⟨⟨[x.1]⟩⟩ x.2.1) (iv x.2.2)),(o,dO P b f iv m e),(a,aR [.str ⟨⟨[x.1]⟩⟩ x.2.1,iv x.2.2] 0)]
def lC (P:E6) (q g i a:Nat) (k:Nat×Nat×Nat) (S e o mt j h:Nat) (d:E9) (l:Option Nat) (f:Nat) (r:List E4) (p:Nat) (m b:MI) (n:Nat) (x:Nat×Nat×Int×Nat):af:={d:=12,α:=Nat×Nat×(Nat×Nat)×Nat,need:=eC P g i o d l m f a x++[(S,cO P e b n),(mt,fT "dict.get" S),(q,eQ P k S (.ref o) j h mt r p)],put:=λz=>(eC P g i o d l m f a x).map (·.2)++[cO P e (aw b x.1 x.2.1 (x.2.2.1+aa b x.1,z.1)) z.2.1,fT "dict.get" S,eQ P k S (.ref o) j h mt (gi P z.2.2.1 (x.1,x.2.1) x.2.2) z.2.2.2]}
theorem gR {b:Type} (c t:Nat) (v:b):∀m:List (Nat×Nat×b),(aw m c t v).length<=m.length+1
 | []=>FM _
 | (k,u,x)::m=>by
  unfold aw
  split
  .simp
  .have:=gR c t v m
   simp only [Fb];omega
section
variable (w:E7) (fr it:Nat) (k:Nat×Nat×Nat) (S dd o mt kw k4:Nat) (cls:E9) (od:Option Nat) (eo:Nat) (m:MI)
theorem qg (i:Nat) (ok g:E9) (d:List E4) (f:Nat) (x:Nat×Nat×Int×Nat) (r b:MI) (e:Nat) (h:m[i]? =some x)
 (l:∀a,ax (env w) (lC w.params fr it i a k S dd o mt kw k4 cls od eo d f m b e x) (tF (assign (li w.params) (bJ w.params fr) (.ref a)>>=λ_=>Hb (lj w.params) (bJ w.params fr))))
 (p:∀(q:Nat×Nat) (j:Nat×Nat) (v:Int×Nat) (f u e:Nat) (ok g:E9),ab (env w) (jS w.params fr it (i+1) ok g k S dd o mt kw k4 cls od eo (gi w.params q j v) f m r (aw b x.1 x.2.1 (x.2.2.1+aa b x.1,u)) e)):
 ab (env w) (jS w.params fr it i ok g k S dd o mt kw k4 cls od eo d f m (x::r) b e):=by
 refine jh (B:=λa=>lC w.params fr it i a k S dd o mt kw k4 cls od eo d f m b e x)
  (N:=λa z=>jS w.params fr it (i+1) (.str ⟨⟨[x.1]⟩⟩ x.2.1) (iv x.2.2) k S dd o mt kw k4 cls od eo (gi w.params z.2.2.1 (x.1,x.2.1) x.2.2) z.2.2.2 m r (aw b x.1 x.2.1 (x.2.2.1+aa b x.1,z.1)) z.2.1)
  (junk:=λa z=>[(a,aR [.str ⟨⟨[x.1]⟩⟩ x.2.1,iv x.2.2] 0)]) (r0:=[(S,cO w.params dd b e),(mt,fT "dict.get" S),(fr,eQ w.params k S (.ref o) kw k4 mt d f)])
  h (ok:=ok) (ov:=g) (target:=li w.params) (body:=lj w.params) (els:=cw (aA (aY (u2 w.params)) 1)) (ev:=bJ w.params fr) (by kernel_rfl) (by kernel_rfl) rfl rfl (by show 5<=15;omega) ?_ l (λ_ _=>rfl) (λ_=>by show 12<=15;omega) (λ_=>rfl) (λ_=> .refl _) ?_ ?_ (λ_ _=>rfl) (λ_ _=>FM _) (λ_ _=>rfl) ?_
 .exact pf (A:=[[(it,aT .none o i m.length eo ok g)],[(fr,eQ w.params k S (.ref o) kw k4 mt d f)],[(S,cO w.params dd b e)],[(o,dO w.params cls od iv m eo)],[(mt,fT "dict.get" S)]])
   (B:=[[(it,aT .none o i m.length eo ok g)],[(o,dO w.params cls od iv m eo)],[(S,cO w.params dd b e)],[(mt,fT "dict.get" S)],[(fr,eQ w.params k S (.ref o) kw k4 mt d f)]]) [0,2,1,1,0] ⟨rfl,rfl,rfl,rfl,rfl,rfl⟩
 .intro a z _
  exact pf (A:=[[(it,aT .none o (i+1) m.length eo (.str ⟨⟨[x.1]⟩⟩ x.2.1) (iv x.2.2))],[(o,dO w.params cls od iv m eo)],[(a,aR [.str ⟨⟨[x.1]⟩⟩ x.2.1,iv x.2.2] 0)],[(S,cO w.params dd (aw b x.1 x.2.1 (x.2.2.1+aa b x.1,z.1)) z.2.1)],[(mt,fT "dict.get" S)],[(fr,eQ w.params k S (.ref o) kw k4 mt (gi w.params z.2.2.1 (x.1,x.2.1) x.2.2) z.2.2.2)]])
   (B:=[[(it,aT .none o (i+1) m.length eo (.str ⟨⟨[x.1]⟩⟩ x.2.1) (iv x.2.2))],[(fr,eQ w.params k S (.ref o) kw k4 mt (gi w.params z.2.2.1 (x.1,x.2.1) x.2.2) z.2.2.2)],[(S,cO w.params dd (aw b x.1 x.2.1 (x.2.2.1+aa b x.1,z.1)) z.2.1)],[(o,dO w.params cls od iv m eo)],[(mt,fT "dict.get" S)],[(a,aR [.str ⟨⟨[x.1]⟩⟩ x.2.1,iv x.2.2] 0)]]) [0,4,2,0,1,0] ⟨rfl,rfl,rfl,rfl,rfl,rfl,rfl⟩
 .intro a z _
  exact p z.2.2.1 (x.1,x.2.1) x.2.2 z.2.2.2 z.1 z.2.1 _ _
 .intro a z y _ n
  exact ⟨y,⟨z.1,n⟩,rfl, .refl _⟩
theorem wK (i a:Nat) (d:Nat×Nat) (h:Nat×Nat) (v:Int×Nat) (f:Nat) (b:MI) (e:Nat) (x:Nat×Nat×Int×Nat) (j:b.length<=1000):ax (env w) (lC w.params fr it i a k S dd o mt kw k4 cls od eo (gi w.params d h v) f m b e x) (tF (assign (li w.params) (bJ w.params fr) (.ref a)>>=λ_=>Hb (lj w.params) (bJ w.params fr))):=aG _ (λ_ p=> .seg 0x7007000007008001008009009009009009009009001001001004001001001001001001001001004001001001001001001001001004001001001001001001001001003001003003003 λO=> .use _ (mr w S (Fq 1093) (FC dd) b e (x.1) (x.2.1) (O 5)) [6] [] λl t=> .seg 1 λq=> .use _ (b8 w (x.2.2.1) (aa b x.1) (x.2.2.2) l (x.2.2.1+aa b x.1) rfl) [] [] λg u=> .seg 0x1001000000000001000001009009 λr=> .use _ (dm w S (FC dd) e (x.1) (x.2.1) b (x.2.2.1+aa b x.1) g j) [0] [] λn y=> .seg 0 λs=>p ((g,n,(d.1,d.2),f)) trivial [4,4,4,0,3,3] [] [])
theorem wL (i a:Nat) (f:Nat) (b:MI) (e:Nat) (x:Nat×Nat×Int×Nat) (h:b.length<=1000):ax (env w) (lC w.params fr it i a k S dd o mt kw k4 cls od eo [] f m b e x) (tF (assign (li w.params) (bJ w.params fr) (.ref a)>>=λ_=>Hb (lj w.params) (bJ w.params fr))):=aG _ (λ_ l=> .seg 0x7007000007008001008009009009009009009009001001001004001001001001001001001001004001001001001001001001001004001001001001001001001001003001003003003 λO=> .use _ (mr w S (Fq 1093) (FC dd) b e (x.1) (x.2.1) (O 5)) [6] [] λg r=> .seg 1 λn=> .use _ (b8 w (x.2.2.1) (aa b x.1) (x.2.2.2) g (x.2.2.1+aa b x.1) rfl) [] [] λd s=> .seg 0x1001000000000001000001009009 λp=> .use _ (dm w S (FC dd) e (x.1) (x.2.1) b (x.2.2.1+aa b x.1) d h) [0] [] λj t=> .seg 0 λq=>l ((d,j,(O 3,O 4),f+1+1)) trivial [4,4,4,0,3,3] [] [])
theorem wx:∀(r:MI) (i:Nat) (ok h:E9) (g:Nat×Nat) (d:Nat×Nat) (v:Int×Nat) (f:Nat) (b:MI) (e:Nat),m.drop i=r->b.length+r.length<=900->
 ab (env w) (jS w.params fr it i ok h k S dd o mt kw k4 cls od eo (gi w.params g d v) f m r b e):=by
 intro r
 induction r with
 | nil=>
  intro i ok h g d v f b e j n
  exact ct (λ_ s=> .seg 68736258049 λO=> .use _ (gl w it o i eo ok h cls od m (aV j)) [0,2] [] λy l=> .seg 4099 λt=>s (((b,e),(g.1,g.2),(d.1,d.2),(v.1,v.2),f)) rfl [] [5,1,3] [])
 | cons x r q=>
  intro i ok h g d v f b e j n
  obtain ⟨p,l⟩:=aQ j
  simp only [Fb] at n
  refine qg w fr it k S dd o mt kw k4 cls od eo m i ok h _ f x r b e p (λa=>wK w fr it k S dd o mt kw k4 cls od eo m i a g d v f b e x (by omega)) λg d v f u e ok h=>q (i+1) ok h g d v f _ e l ?_
  have:=gR x.1 x.2.1 (x.2.2.1+aa b x.1,u) b
  omega
theorem qe (f:Nat) (b:MI) (d:Nat) (n:m≠[]) (g:b.length+m.length<=900):ab (env w) (jS w.params fr it 0 .none .none k S dd o mt kw k4 cls od eo [] f m m b d):=by
 cases h:m with
 | nil=>exact absurd h n
 | cons x r=>
  rw [<-h]
  obtain ⟨j,l⟩:=aQ (l:=m) (i:=0) (x:=x) (r:=r) h
  have e:m=x::r:=h
  have t:b.length+(r.length+1)<=900:=by rw [e] at g;simpa using g
  have q:=qg w fr it k S dd o mt kw k4 cls od eo m 0 .none .none [] f x r b d j (λa=>wL w fr it k S dd o mt kw k4 cls od eo m 0 a f b d x (by omega)) λp i v f u d ok s=>wx w fr it k S dd o mt kw k4 cls od eo m r 1 ok s p i v f _ d l (by
   have:=gR x.1 x.2.1 (x.2.2.1+aa b x.1,u) b
   omega)
  rw [<-e] at q
  exact q
end
def rx (P:E6) (S d de e o:Nat) (b m:MI) (X:ao):af:={d:=45,α:=MI×Nat,c:= .call (.ref 936) ⟨[.ref S, .ref o],[]⟩,need:=(S,cO P d b e)::(d,oD [] de)::X,r:=λ_=> .ok (.ret .none),put:=λz=>cO P d z.1 z.2::oD [] de::X.map (·.2),post:=λz=>ik m b z.1}
theorem wX (w:E7) (S f de d o:Nat) (b m:MI) (e n:Nat) (l:b.length=n+1) (j:b.length<=8) (D:b.length+m.length<=900):ab (env w) (rx w.params S f de d o b m [(o,dO w.params (.type "dict") none iv m e)]):=by
 by_cases k:m=[]
 .subst k
  exact av (λ_ i=> .seg 0x1001001001001001000000000001 λO=> .seg 0x1001001001000000001000000000000000000000000000005001001001000001000000001001 λs=> .seg 0x1001001001000000001000001001000000000000000000000000000000000001000000001000000000000000000000000000000000000000000000000000001001006001006001001006001006001006001001001006001001001000000001 λt=> .seg 0x5000000000005003001001001000000001000000000001001 λu=> .use _ (mz w S f b d (n+1) l j) [4] [] λE A=> .seg 0x8001008008008008005005005000001001001006000001001000000000001001000001001000000000000000000001004 λg=> .use _ (ug w o none e ([])) [7] [] λx B=> .seg 137455738882 λv=> .use _ (fS x o w (Fx "dict") none ([]) e) [1,0] [] λh C=> .seg 3 λq=> .seg 206175219713 λF=> .use _ (gl w h o 0 e FW FW (Fx "dict") none ([]) (by trivial)) [2,1] [] λP L=> .seg 0xb00b00a001003 λr=> .seg 755931066369 λH=> .use _ (gx w (O 0) none 0 ([]) 0 rfl) [10] [] λR N=> .seg 0 λJ=>i (b,d) rfl [7,10,2] [] [])
 .exact av (λ_ i=> .seg 0x1001001001001001000000000001 λO=> .seg 0x1001001001000000001000000000000000000000000000005001001001000001000000001001 λs=> .seg 0x1001001001000000001000001001000000000000000000000000000000000001000000001000000000000000000000000000000000000000000000000000001001006001006001001006001006001006001001001006001001001000000001 λt=> .seg 0x5000000000005003001001001000000001000000000001001 λu=> .use _ (mz w S f b d (n+1) l j) [4] [] λE A=> .seg 0x8001008008008008005005005000001001001006000001001000000000001001000001001000000000000000000001004 λg=> .use _ (ug w o none e m) [7] [] λx B=> .seg 137455738882 λv=> .use _ (fS x o w (Fx "dict") none m e) [1,0] [] λh C=> .seg 3 λq=> .use _ (qe w (O 1) h (O 2,O 3,O 4) S f o (g 1) (O 0) (g 2) (Fx "dict") none e m 4 b d k D) [2,6,3,1,1] [] λp y=> .seg 117469187 λG=> .seg 481053143041 λr=> .use _ (gx w (O 0) none 0 ([]) 0 rfl) [6] [] λQ M=> .seg 0 λI=>i (p.1.1,p.1.2) y [1,6,1] [] [])
theorem wY (w:E7) (S g de f o d F:Nat) (b m:MI) (e n:Nat) (p:b.length=n+1) (k:b.length<=8) (E:b.length+m.length<=900):ab (env w) (rx w.params S g de f o b m [(o,cO w.params d m e),(d,oD [] F)]):=by
 by_cases l:m=[]
 .subst l
  exact av (λ_ j=> .seg 0x1001001001001001000000000001 λO=> .seg 0x1001001001000000001000000000000000000000000000005001001001000001000000001001 λt=> .seg 0x1001001001000000001000001001000000000000000000000000000000000001000000001000000000000000000000000000000000000000000000000000001001006001000006001001000000000006001000006001000000000000000000006001001001006001001001000000001 λu=> .seg 0x5000000000005003000000001001001000000001000000000001001 λv=> .use _ (mz w S g b f (n+1) p k) [4] [] λG B=> .seg 0x8001009008000000000008000000000008000000000008005005005000001001001006000001001000000000001001000001001000000000000000000001004 λh=> .use _ (g6 w o (FC d) e ([])) [7] [] λx C=> .seg 137455738882 λy=> .use _ (fS x o w (Fq 1093) (FC d) ([]) e) [1,0] [] λi D=> .seg 3 λr=> .seg 206175219713 λH=> .use _ (gl w i o 0 e FW FW (Fq 1093) (FC d) ([]) (by trivial)) [2,1] [] λR N=> .seg 0xb00b00a001003 λs=> .seg 755931066369 λJ=> .use _ (gx w (O 0) none 0 ([]) 0 rfl) [10] [] λU Q=> .seg 0 λM=>j (b,f) rfl [7,10,2,9] [] [])
 .exact av (λ_ j=> .seg 0x1001001001001001000000000001 λO=> .seg 0x1001001001000000001000000000000000000000000000005001001001000001000000001001 λt=> .seg 0x1001001001000000001000001001000000000000000000000000000000000001000000001000000000000000000000000000000000000000000000000000001001006001000006001001000000000006001000006001000000000000000000006001001001006001001001000000001 λu=> .seg 0x5000000000005003000000001001001000000001000000000001001 λv=> .use _ (mz w S g b f (n+1) p k) [4] [] λG B=> .seg 0x8001009008000000000008000000000008000000000008005005005000001001001006000001001000000000001001000001001000000000000000000001004 λh=> .use _ (g6 w o (FC d) e m) [7] [] λx C=> .seg 137455738882 λy=> .use _ (fS x o w (Fq 1093) (FC d) m e) [1,0] [] λi D=> .seg 3 λr=> .use _ (qe w (O 1) i (O 2,O 3,O 4) S g o (h 1) (O 0) (h 2) (Fq 1093) (FC d) e m 4 b f l E) [2,6,3,1,1] [] λq A=> .seg 117469187 λI=> .seg 481053143041 λs=> .use _ (gx w (O 0) none 0 ([]) 0 rfl) [6] [] λT P=> .seg 0 λL=>j (q.1.1,q.1.2) A [1,6,1,5] [] [])
def jA:List (Nat×Nat)->MI->MI->Prop
 | [],b,d=>d=b
 | x::p,b,d=>∃u,jA p (aw b x.1 x.2 (aa b x.1-1,u)) d
def xF (P:E6) (f:Nat):Env:=dY (n9 P) 944 f
def xE (P:E6):Stmt:=aA (cw (aA (aY (aA (cX (n9 P)) 0)) 1)) 0
def xD (P:E6) (i f:Nat):Code:=bR (xE P) (.ref i) (xF P f)
def lX (P:E6) (k:Nat) (c:Nat×Nat):List E4:=[es P [101,108,101,109] k (cv c)]
def lD (P:E6) (f e i:Nat) (k:Nat×Nat×Nat) (S d l j mt h g:Nat) (o:List E4) (n:Nat) (p r:List (Nat×Nat)) (b:MI) (m:Nat):af:={d:=15,α:=(MI×Nat)×Nat×(Nat×Nat)×Nat,c:=xD P e f,need:=[(e,aW "list_iterator" l i),(l,ae (p.map cv) j),(f,eQ P k S (.ref l) h g mt o n),(S,cO P d b m),(mt,fT "dict.get" S)],new:=λx=>[(S,cO P d x.1.1 x.1.2),(l,ae (p.map cv) j),(f,eQ P k S (.ref l) h g mt (lX P x.2.1 x.2.2.1) x.2.2.2)],post:=λx=>jA r b x.1.1}
section
variable (w:E7) (fr it:Nat) (k:Nat×Nat×Nat) (S dd l ln mt kw k4:Nat) (ps:List (Nat×Nat))
theorem xB:∀(r:List (Nat×Nat)) (i g:Nat) (d:Nat×Nat) (f:Nat) (b:MI) (e:Nat),ps.drop i=r->b.length+r.length<=900->
 ab (env w) (lD w.params fr it i k S dd l ln mt kw k4 (lX w.params g d) f ps r b e):=by
 intro r
 induction r with
 | nil=>
  intro i g d f b e j o
  exact ct (λ_ m=> .seg 68736258049 λq=> .use _ (ch w it l i ln cv ps (aV j)) [0,0] [] λF n=> .seg 4099 λO=>m (((b,e),g,(d.1,d.2),f)) rfl [] [5,1,3] [])
 | cons x r C=>
  intro i g d f b e j o
  obtain ⟨A,n⟩:=aQ j
  simp only [Fb] at o
  exact av (λ_ m=> .seg 68736258049 λq=> .use _ (cr w it l i ln cv ps x A) [0,0] [] λF L=> .seg 0x4004000004005001005003003003003 λO=> .use _ (mr w S (Fq 1093) (FC dd) b e (x.1) (x.2) (O 1)) [3] [] λG M=> .seg 1 λs=> .use _ (bx w (aa b x.1) 1 G (s 0) (aa b x.1-1) rfl) [] [] λp N=> .seg 0x1001000000000001000001004004 λI=> .use _ (dm w S (FC dd) e (x.1) (x.2) b (aa b x.1-1) p (by omega)) [0] [] λH P=> .seg 0 λJ=> .use _ ((λg d f u e=>C (i+1) g d f _ e n (by have:=gR x.1 x.2 (aa b x.1-1,u) b;omega):∀(D:Nat) (t:Nat×Nat) (y E v:Nat),ab (env w) (lD w.params fr it (i+1) k S dd l ln mt kw k4 (lX w.params D t) y ps r (aw b x.1 x.2 (aa b x.1-1,E)) v)) g x f p H) [1,1,1,0,0] [] λh B=>m (((h.1.1,h.1.2),h.2.1,(h.2.2.1.1,h.2.2.1.2),h.2.2.2)) ⟨_,B⟩ [] [0,0,0] [])
theorem xC (f:Nat) (b:MI) (e:Nat) (s:ps≠[]) (q:b.length+ps.length<=900):ab (env w) (lD w.params fr it 0 k S dd l ln mt kw k4 [] f ps ps b e):=by
 cases h:ps with
 | nil=>exact absurd h s
 | cons x r=>
  subst h
  simp only [Fb] at q
  exact av (λ_ C=> .seg 68736258049 λD=> .use _ (cr w it l 0 ln cv (x::r) x rfl) [0,0] [] λL G=> .seg 0x4004000004005001005003003003003 λO=> .use _ (mr w S (Fq 1093) (FC dd) b e (x.1) (x.2) (O 1)) [3] [] λA H=> .seg 1 λi=> .use _ (bx w (aa b x.1) 1 A (i 0) (aa b x.1-1) rfl) [] [] λg I=> .seg 0x1001000000000001000001004004 λE=> .use _ (dm w S (FC dd) e (x.1) (x.2) b (aa b x.1-1) g (by omega)) [0] [] λB J=> .seg 0 λF=> .use _ ((λt j f u e=>xB w fr it k S dd l ln mt kw k4 (x::r) r 1 t j f _ e rfl (by have:=gR x.1 x.2 (aa b x.1-1,u) b;omega):∀(v:Nat) (m:Nat×Nat) (o y n:Nat),ab (env w) (lD w.params fr it (0+1) k S dd l ln mt kw k4 (lX w.params v m) o (x::r) r (aw b x.1 x.2 (aa b x.1-1,y)) n)) (O 0) x (f+1) g B) [1,1,1,0,0] [] λd p=>C (((d.1.1,d.1.2),d.2.1,(d.2.2.1.1,d.2.2.1.2),d.2.2.2)) ⟨_,p⟩ [] [0,0,0] [])
end
def yk (P:E6) (S d de f l e:Nat) (b:MI) (p:List (Nat×Nat)):af:={d:=45,α:=MI×Nat,c:= .call (.ref 944) ⟨[.ref S, .ref l],[]⟩,need:=[(S,cO P d b f),(d,oD [] de),(l,ae (p.map cv) e)],r:=λ_=> .ok (.ret .none),put:=λz=>[cO P d z.1 z.2,oD [] de,ae (p.map cv) e],post:=λz=>jA p b z.1}
theorem xA (w:E7) (S j de g l h:Nat) (d:MI) (p:List (Nat×Nat)) (s:d.length+p.length<=900):ab (env w) (yk w.params S j de g l h d p):=by
 by_cases k:p=[]
 .subst k
  exact av (λ_ i=> .seg 0x1001001001001001000000000001 λO=> .seg 0x1001001001000000001000000000000000000000000000006001001001000002000000002002000003001001004000003003000000000003001000003001000000000000000000003001001001 λe=> .seg 0x1001001001000000001000001001000000000000000000000000000000000001000000001000000000000000000000000000000000000000000000000000001001007001007001001007001007001007001001001007001001001000000001 λn=> .seg 0x1001000000001000001000001001001000000001000000000001001 λo=> .seg 0x1001001001001001001001 λb=> .use _ (jN w ([108,105,115,116]) ([109,97,112,112,105,110,103,112,114,111,120,121]) (b 1) (b 2) (by trivial)) [] [] λt q=> .seg 0x1001009001009009005001000000001002002001001000000 λf=> .seg 68736258049 λA=> .use _ (ch w (f 1) l 0 h cv ([]) (by trivial)) [0,8] [] λH E=> .seg 0xa00a009001003 λm=> .seg 687211585537 λu=> .use _ (gx w (O 0) none 0 ([]) 0 rfl) [9] [] λG D=> .seg 0 λy=>i (d,g) rfl [10,10,2] [] [])
 .exact av (λ_ i=> .seg 0x1001001001001001000000000001 λO=> .seg 0x1001001001000000001000000000000000000000000000006001001001000002000000002002000003001001004000003003000000000003001000003001000000000000000000003001001001 λe=> .seg 0x1001001001000000001000001001000000000000000000000000000000000001000000001000000000000000000000000000000000000000000000000000001001007001007001001007001007001007001001001007001001001000000001 λn=> .seg 0x1001000000001000001000001001001000000001000000000001001 λo=> .seg 0x1001001001001001001001 λb=> .use _ (jN w ([108,105,115,116]) ([109,97,112,112,105,110,103,112,114,111,120,121]) (b 1) (b 2) (by trivial)) [] [] λt q=> .seg 0x1001009001009009005001000000001002002001001000000 λf=> .use _ (xC w (O 1) (f 1) (O 2,O 3,O 4) S j l h (e 1) (O 0) (e 2) p 4 d g k s) [0,8,4,5,3] [] λx r=> .seg 117469187 λB=> .seg 481053143041 λm=> .use _ (gx w (O 0) none 0 ([]) 0 rfl) [6] [] λF C=> .seg 0 λv=>i (x.1.1,x.1.2) r [1,6,1] [] [])
def bn (a b:Int):Int:=if a< b then a else b
def bm (a b:Int):Int:=if a< b then b else a
def cB (a b:Int):Int:=a-b
def PO (v:Int) (b d:MI) (c t:Nat):Prop:=(0< v->∃u,d=aw b c t (v,u))/\(¬0< v->d=b)
theorem cy {v b:Int} {d:MI} {c t u:Nat} (h:b=v) (hp:0< b):PO v d (aw d c t (b,u)) c t:=⟨λ_=>⟨u,by rw [h]⟩,λn=>absurd (h▸hp) n⟩
theorem cz {v:Int} {b:MI} {c t:Nat} (h:¬0< v):PO v b b c t:=⟨λn=>absurd n h,λ_=>rfl⟩
theorem ii {v:Int} {b d:MI} {c t:Nat} (h:PO v b d c t):d.length<=b.length+1:=by
 by_cases e:0< v
 .obtain ⟨u,rfl⟩:=h.1 e
  exact gR _ _ _ _
 .rw [h.2 e];omega
def bM (f:Int->Int->Int) (B:MI):MI->MI->MI->Prop
 | [],b,d=>d=b
 | x::m,b,d=>∃e,PO (f x.2.2.1 (aa B x.1)) b e x.1 x.2.1/\bM f B m e d
def d5 (A:MI) (v:Int) (b d:MI) (c t:Nat):Prop:=(bU A c=false/\0< v->∃u,d=aw b c t (v,u))/\(¬(bU A c=false/\0< v)->d=b)
def ds (f:Int->Int) (A:MI):MI->MI->MI->Prop
 | [],b,d=>d=b
 | x::m,b,d=>∃e,d5 A (f x.2.2.1) b e x.1 x.2.1/\ds f A m e d
theorem v8 {A:MI} {v:Int} {b d:MI} {c t:Nat} (h:d5 A v b d c t):d.length<=b.length+1:=by
 by_cases e:bU A c=false/\0< v
 .obtain ⟨u,rfl⟩:=h.1 e
  exact gR _ _ _ _
 .rw [h.2 e];omega
def ej (s:Stmt):Expr:=(sP s).1
theorem l6 {e:Expr} (h:e= .Name ((eP e).2.2.2.2.2.headD ⟨⟨[]⟩⟩) (eP e).2.2.1) (i v:E9):Gp e i v=pure ():=by rw [h];rfl
def aZ (P:E6) (k:Nat×Nat×Nat) (S O R:Nat) (m:List E4) (f:Nat):Obj:=bD ([es P [115,101,108,102] k.1 (.ref S),es P [111,116,104,101,114] k.2.1 (.ref O),es P [114,101,115,117,108,116] k.2.2 (.ref R)]++m) f
abbrev M3:=(Nat×Nat×Nat)×(Nat×Nat)×(Int×Nat)×(Int×Nat)
abbrev M4:=(Nat×Nat×Nat×Nat)×(Nat×Nat)×(Int×Nat)×(Int×Nat)×(Int×Nat)
def mj (P:E6) (f:Nat):Env:=dY (oj P) 1043 f
def ja (P:E6):Stmt:=aA (cX (oj P)) 2
def gX (P:E6) (z:M4):List E4:=[es P [101,108,101,109] z.1.1 (cv z.2.1),es P [99,111,117,110,116] z.1.2.1 (iv z.2.2.1),es P [111,116,104,101,114,95,99,111,117,110,116] z.1.2.2.1 (iv z.2.2.2.1),es P [110,101,119,99,111,117,110,116] z.1.2.2.2 (iv z.2.2.2.2)]
def j0 (P:E6) (f h i:Nat) (ok p:E9) (k:Nat×Nat×Nat) (S g e O o j R r:Nat) (n:List E4) (l:Nat) (m b s d:MI) (q:Nat):af:={d:=41,α:=(MI×Nat)×M4×Nat,c:=bR (ja P) (.ref h) (mj P f),need:=[(h,aT .none S i m.length e ok p),(f,aZ P k S O R n l),(S,cO P g m e),(O,cO P o b j),(R,cO P r d q)],new:=λx=>[(S,cO P g m e),(O,cO P o b j),(R,cO P r x.1.1 x.1.2),(f,aZ P k S O R (gX P x.2.1) x.2.2)],post:=λx=>bM bn b s d x.1.1}
def rW (P:E6) (l g i a:Nat) (k:Nat×Nat×Nat) (S e f O o h R r:Nat) (n:List E4) (j:Nat) (m b d:MI) (p:Nat) (x:Nat×Nat×Int×Nat):af:={d:=40,α:=(MI×Nat)×M4×Nat,need:=eC P g i S (.ref 1093) (some e) m f a x++[(l,aZ P k S O R n j),(O,cO P o b h),(R,cO P r d p)],put:=λz=>(eC P g i S (.ref 1093) (some e) m f a x).map (·.2)++[aZ P k S O R (gX P z.2.1) z.2.2,cO P o b h,cO P r z.1.1 z.1.2],post:=λz=>PO (bn x.2.2.1 (aa b x.1)) d z.1.1 x.1 x.2.1}
def jw (P:E6) (f:Nat):Env:=dY (lT P) 1036 f
def i9 (P:E6):Stmt:=aA (cX (lT P)) 2
def cT (P:E6) (z:M4):List E4:=[es P [101,108,101,109] z.1.1 (cv z.2.1),es P [99,111,117,110,116] z.1.2.1 (iv z.2.2.1),es P [111,116,104,101,114,95,99,111,117,110,116] z.1.2.2.1 (iv z.2.2.2.1),es P [110,101,119,99,111,117,110,116] z.1.2.2.2 (iv z.2.2.2.2)]
def jZ (P:E6) (f h i:Nat) (ok p:E9) (k:Nat×Nat×Nat) (S g e O o j R r:Nat) (n:List E4) (l:Nat) (m b s d:MI) (q:Nat):af:={d:=41,α:=(MI×Nat)×M4×Nat,c:=bR (i9 P) (.ref h) (jw P f),need:=[(h,aT .none S i m.length e ok p),(f,aZ P k S O R n l),(S,cO P g m e),(O,cO P o b j),(R,cO P r d q)],new:=λx=>[(S,cO P g m e),(O,cO P o b j),(R,cO P r x.1.1 x.1.2),(f,aZ P k S O R (cT P x.2.1) x.2.2)],post:=λx=>bM bm b s d x.1.1}
def rV (P:E6) (l g i a:Nat) (k:Nat×Nat×Nat) (S e f O o h R r:Nat) (n:List E4) (j:Nat) (m b d:MI) (p:Nat) (x:Nat×Nat×Int×Nat):af:={d:=40,α:=(MI×Nat)×M4×Nat,need:=eC P g i S (.ref 1093) (some e) m f a x++[(l,aZ P k S O R n j),(O,cO P o b h),(R,cO P r d p)],put:=λz=>(eC P g i S (.ref 1093) (some e) m f a x).map (·.2)++[aZ P k S O R (cT P z.2.1) z.2.2,cO P o b h,cO P r z.1.1 z.1.2],post:=λz=>PO (bm x.2.2.1 (aa b x.1)) d z.1.1 x.1 x.2.1}
def ju (P:E6) (f:Nat):Env:=dY (lU P) 1029 f
def i8 (P:E6):Stmt:=aA (cX (lU P)) 2
def cS (P:E6) (z:M3):List E4:=[es P [101,108,101,109] z.1.1 (cv z.2.1),es P [99,111,117,110,116] z.1.2.1 (iv z.2.2.1),es P [110,101,119,99,111,117,110,116] z.1.2.2 (iv z.2.2.2)]
def jY (P:E6) (f h i:Nat) (ok p:E9) (k:Nat×Nat×Nat) (S g e O o j R r:Nat) (n:List E4) (l:Nat) (m b s d:MI) (q:Nat):af:={d:=41,α:=(MI×Nat)×M3×Nat,c:=bR (i8 P) (.ref h) (ju P f),need:=[(h,aT .none S i m.length e ok p),(f,aZ P k S O R n l),(S,cO P g m e),(O,cO P o b j),(R,cO P r d q)],new:=λx=>[(S,cO P g m e),(O,cO P o b j),(R,cO P r x.1.1 x.1.2),(f,aZ P k S O R (cS P x.2.1) x.2.2)],post:=λx=>bM cB b s d x.1.1}
def rT (P:E6) (l g i a:Nat) (k:Nat×Nat×Nat) (S e f O o h R r:Nat) (n:List E4) (j:Nat) (m b d:MI) (p:Nat) (x:Nat×Nat×Int×Nat):af:={d:=40,α:=(MI×Nat)×M3×Nat,need:=eC P g i S (.ref 1093) (some e) m f a x++[(l,aZ P k S O R n j),(O,cO P o b h),(R,cO P r d p)],put:=λz=>(eC P g i S (.ref 1093) (some e) m f a x).map (·.2)++[aZ P k S O R (cS P z.2.1) z.2.2,cO P o b h,cO P r z.1.1 z.1.2],post:=λz=>PO (cB x.2.2.1 (aa b x.1)) d z.1.1 x.1 x.2.1}
theorem uI (w:E7) (d b e c t:Nat) (m:MI) (h:bU m c=true):ab (env w) (lF iv w.params d (.ref 1093) (some b) m e c t true):=oY _ _ _ _ _ _ _ _ _ _ h
theorem uJ (w:E7) (d b e c t:Nat) (m:MI) (h:¬bU m c=true):ab (env w) (lF iv w.params d (.ref 1093) (some b) m e c t false):=oY _ _ _ _ _ _ _ _ _ _ (by simpa using h)
theorem jB {A:MI} {v b:Int} {d:MI} {c t u:Nat} (e:¬bU A c=true) (h:b=v) (hp:0< b):d5 A v d (aw d c t (b,u)) c t:=⟨λ_=>⟨u,by rw [h]⟩,λn=>absurd ⟨by simpa using e,h▸hp⟩ n⟩
theorem jD {A:MI} {v:Int} {b:MI} {c t:Nat} (h:bU A c=true):d5 A v b b c t:=⟨λn=>absurd (n.1.symm.trans h) Fg,λ_=>rfl⟩
theorem jC {A:MI} {v:Int} {b:MI} {c t:Nat} (h:¬0< v):d5 A v b b c t:=⟨λn=>absurd n.2 h,λ_=>rfl⟩
def ce (a:Int):Int:=a
def dJ (a:Int):Int:=0-a
def lZ (P:E6):Stmt:=aA (cX (lT P)) 3
def nI (P:E6) (f h i:Nat) (ok p:E9) (k:Nat×Nat×Nat) (S e g O j o R r:Nat) (n:List E4) (l:Nat) (m b s d:MI) (q:Nat):af:={d:=41,α:=(MI×Nat)×M4×Nat,c:=bR (lZ P) (.ref h) (jw P f),need:=[(h,aT .none O i b.length o ok p),(f,aZ P k S O R n l),(O,cO P j b o),(S,cO P e m g),(R,cO P r d q)],new:=λx=>[(S,cO P e m g),(O,cO P j b o),(R,cO P r x.1.1 x.1.2),(f,aZ P k S O R (cT P x.2.1) x.2.2)],post:=λx=>ds ce m s d x.1.1}
def yE (P:E6) (l f i a:Nat) (k:Nat×Nat×Nat) (S d e O o h R r:Nat) (n:List E4) (j:Nat) (m g b:MI) (p:Nat) (x:Nat×Nat×Int×Nat):af:={d:=40,α:=(MI×Nat)×M4×Nat,need:=eC P f i O (.ref 1093) (some o) g h a x++[(l,aZ P k S O R n j),(S,cO P d m e),(R,cO P r b p)],put:=λz=>(eC P f i O (.ref 1093) (some o) g h a x).map (·.2)++[aZ P k S O R (cT P z.2.1) z.2.2,cO P d m e,cO P r z.1.1 z.1.2],post:=λz=>d5 m (ce x.2.2.1) b z.1.1 x.1 x.2.1}
def lY (P:E6):Stmt:=aA (cX (lU P)) 3
def nH (P:E6) (f h i:Nat) (ok p:E9) (k:Nat×Nat×Nat) (S e g O j o R r:Nat) (n:List E4) (l:Nat) (m b s d:MI) (q:Nat):af:={d:=41,α:=(MI×Nat)×M3×Nat,c:=bR (lY P) (.ref h) (ju P f),need:=[(h,aT .none O i b.length o ok p),(f,aZ P k S O R n l),(O,cO P j b o),(S,cO P e m g),(R,cO P r d q)],new:=λx=>[(S,cO P e m g),(O,cO P j b o),(R,cO P r x.1.1 x.1.2),(f,aZ P k S O R (cS P x.2.1) x.2.2)],post:=λx=>ds dJ m s d x.1.1}
def yD (P:E6) (l f i a:Nat) (k:Nat×Nat×Nat) (S d e O o h R r:Nat) (n:List E4) (j:Nat) (m g b:MI) (p:Nat) (x:Nat×Nat×Int×Nat):af:={d:=40,α:=(MI×Nat)×M3×Nat,need:=eC P f i O (.ref 1093) (some o) g h a x++[(l,aZ P k S O R n j),(S,cO P d m e),(R,cO P r b p)],put:=λz=>(eC P f i O (.ref 1093) (some o) g h a x).map (·.2)++[aZ P k S O R (cS P z.2.1) z.2.2,cO P d m e,cO P r z.1.1 z.1.2],post:=λz=>d5 m (dJ x.2.2.1) b z.1.1 x.1 x.2.1}
theorem pX {f:Int->Int->Int} {B:MI}:∀{m d e:MI},bM f B m d e->e.length<=d.length+m.length
 | [],d,e,h=>by rw [h];exact FM _
 | x::m,d,e,⟨j,g,i⟩=>by
  have a:=ii g
  have b:=pX i
  simp only [Fb];omega
section
variable (w:E7) (fr it:Nat) (k:Nat×Nat×Nat) (S dd ep O od oe R rd:Nat) (m mo:MI)
theorem qL (i:Nat) (ok o:E9) (d:List E4) (f:Nat) (x:Nat×Nat×Int×Nat) (g b:MI) (r:Nat) (h:m[i]? =some x)
 (l:∀a,ax (env w) (rW w.params fr it i a k S dd ep O od oe R rd d f m mo b r x) (tF (assign (ej (ja w.params)) (mj w.params fr) (.ref a)>>=λ_=>Hb (aY (ja w.params)) (mj w.params fr))))
 (p:∀(z:M4) (f r:Nat) (j:MI) (ok o:E9),PO (bn x.2.2.1 (aa mo x.1)) b j x.1 x.2.1->ab (env w) (j0 w.params fr it (i+1) ok o k S dd ep O od oe R rd (gX w.params z) f m mo g j r)):
 ab (env w) (j0 w.params fr it i ok o k S dd ep O od oe R rd d f m mo (x::g) b r):=by
 refine jh (B:=λa=>rW w.params fr it i a k S dd ep O od oe R rd d f m mo b r x)
  (N:=λa z=>j0 w.params fr it (i+1) (.str ⟨⟨[x.1]⟩⟩ x.2.1) (iv x.2.2) k S dd ep O od oe R rd (gX w.params z.2.1) z.2.2 m mo g z.1.1 z.1.2)
  (junk:=λa z=>[(a,aR [.str ⟨⟨[x.1]⟩⟩ x.2.1,iv x.2.2] 0)]) (r0:=[(fr,aZ w.params k S O R d f),(O,cO w.params od mo oe),(R,cO w.params rd b r)])
  h (ok:=ok) (ov:=o) (target:=ej (ja w.params)) (body:=aY (ja w.params)) (els:=cw (ja w.params)) (ev:=mj w.params fr) (by kernel_rfl) (by kernel_rfl) rfl rfl (by show 5<=41;omega) ?_ l (λ_ _=>rfl) (λ_=>by show 40<=41;omega) (λ_=>rfl) (λ_=> .refl _) ?_ ?_ (λ_ _=>rfl) (λ_ _=>FM _) (λ_ _=>rfl) ?_
 .exact pf (A:=[[(it,aT .none S i m.length ep ok o)],[(fr,aZ w.params k S O R d f)],[(S,cO w.params dd m ep)],[(O,cO w.params od mo oe)],[(R,cO w.params rd b r)]])
   (B:=[[(it,aT .none S i m.length ep ok o)],[(S,cO w.params dd m ep)],[(fr,aZ w.params k S O R d f)],[(O,cO w.params od mo oe)],[(R,cO w.params rd b r)]]) [0,1,0,0,0] ⟨rfl,rfl,rfl,rfl,rfl,rfl⟩
 .intro a z _
  exact pf (A:=[[(it,aT .none S (i+1) m.length ep (.str ⟨⟨[x.1]⟩⟩ x.2.1) (iv x.2.2))],[(S,cO w.params dd m ep)],[(a,aR [.str ⟨⟨[x.1]⟩⟩ x.2.1,iv x.2.2] 0)],[(fr,aZ w.params k S O R (gX w.params z.2.1) z.2.2)],[(O,cO w.params od mo oe)],[(R,cO w.params rd z.1.1 z.1.2)]])
   (B:=[[(it,aT .none S (i+1) m.length ep (.str ⟨⟨[x.1]⟩⟩ x.2.1) (iv x.2.2))],[(fr,aZ w.params k S O R (gX w.params z.2.1) z.2.2)],[(S,cO w.params dd m ep)],[(O,cO w.params od mo oe)],[(R,cO w.params rd z.1.1 z.1.2)],[(a,aR [.str ⟨⟨[x.1]⟩⟩ x.2.1,iv x.2.2] 0)]]) [0,2,0,1,1,0] ⟨rfl,rfl,rfl,rfl,rfl,rfl,rfl⟩
 .intro a z e
  exact p z.2.1 z.2.2 z.1.2 z.1.1 _ _ e
 .intro a z y e n
  exact ⟨y,⟨z.1.1,e,n⟩,rfl, .refl _⟩
theorem B8:∀(g:MI) (i:Nat) (ok o:E9) (z:M4) (f:Nat) (b:MI) (r:Nat),m.drop i=g->b.length+g.length<=900->
 ab (env w) (j0 w.params fr it i ok o k S dd ep O od oe R rd (gX w.params z) f m mo g b r):=by
 intro g
 induction g with
 | nil=>
  intro i ok o z f b r u l
  exact ct (λ_ h=> .seg 68736258049 λy=> .use _ (gl w it S i ep ok o (Fq 1093) (FC dd) m (aV u)) [0,1] [] λd s=> .seg 4099 λB=>h (((b,r),z,f)) rfl [] [1,4,4,3] [])
 | cons x g G=>
  intro i ok o z f b r u l
  obtain ⟨D,s⟩:=aQ u
  simp only [Fb] at l
  refine qL w fr it k S dd ep O od oe R rd m mo i ok o _ f x g b r D (λa=>aG _ (have l:b.length<=1000:=(by omega);λ_ h=> .seg 0x8001000000000008000008000000000008007007007007007007001001001004001001001001001001001001004001001001001001001001001004001001001001001001001001003001003003003 λy=> .use _ (dF w O od mo oe (x.1) (x.2.1)) [7] [] λd s=> .seg 282024866775048 λB=> .or (x.2.2.1< aa mo x.1) (¬(x.2.2.1< aa mo x.1)) (FI _) (λq=> .use _ (gq w (x.2.2.1) (aa mo x.1) (x.2.2.2) d q) [] [] λH F=> .seg 282024866775048 λj=> .or (0< x.2.2.1) (¬(0< x.2.2.1)) (FI _) (λe=> .use _ (dx w (x.2.2.1) 0 (x.2.2.2) (j 1) e) [] [] λv t=> .seg 0x9001000000000009000009008008008 λp=> .use _ (dm w R (FC rd) r (x.1) (x.2.1) b (x.2.2.1) (x.2.2.2) l) [8] [] λn E=> .seg 0 λA=>h (((aw b x.1 x.2.1 (x.2.2.1,x.2.2.2),n),((z.1.1,z.1.2.1,z.1.2.2.1,z.1.2.2.2),(x.1,x.2.1),(x.2.2.1,x.2.2.2),(aa mo x.1,d),x.2.2.1,x.2.2.2),f)) (show PO (bn x.2.2.1 (aa mo x.1)) b ((aw b x.1 x.2.1 (x.2.2.1,x.2.2.2),n),((z.1.1,z.1.2.1,z.1.2.2.1,z.1.2.2.2),(x.1,x.2.1),(x.2.2.1,x.2.2.2),(aa mo x.1,d),x.2.2.1,x.2.2.2),f).1.1 x.1 x.2.1 from (by (first | exact cy (by first | rfl | (simp only [bn];(try split)<;>omega)) (by omega) | exact cz (by simp only [bn];(try split)<;>omega)))) [5,5,5,5,1,0] [] []) (λe=> .use _ (dy w (x.2.2.1) 0 (x.2.2.2) (j 1) e) [] [] λv t=> .seg 0 λp=>h (((b,r),((z.1.1,z.1.2.1,z.1.2.2.1,z.1.2.2.2),(x.1,x.2.1),(x.2.2.1,x.2.2.2),(aa mo x.1,d),x.2.2.1,x.2.2.2),f)) (show PO (bn x.2.2.1 (aa mo x.1)) b ((b,r),((z.1.1,z.1.2.1,z.1.2.2.1,z.1.2.2.2),(x.1,x.2.1),(x.2.2.1,x.2.2.2),(aa mo x.1,d),x.2.2.1,x.2.2.2),f).1.1 x.1 x.2.1 from (by (first | exact cy (by first | rfl | (simp only [bn];(try split)<;>omega)) (by omega) | exact cz (by simp only [bn];(try split)<;>omega)))) [4,4,4,4,0,3] [] [])) (λq=> .use _ (gr w (x.2.2.1) (aa mo x.1) (x.2.2.2) d q) [] [] λH F=> .seg 282024866775048 λj=> .or (0< aa mo x.1) (¬(0< aa mo x.1)) (FI _) (λe=> .use _ (dx w (aa mo x.1) 0 d (j 1) e) [] [] λv t=> .seg 0x9001000000000009000009008008008 λp=> .use _ (dm w R (FC rd) r (x.1) (x.2.1) b (aa mo x.1) d l) [8] [] λn E=> .seg 0 λA=>h (((aw b x.1 x.2.1 (aa mo x.1,d),n),((z.1.1,z.1.2.1,z.1.2.2.1,z.1.2.2.2),(x.1,x.2.1),(x.2.2.1,x.2.2.2),(aa mo x.1,d),aa mo x.1,d),f)) (show PO (bn x.2.2.1 (aa mo x.1)) b ((aw b x.1 x.2.1 (aa mo x.1,d),n),((z.1.1,z.1.2.1,z.1.2.2.1,z.1.2.2.2),(x.1,x.2.1),(x.2.2.1,x.2.2.2),(aa mo x.1,d),aa mo x.1,d),f).1.1 x.1 x.2.1 from (by (first | exact cy (by first | rfl | (simp only [bn];(try split)<;>omega)) (by omega) | exact cz (by simp only [bn];(try split)<;>omega)))) [5,5,5,5,1,0] [] []) (λe=> .use _ (dy w (aa mo x.1) 0 d (j 1) e) [] [] λv t=> .seg 0 λp=>h (((b,r),((z.1.1,z.1.2.1,z.1.2.2.1,z.1.2.2.2),(x.1,x.2.1),(x.2.2.1,x.2.2.2),(aa mo x.1,d),aa mo x.1,d),f)) (show PO (bn x.2.2.1 (aa mo x.1)) b ((b,r),((z.1.1,z.1.2.1,z.1.2.2.1,z.1.2.2.2),(x.1,x.2.1),(x.2.2.1,x.2.2.2),(aa mo x.1,d),aa mo x.1,d),f).1.1 x.1 x.2.1 from (by (first | exact cy (by first | rfl | (simp only [bn];(try split)<;>omega)) (by omega) | exact cz (by simp only [bn];(try split)<;>omega)))) [4,4,4,4,0,3] [] [])))) λz f r C ok o hp=>G (i+1) ok o z f C r s ?_
  have:=ii hp
  omega
theorem B9 (g:Nat) (r:Nat) (E:m≠[]) (j:m.length<=900):ab (env w) (j0 w.params fr it 0 .none .none k S dd ep O od oe R rd [] g m mo m [] r):=by
 obtain ⟨x,n,e⟩:=Fy E
 obtain ⟨B,v⟩:=aQ (l:=m) (i:=0) (x:=x) (r:=n) e
 have H:n.length+1<=900:=by rw [e] at j;simpa using j
 have q:=qL w fr it k S dd ep O od oe R rd m mo 0 .none .none [] g x n [] r B (λa=>aG _ (have j:([]:MI).length<=1000:=(Gg _);λ_ o=> .seg 0x8001000000000008000008000000000008007007007007007007001001001004001001001001001001001001004001001001001001001001001004001001001001001001001001003001003003003 λd=> .use _ (dF w O od mo oe (x.1) (x.2.1)) [7] [] λb v=> .seg 282024866775048 λh=> .or (x.2.2.1< aa mo x.1) (¬(x.2.2.1< aa mo x.1)) (FI _) (λs=> .use _ (gq w (x.2.2.1) (aa mo x.1) (x.2.2.2) b s) [] [] λG D=> .seg 282024866775048 λf=> .or (0< x.2.2.1) (¬(0< x.2.2.1)) (FI _) (λi=> .use _ (dx w (x.2.2.1) 0 (x.2.2.2) (f 1) i) [] [] λu t=> .seg 0x9001000000000009000009008008008 λp=> .use _ (dm w R (FC rd) r (x.1) (x.2.1) [] (x.2.2.1) (x.2.2.2) j) [8] [] λl C=> .seg 0 λy=>o (((aw [] x.1 x.2.1 (x.2.2.1,x.2.2.2),l),((d 3,d 4,h 0,f 0),(x.1,x.2.1),(x.2.2.1,x.2.2.2),(aa mo x.1,b),x.2.2.1,x.2.2.2),g+1+1+1+1)) (show PO (bn x.2.2.1 (aa mo x.1)) [] ((aw [] x.1 x.2.1 (x.2.2.1,x.2.2.2),l),((d 3,d 4,h 0,f 0),(x.1,x.2.1),(x.2.2.1,x.2.2.2),(aa mo x.1,b),x.2.2.1,x.2.2.2),g+1+1+1+1).1.1 x.1 x.2.1 from (by (first | exact cy (by first | rfl | (simp only [bn];(try split)<;>omega)) (by omega) | exact cz (by simp only [bn];(try split)<;>omega)))) [5,5,5,5,1,0] [] []) (λi=> .use _ (dy w (x.2.2.1) 0 (x.2.2.2) (f 1) i) [] [] λu t=> .seg 0 λp=>o ((([],r),((d 3,d 4,h 0,f 0),(x.1,x.2.1),(x.2.2.1,x.2.2.2),(aa mo x.1,b),x.2.2.1,x.2.2.2),g+1+1+1+1)) (show PO (bn x.2.2.1 (aa mo x.1)) [] (([],r),((d 3,d 4,h 0,f 0),(x.1,x.2.1),(x.2.2.1,x.2.2.2),(aa mo x.1,b),x.2.2.1,x.2.2.2),g+1+1+1+1).1.1 x.1 x.2.1 from (by (first | exact cy (by first | rfl | (simp only [bn];(try split)<;>omega)) (by omega) | exact cz (by simp only [bn];(try split)<;>omega)))) [4,4,4,4,0,3] [] [])) (λs=> .use _ (gr w (x.2.2.1) (aa mo x.1) (x.2.2.2) b s) [] [] λG D=> .seg 282024866775048 λf=> .or (0< aa mo x.1) (¬(0< aa mo x.1)) (FI _) (λi=> .use _ (dx w (aa mo x.1) 0 b (f 1) i) [] [] λu t=> .seg 0x9001000000000009000009008008008 λp=> .use _ (dm w R (FC rd) r (x.1) (x.2.1) [] (aa mo x.1) b j) [8] [] λl C=> .seg 0 λy=>o (((aw [] x.1 x.2.1 (aa mo x.1,b),l),((d 3,d 4,h 0,f 0),(x.1,x.2.1),(x.2.2.1,x.2.2.2),(aa mo x.1,b),aa mo x.1,b),g+1+1+1+1)) (show PO (bn x.2.2.1 (aa mo x.1)) [] ((aw [] x.1 x.2.1 (aa mo x.1,b),l),((d 3,d 4,h 0,f 0),(x.1,x.2.1),(x.2.2.1,x.2.2.2),(aa mo x.1,b),aa mo x.1,b),g+1+1+1+1).1.1 x.1 x.2.1 from (by (first | exact cy (by first | rfl | (simp only [bn];(try split)<;>omega)) (by omega) | exact cz (by simp only [bn];(try split)<;>omega)))) [5,5,5,5,1,0] [] []) (λi=> .use _ (dy w (aa mo x.1) 0 b (f 1) i) [] [] λu t=> .seg 0 λp=>o ((([],r),((d 3,d 4,h 0,f 0),(x.1,x.2.1),(x.2.2.1,x.2.2.2),(aa mo x.1,b),aa mo x.1,b),g+1+1+1+1)) (show PO (bn x.2.2.1 (aa mo x.1)) [] (([],r),((d 3,d 4,h 0,f 0),(x.1,x.2.1),(x.2.2.1,x.2.2.2),(aa mo x.1,b),aa mo x.1,b),g+1+1+1+1).1.1 x.1 x.2.1 from (by (first | exact cy (by first | rfl | (simp only [bn];(try split)<;>omega)) (by omega) | exact cz (by simp only [bn];(try split)<;>omega)))) [4,4,4,4,0,3] [] [])))) λz g r A ok F hp=>B8 w fr it k S dd ep O od oe R rd m mo n 1 ok F z g A r v (by
  have:=ii hp
  simp only [Hf] at this
  omega)
 rw [<-e] at q
 exact q
end
def zb (P:E6) (S d de e O o f g:Nat) (m b:MI):af:={d:=90,α:=Nat×Nat×Nat×Nat×MI×Unit,c:= .call (.ref 1043) ⟨[.ref S, .ref O],[]⟩,need:=[(S,cO P d m e),(d,oD [] de),(O,cO P o b g),(o,oD [] f)],r:=λx=> .ok (.ret (.ref x.1)),put:=λ_=>[cO P d m e,oD [] de,cO P o b g,oD [] f],new:=λx=>[(x.1,cO P x.2.1 x.2.2.2.2.1 x.2.2.1),(x.2.1,oD [] x.2.2.2.1)],post:=λx=>bM bn b m [] x.2.2.2.2.1}
theorem pD (w:E7) (S d de e O o l g:Nat) (m f:MI) (k:m≠[]) (B:m.length<=400) (C:f.length<=400):ab (env w) (zb w.params S d de e O o l g m f):=av (λ_ q=> .seg 0x1001001001000000001 λb=> .seg 0x4001001001000001000000001 λs=> .use _ (jy w) [] [] λx v=> .seg 0x4001005004000000000004000000000004000000000004003003003 λi=> .use _ (g6 w S (FC d) e m) [3] [] λn y=> .seg 137455738882 λt=> .use _ (fS n S w (Fq 1093) (FC d) m e) [1,0] [] λp A=> .seg 3 λu=> .use _ (B9 w (b 0) p (b 1,b 2,i 0) S d e O o g (x.1) (x.2.1) m f 3 0 k (by omega)) [2,4,1,4,1] [] λh j=> .seg 4 λr=>q ((x.1,x.2.1,h.1.2,x.2.2,h.1.1,())) j [0,5,0,4] [0,2] [])
section
variable (w:E7) (fr it:Nat) (k:Nat×Nat×Nat) (S dd ep O od oe R rd:Nat) (m mo:MI)
theorem qK (i:Nat) (ok o:E9) (d:List E4) (f:Nat) (x:Nat×Nat×Int×Nat) (g b:MI) (r:Nat) (h:m[i]? =some x)
 (l:∀a,ax (env w) (rV w.params fr it i a k S dd ep O od oe R rd d f m mo b r x) (tF (assign (ej (i9 w.params)) (jw w.params fr) (.ref a)>>=λ_=>Hb (aY (i9 w.params)) (jw w.params fr))))
 (p:∀(z:M4) (f r:Nat) (j:MI) (ok o:E9),PO (bm x.2.2.1 (aa mo x.1)) b j x.1 x.2.1->ab (env w) (jZ w.params fr it (i+1) ok o k S dd ep O od oe R rd (cT w.params z) f m mo g j r)):
 ab (env w) (jZ w.params fr it i ok o k S dd ep O od oe R rd d f m mo (x::g) b r):=by
 refine jh (B:=λa=>rV w.params fr it i a k S dd ep O od oe R rd d f m mo b r x)
  (N:=λa z=>jZ w.params fr it (i+1) (.str ⟨⟨[x.1]⟩⟩ x.2.1) (iv x.2.2) k S dd ep O od oe R rd (cT w.params z.2.1) z.2.2 m mo g z.1.1 z.1.2)
  (junk:=λa z=>[(a,aR [.str ⟨⟨[x.1]⟩⟩ x.2.1,iv x.2.2] 0)]) (r0:=[(fr,aZ w.params k S O R d f),(O,cO w.params od mo oe),(R,cO w.params rd b r)])
  h (ok:=ok) (ov:=o) (target:=ej (i9 w.params)) (body:=aY (i9 w.params)) (els:=cw (i9 w.params)) (ev:=jw w.params fr) (by kernel_rfl) (by kernel_rfl) rfl rfl (by show 5<=41;omega) ?_ l (λ_ _=>rfl) (λ_=>by show 40<=41;omega) (λ_=>rfl) (λ_=> .refl _) ?_ ?_ (λ_ _=>rfl) (λ_ _=>FM _) (λ_ _=>rfl) ?_
 .exact pf (A:=[[(it,aT .none S i m.length ep ok o)],[(fr,aZ w.params k S O R d f)],[(S,cO w.params dd m ep)],[(O,cO w.params od mo oe)],[(R,cO w.params rd b r)]])
   (B:=[[(it,aT .none S i m.length ep ok o)],[(S,cO w.params dd m ep)],[(fr,aZ w.params k S O R d f)],[(O,cO w.params od mo oe)],[(R,cO w.params rd b r)]]) [0,1,0,0,0] ⟨rfl,rfl,rfl,rfl,rfl,rfl⟩
 .intro a z _
  exact pf (A:=[[(it,aT .none S (i+1) m.length ep (.str ⟨⟨[x.1]⟩⟩ x.2.1) (iv x.2.2))],[(S,cO w.params dd m ep)],[(a,aR [.str ⟨⟨[x.1]⟩⟩ x.2.1,iv x.2.2] 0)],[(fr,aZ w.params k S O R (cT w.params z.2.1) z.2.2)],[(O,cO w.params od mo oe)],[(R,cO w.params rd z.1.1 z.1.2)]])
   (B:=[[(it,aT .none S (i+1) m.length ep (.str ⟨⟨[x.1]⟩⟩ x.2.1) (iv x.2.2))],[(fr,aZ w.params k S O R (cT w.params z.2.1) z.2.2)],[(S,cO w.params dd m ep)],[(O,cO w.params od mo oe)],[(R,cO w.params rd z.1.1 z.1.2)],[(a,aR [.str ⟨⟨[x.1]⟩⟩ x.2.1,iv x.2.2] 0)]]) [0,2,0,1,1,0] ⟨rfl,rfl,rfl,rfl,rfl,rfl,rfl⟩
 .intro a z e
  exact p z.2.1 z.2.2 z.1.2 z.1.1 _ _ e
 .intro a z y e n
  exact ⟨y,⟨z.1.1,e,n⟩,rfl, .refl _⟩
theorem B6:∀(g:MI) (i:Nat) (ok o:E9) (z:M4) (f:Nat) (b:MI) (r:Nat),m.drop i=g->b.length+g.length<=900->
 ab (env w) (jZ w.params fr it i ok o k S dd ep O od oe R rd (cT w.params z) f m mo g b r):=by
 intro g
 induction g with
 | nil=>
  intro i ok o z f b r u l
  exact ct (λ_ h=> .seg 68736258049 λy=> .use _ (gl w it S i ep ok o (Fq 1093) (FC dd) m (aV u)) [0,1] [] λd s=> .seg 4099 λB=>h (((b,r),z,f)) rfl [] [1,4,4,3] [])
 | cons x g G=>
  intro i ok o z f b r u l
  obtain ⟨D,s⟩:=aQ u
  simp only [Fb] at l
  refine qK w fr it k S dd ep O od oe R rd m mo i ok o _ f x g b r D (λa=>aG _ (have l:b.length<=1000:=(by omega);λ_ h=> .seg 0x8001000000000008000008000000000008007007007007007007001001001004001001001001001001001001004001001001001001001001001004001001001001001001001001003001003003003 λy=> .use _ (dF w O od mo oe (x.1) (x.2.1)) [7] [] λd s=> .seg 282024866775048 λB=> .or (x.2.2.1< aa mo x.1) (¬(x.2.2.1< aa mo x.1)) (FI _) (λq=> .use _ (gq w (x.2.2.1) (aa mo x.1) (x.2.2.2) d q) [] [] λH F=> .seg 282024866775048 λj=> .or (0< aa mo x.1) (¬(0< aa mo x.1)) (FI _) (λe=> .use _ (dx w (aa mo x.1) 0 d (j 1) e) [] [] λv t=> .seg 0x9001000000000009000009008008008 λp=> .use _ (dm w R (FC rd) r (x.1) (x.2.1) b (aa mo x.1) d l) [8] [] λn E=> .seg 0 λA=>h (((aw b x.1 x.2.1 (aa mo x.1,d),n),((z.1.1,z.1.2.1,z.1.2.2.1,z.1.2.2.2),(x.1,x.2.1),(x.2.2.1,x.2.2.2),(aa mo x.1,d),aa mo x.1,d),f)) (show PO (bm x.2.2.1 (aa mo x.1)) b ((aw b x.1 x.2.1 (aa mo x.1,d),n),((z.1.1,z.1.2.1,z.1.2.2.1,z.1.2.2.2),(x.1,x.2.1),(x.2.2.1,x.2.2.2),(aa mo x.1,d),aa mo x.1,d),f).1.1 x.1 x.2.1 from (by (first | exact cy (by first | rfl | (simp only [bm];(try split)<;>omega)) (by omega) | exact cz (by simp only [bm];(try split)<;>omega)))) [5,5,5,5,1,0] [] []) (λe=> .use _ (dy w (aa mo x.1) 0 d (j 1) e) [] [] λv t=> .seg 0 λp=>h (((b,r),((z.1.1,z.1.2.1,z.1.2.2.1,z.1.2.2.2),(x.1,x.2.1),(x.2.2.1,x.2.2.2),(aa mo x.1,d),aa mo x.1,d),f)) (show PO (bm x.2.2.1 (aa mo x.1)) b ((b,r),((z.1.1,z.1.2.1,z.1.2.2.1,z.1.2.2.2),(x.1,x.2.1),(x.2.2.1,x.2.2.2),(aa mo x.1,d),aa mo x.1,d),f).1.1 x.1 x.2.1 from (by (first | exact cy (by first | rfl | (simp only [bm];(try split)<;>omega)) (by omega) | exact cz (by simp only [bm];(try split)<;>omega)))) [4,4,4,4,0,3] [] [])) (λq=> .use _ (gr w (x.2.2.1) (aa mo x.1) (x.2.2.2) d q) [] [] λH F=> .seg 282024866775048 λj=> .or (0< x.2.2.1) (¬(0< x.2.2.1)) (FI _) (λe=> .use _ (dx w (x.2.2.1) 0 (x.2.2.2) (j 1) e) [] [] λv t=> .seg 0x9001000000000009000009008008008 λp=> .use _ (dm w R (FC rd) r (x.1) (x.2.1) b (x.2.2.1) (x.2.2.2) l) [8] [] λn E=> .seg 0 λA=>h (((aw b x.1 x.2.1 (x.2.2.1,x.2.2.2),n),((z.1.1,z.1.2.1,z.1.2.2.1,z.1.2.2.2),(x.1,x.2.1),(x.2.2.1,x.2.2.2),(aa mo x.1,d),x.2.2.1,x.2.2.2),f)) (show PO (bm x.2.2.1 (aa mo x.1)) b ((aw b x.1 x.2.1 (x.2.2.1,x.2.2.2),n),((z.1.1,z.1.2.1,z.1.2.2.1,z.1.2.2.2),(x.1,x.2.1),(x.2.2.1,x.2.2.2),(aa mo x.1,d),x.2.2.1,x.2.2.2),f).1.1 x.1 x.2.1 from (by (first | exact cy (by first | rfl | (simp only [bm];(try split)<;>omega)) (by omega) | exact cz (by simp only [bm];(try split)<;>omega)))) [5,5,5,5,1,0] [] []) (λe=> .use _ (dy w (x.2.2.1) 0 (x.2.2.2) (j 1) e) [] [] λv t=> .seg 0 λp=>h (((b,r),((z.1.1,z.1.2.1,z.1.2.2.1,z.1.2.2.2),(x.1,x.2.1),(x.2.2.1,x.2.2.2),(aa mo x.1,d),x.2.2.1,x.2.2.2),f)) (show PO (bm x.2.2.1 (aa mo x.1)) b ((b,r),((z.1.1,z.1.2.1,z.1.2.2.1,z.1.2.2.2),(x.1,x.2.1),(x.2.2.1,x.2.2.2),(aa mo x.1,d),x.2.2.1,x.2.2.2),f).1.1 x.1 x.2.1 from (by (first | exact cy (by first | rfl | (simp only [bm];(try split)<;>omega)) (by omega) | exact cz (by simp only [bm];(try split)<;>omega)))) [4,4,4,4,0,3] [] [])))) λz f r C ok o hp=>G (i+1) ok o z f C r s ?_
  have:=ii hp
  omega
theorem B7 (g:Nat) (r:Nat) (E:m≠[]) (j:m.length<=900):ab (env w) (jZ w.params fr it 0 .none .none k S dd ep O od oe R rd [] g m mo m [] r):=by
 obtain ⟨x,n,e⟩:=Fy E
 obtain ⟨B,v⟩:=aQ (l:=m) (i:=0) (x:=x) (r:=n) e
 have H:n.length+1<=900:=by rw [e] at j;simpa using j
 have q:=qK w fr it k S dd ep O od oe R rd m mo 0 .none .none [] g x n [] r B (λa=>aG _ (have j:([]:MI).length<=1000:=(Gg _);λ_ o=> .seg 0x8001000000000008000008000000000008007007007007007007001001001004001001001001001001001001004001001001001001001001001004001001001001001001001001003001003003003 λd=> .use _ (dF w O od mo oe (x.1) (x.2.1)) [7] [] λb v=> .seg 282024866775048 λh=> .or (x.2.2.1< aa mo x.1) (¬(x.2.2.1< aa mo x.1)) (FI _) (λs=> .use _ (gq w (x.2.2.1) (aa mo x.1) (x.2.2.2) b s) [] [] λG D=> .seg 282024866775048 λf=> .or (0< aa mo x.1) (¬(0< aa mo x.1)) (FI _) (λi=> .use _ (dx w (aa mo x.1) 0 b (f 1) i) [] [] λu t=> .seg 0x9001000000000009000009008008008 λp=> .use _ (dm w R (FC rd) r (x.1) (x.2.1) [] (aa mo x.1) b j) [8] [] λl C=> .seg 0 λy=>o (((aw [] x.1 x.2.1 (aa mo x.1,b),l),((d 3,d 4,h 0,f 0),(x.1,x.2.1),(x.2.2.1,x.2.2.2),(aa mo x.1,b),aa mo x.1,b),g+1+1+1+1)) (show PO (bm x.2.2.1 (aa mo x.1)) [] ((aw [] x.1 x.2.1 (aa mo x.1,b),l),((d 3,d 4,h 0,f 0),(x.1,x.2.1),(x.2.2.1,x.2.2.2),(aa mo x.1,b),aa mo x.1,b),g+1+1+1+1).1.1 x.1 x.2.1 from (by (first | exact cy (by first | rfl | (simp only [bm];(try split)<;>omega)) (by omega) | exact cz (by simp only [bm];(try split)<;>omega)))) [5,5,5,5,1,0] [] []) (λi=> .use _ (dy w (aa mo x.1) 0 b (f 1) i) [] [] λu t=> .seg 0 λp=>o ((([],r),((d 3,d 4,h 0,f 0),(x.1,x.2.1),(x.2.2.1,x.2.2.2),(aa mo x.1,b),aa mo x.1,b),g+1+1+1+1)) (show PO (bm x.2.2.1 (aa mo x.1)) [] (([],r),((d 3,d 4,h 0,f 0),(x.1,x.2.1),(x.2.2.1,x.2.2.2),(aa mo x.1,b),aa mo x.1,b),g+1+1+1+1).1.1 x.1 x.2.1 from (by (first | exact cy (by first | rfl | (simp only [bm];(try split)<;>omega)) (by omega) | exact cz (by simp only [bm];(try split)<;>omega)))) [4,4,4,4,0,3] [] [])) (λs=> .use _ (gr w (x.2.2.1) (aa mo x.1) (x.2.2.2) b s) [] [] λG D=> .seg 282024866775048 λf=> .or (0< x.2.2.1) (¬(0< x.2.2.1)) (FI _) (λi=> .use _ (dx w (x.2.2.1) 0 (x.2.2.2) (f 1) i) [] [] λu t=> .seg 0x9001000000000009000009008008008 λp=> .use _ (dm w R (FC rd) r (x.1) (x.2.1) [] (x.2.2.1) (x.2.2.2) j) [8] [] λl C=> .seg 0 λy=>o (((aw [] x.1 x.2.1 (x.2.2.1,x.2.2.2),l),((d 3,d 4,h 0,f 0),(x.1,x.2.1),(x.2.2.1,x.2.2.2),(aa mo x.1,b),x.2.2.1,x.2.2.2),g+1+1+1+1)) (show PO (bm x.2.2.1 (aa mo x.1)) [] ((aw [] x.1 x.2.1 (x.2.2.1,x.2.2.2),l),((d 3,d 4,h 0,f 0),(x.1,x.2.1),(x.2.2.1,x.2.2.2),(aa mo x.1,b),x.2.2.1,x.2.2.2),g+1+1+1+1).1.1 x.1 x.2.1 from (by (first | exact cy (by first | rfl | (simp only [bm];(try split)<;>omega)) (by omega) | exact cz (by simp only [bm];(try split)<;>omega)))) [5,5,5,5,1,0] [] []) (λi=> .use _ (dy w (x.2.2.1) 0 (x.2.2.2) (f 1) i) [] [] λu t=> .seg 0 λp=>o ((([],r),((d 3,d 4,h 0,f 0),(x.1,x.2.1),(x.2.2.1,x.2.2.2),(aa mo x.1,b),x.2.2.1,x.2.2.2),g+1+1+1+1)) (show PO (bm x.2.2.1 (aa mo x.1)) [] (([],r),((d 3,d 4,h 0,f 0),(x.1,x.2.1),(x.2.2.1,x.2.2.2),(aa mo x.1,b),x.2.2.1,x.2.2.2),g+1+1+1+1).1.1 x.1 x.2.1 from (by (first | exact cy (by first | rfl | (simp only [bm];(try split)<;>omega)) (by omega) | exact cz (by simp only [bm];(try split)<;>omega)))) [4,4,4,4,0,3] [] [])))) λz g r A ok F hp=>B6 w fr it k S dd ep O od oe R rd m mo n 1 ok F z g A r v (by
  have:=ii hp
  simp only [Hf] at this
  omega)
 rw [<-e] at q
 exact q
end
section
variable (w:E7) (fr it:Nat) (k:Nat×Nat×Nat) (S dd ep O od oe R rd:Nat) (m mo:MI)
theorem Bz:∀(d:MI) (i:Nat) (ok o:E9) (z:M4) (f:Nat) (b:MI) (r:Nat),mo.drop i=d->b.length+d.length<=900->
 ab (env w) (nI w.params fr it i ok o k S dd ep O od oe R rd (cT w.params z) f m mo d b r):=by
 intro d
 induction d with
 | nil=>
  intro i ok o z f b r n h
  exact ct (λ_ e=> .seg 68736258049 λt=> .use _ (gl w it O i oe ok o (Fq 1093) (FC od) mo (aV n)) [0,1] [] λJ q=> .seg 4099 λG=>e (((b,r),z,f)) rfl [] [5,1,4,3] [])
 | cons x d D=>
  intro i ok o z f b r n h
  obtain ⟨v,q⟩:=aQ n
  simp only [Fb] at h
  refine jh (B:=λa=>yE w.params fr it i a k S dd ep O od oe R rd (cT w.params z) f m mo b r x)
   (N:=λa z=>nI w.params fr it (i+1) (.str ⟨⟨[x.1]⟩⟩ x.2.1) (iv x.2.2) k S dd ep O od oe R rd (cT w.params z.2.1) z.2.2 m mo d z.1.1 z.1.2)
   (junk:=λa z=>[(a,aR [.str ⟨⟨[x.1]⟩⟩ x.2.1,iv x.2.2] 0)]) (r0:=[(fr,aZ w.params k S O R (cT w.params z) f),(S,cO w.params dd m ep),(R,cO w.params rd b r)])
   v (ok:=ok) (ov:=o) (target:=ej (lZ w.params)) (body:=aY (lZ w.params)) (els:=cw (lZ w.params)) (ev:=jw w.params fr) (by kernel_rfl) (by kernel_rfl) rfl rfl (by show 5<=41;omega) ?_ (λa=>aG _ (have h:b.length<=1000:=(by omega);λ_ e=> .seg 0x8001000000000008000000000008007007007007007007001001001004001001001001001001001001004001001001001001001001001004001001001001001001001001003001003003003 λt=> .or (bU m x.1=HL) (¬(bU m x.1=HL)) (FI _) (λj=> .use _ (uI w S dd ep (x.1) (x.2.1) m j) [7] [] λE A=> .seg 0 λg=>e (((b,r),((z.1.1,z.1.2.1,z.1.2.2.1,z.1.2.2.2),(x.1,x.2.1),(x.2.2.1,x.2.2.2),(z.2.2.2.1.1,z.2.2.2.1.2),z.2.2.2.2.1,z.2.2.2.2.2),f)) (show d5 m (ce x.2.2.1) b ((b,r),((z.1.1,z.1.2.1,z.1.2.2.1,z.1.2.2.2),(x.1,x.2.1),(x.2.2.1,x.2.2.2),(z.2.2.2.1.1,z.2.2.2.1.2),z.2.2.2.2.1,z.2.2.2.2.2),f).1.1 x.1 x.2.1 from (by (first | exact jB (by assumption) (by first | rfl | (simp only [ce];omega)) (by omega) | exact jD (by assumption) | exact jC (by simp only [ce];omega)))) [4,4,4,4,0,3] [] []) (λj=> .use _ (uJ w S dd ep (x.1) (x.2.1) m j) [7] [] λE A=> .seg 4104 λg=> .or (0< x.2.2.1) (¬(0< x.2.2.1)) (FI _) (λl=> .use _ (dx w (x.2.2.1) 0 (x.2.2.2) (g 0) l) [] [] λF B=> .seg 0x9001000000000009000009008008008 λu=> .use _ (dm w R (FC rd) r (x.1) (x.2.1) b (x.2.2.1) (x.2.2.2) h) [8] [] λs I=> .seg 0 λH=>e (((aw b x.1 x.2.1 (x.2.2.1,x.2.2.2),s),((z.1.1,z.1.2.1,z.1.2.2.1,z.1.2.2.2),(x.1,x.2.1),(x.2.2.1,x.2.2.2),(z.2.2.2.1.1,z.2.2.2.1.2),z.2.2.2.2.1,z.2.2.2.2.2),f)) (show d5 m (ce x.2.2.1) b ((aw b x.1 x.2.1 (x.2.2.1,x.2.2.2),s),((z.1.1,z.1.2.1,z.1.2.2.1,z.1.2.2.2),(x.1,x.2.1),(x.2.2.1,x.2.2.2),(z.2.2.2.1.1,z.2.2.2.1.2),z.2.2.2.2.1,z.2.2.2.2.2),f).1.1 x.1 x.2.1 from (by (first | exact jB (by assumption) (by first | rfl | (simp only [ce];omega)) (by omega) | exact jD (by assumption) | exact jC (by simp only [ce];omega)))) [5,5,5,5,1,0] [] []) (λl=> .use _ (dy w (x.2.2.1) 0 (x.2.2.2) (g 0) l) [] [] λF B=> .seg 0 λu=>e (((b,r),((z.1.1,z.1.2.1,z.1.2.2.1,z.1.2.2.2),(x.1,x.2.1),(x.2.2.1,x.2.2.2),(z.2.2.2.1.1,z.2.2.2.1.2),z.2.2.2.2.1,z.2.2.2.2.2),f)) (show d5 m (ce x.2.2.1) b ((b,r),((z.1.1,z.1.2.1,z.1.2.2.1,z.1.2.2.2),(x.1,x.2.1),(x.2.2.1,x.2.2.2),(z.2.2.2.1.1,z.2.2.2.1.2),z.2.2.2.2.1,z.2.2.2.2.2),f).1.1 x.1 x.2.1 from (by (first | exact jB (by assumption) (by first | rfl | (simp only [ce];omega)) (by omega) | exact jD (by assumption) | exact jC (by simp only [ce];omega)))) [4,4,4,4,0,3] [] [])))) (λ_ _=>rfl) (λ_=>by show 40<=41;omega) (λ_=>rfl) (λ_=> .refl _) ?_ ?_ (λ_ _=>rfl) (λ_ _=>FM _) (λ_ _=>rfl) ?_
  .exact pf (A:=[[(it,aT .none O i mo.length oe ok o)],[(fr,aZ w.params k S O R (cT w.params z) f)],[(O,cO w.params od mo oe)],[(S,cO w.params dd m ep)],[(R,cO w.params rd b r)]])
    (B:=[[(it,aT .none O i mo.length oe ok o)],[(O,cO w.params od mo oe)],[(fr,aZ w.params k S O R (cT w.params z) f)],[(S,cO w.params dd m ep)],[(R,cO w.params rd b r)]]) [0,1,0,0,0] ⟨rfl,rfl,rfl,rfl,rfl,rfl⟩
  .intro a z _
   exact pf (A:=[[(it,aT .none O (i+1) mo.length oe (.str ⟨⟨[x.1]⟩⟩ x.2.1) (iv x.2.2))],[(O,cO w.params od mo oe)],[(a,aR [.str ⟨⟨[x.1]⟩⟩ x.2.1,iv x.2.2] 0)],[(fr,aZ w.params k S O R (cT w.params z.2.1) z.2.2)],[(S,cO w.params dd m ep)],[(R,cO w.params rd z.1.1 z.1.2)]])
    (B:=[[(it,aT .none O (i+1) mo.length oe (.str ⟨⟨[x.1]⟩⟩ x.2.1) (iv x.2.2))],[(fr,aZ w.params k S O R (cT w.params z.2.1) z.2.2)],[(O,cO w.params od mo oe)],[(S,cO w.params dd m ep)],[(R,cO w.params rd z.1.1 z.1.2)],[(a,aR [.str ⟨⟨[x.1]⟩⟩ x.2.1,iv x.2.2] 0)]]) [0,2,0,1,1,0] ⟨rfl,rfl,rfl,rfl,rfl,rfl,rfl⟩
  .intro a z p
   refine D (i+1) _ _ z.2.1 z.2.2 z.1.1 z.1.2 q ?_
   have:=v8 p
   omega
  .intro a z y p C
   exact ⟨y,⟨z.1.1,p,C⟩,rfl, .refl _⟩
theorem BA (z:M4) (f:Nat) (b:MI) (r:Nat) (h:b.length+mo.length<=900):ab (env w) (nI w.params fr it 0 .none .none k S dd ep O od oe R rd (cT w.params z) f m mo mo b r):=
 Bz w fr it k S dd ep O od oe R rd m mo mo 0 .none .none z f b r rfl h
end
def y9 (P:E6) (S d de f O o g h:Nat) (m b:MI):af:={d:=90,α:=Nat×Nat×Nat×Nat×MI×Unit,c:= .call (.ref 1036) ⟨[.ref S, .ref O],[]⟩,need:=[(S,cO P d m f),(d,oD [] de),(O,cO P o b h),(o,oD [] g)],r:=λx=> .ok (.ret (.ref x.1)),put:=λ_=>[cO P d m f,oD [] de,cO P o b h,oD [] g],new:=λx=>[(x.1,cO P x.2.1 x.2.2.2.2.1 x.2.2.1),(x.2.1,oD [] x.2.2.2.1)],post:=λx=>∃e,bM bm b m [] e/\ds ce m b e x.2.2.2.2.1}
theorem pz (w:E7) (S e de f O o q g:Nat) (m b:MI) (p:m≠[]) (M:m.length<=400) (N:b.length<=400):ab (env w) (y9 w.params S e de f O o q g m b):=av (λ_ v=> .seg 0x1001001001000000001 λd=> .seg 0x4001001001000001000000001 λD=> .use _ (jy w) [] [] λx I=> .seg 0x4001005004000000000004000000000004000000000004003003003 λi=> .use _ (g6 w S (FC e) f m) [3] [] λt J=> .seg 137455738882 λE=> .use _ (fS t S w (Fq 1093) (FC e) m f) [1,0] [] λu L=> .seg 3 λF=> .use _ (B7 w (d 0) u (d 1,d 2,i 0) S e f O o g (x.1) (x.2.1) m b 3 0 p (by omega)) [2,4,1,4,1] [] λh j=> .seg 0x2001008002000000000002000000000002000000000002004 λy=> .use _ (g6 w O (FC o) g b) [1] [] λr G=> .seg 137455738882 λA=> .use _ (fS r O w (Fq 1093) (FC o) b g) [1,0] [] λs H=> .seg 3 λB=>have n:(h.1.1.length+b.length<=900):=(by have:=pX j;simp only [Hf] at this;omega); .use _ (BA w (d 0) s (d 1,d 2,i 0) S e f O o g (x.1) (x.2.1) m b (h.2.1) (h.2.2) (h.1.1) (h.1.2) n) [2,4,1,1,1] [] λk l=> .seg 4 λC=>v ((x.1,x.2.1,k.1.2,x.2.2,k.1.1,())) ⟨_,j,l⟩ [0,6,0,5] [0,3] [])
section
variable (w:E7) (fr it:Nat) (k:Nat×Nat×Nat) (S dd ep O od oe R rd:Nat) (m mo:MI)
theorem qJ (i:Nat) (ok o:E9) (d:List E4) (f:Nat) (x:Nat×Nat×Int×Nat) (g b:MI) (r:Nat) (h:m[i]? =some x)
 (l:∀a,ax (env w) (rT w.params fr it i a k S dd ep O od oe R rd d f m mo b r x) (tF (assign (ej (i8 w.params)) (ju w.params fr) (.ref a)>>=λ_=>Hb (aY (i8 w.params)) (ju w.params fr))))
 (p:∀(z:M3) (f r:Nat) (j:MI) (ok o:E9),PO (cB x.2.2.1 (aa mo x.1)) b j x.1 x.2.1->ab (env w) (jY w.params fr it (i+1) ok o k S dd ep O od oe R rd (cS w.params z) f m mo g j r)):
 ab (env w) (jY w.params fr it i ok o k S dd ep O od oe R rd d f m mo (x::g) b r):=by
 refine jh (B:=λa=>rT w.params fr it i a k S dd ep O od oe R rd d f m mo b r x)
  (N:=λa z=>jY w.params fr it (i+1) (.str ⟨⟨[x.1]⟩⟩ x.2.1) (iv x.2.2) k S dd ep O od oe R rd (cS w.params z.2.1) z.2.2 m mo g z.1.1 z.1.2)
  (junk:=λa z=>[(a,aR [.str ⟨⟨[x.1]⟩⟩ x.2.1,iv x.2.2] 0)]) (r0:=[(fr,aZ w.params k S O R d f),(O,cO w.params od mo oe),(R,cO w.params rd b r)])
  h (ok:=ok) (ov:=o) (target:=ej (i8 w.params)) (body:=aY (i8 w.params)) (els:=cw (i8 w.params)) (ev:=ju w.params fr) (by kernel_rfl) (by kernel_rfl) rfl rfl (by show 5<=41;omega) ?_ l (λ_ _=>rfl) (λ_=>by show 40<=41;omega) (λ_=>rfl) (λ_=> .refl _) ?_ ?_ (λ_ _=>rfl) (λ_ _=>FM _) (λ_ _=>rfl) ?_
 .exact pf (A:=[[(it,aT .none S i m.length ep ok o)],[(fr,aZ w.params k S O R d f)],[(S,cO w.params dd m ep)],[(O,cO w.params od mo oe)],[(R,cO w.params rd b r)]])
   (B:=[[(it,aT .none S i m.length ep ok o)],[(S,cO w.params dd m ep)],[(fr,aZ w.params k S O R d f)],[(O,cO w.params od mo oe)],[(R,cO w.params rd b r)]]) [0,1,0,0,0] ⟨rfl,rfl,rfl,rfl,rfl,rfl⟩
 .intro a z _
  exact pf (A:=[[(it,aT .none S (i+1) m.length ep (.str ⟨⟨[x.1]⟩⟩ x.2.1) (iv x.2.2))],[(S,cO w.params dd m ep)],[(a,aR [.str ⟨⟨[x.1]⟩⟩ x.2.1,iv x.2.2] 0)],[(fr,aZ w.params k S O R (cS w.params z.2.1) z.2.2)],[(O,cO w.params od mo oe)],[(R,cO w.params rd z.1.1 z.1.2)]])
   (B:=[[(it,aT .none S (i+1) m.length ep (.str ⟨⟨[x.1]⟩⟩ x.2.1) (iv x.2.2))],[(fr,aZ w.params k S O R (cS w.params z.2.1) z.2.2)],[(S,cO w.params dd m ep)],[(O,cO w.params od mo oe)],[(R,cO w.params rd z.1.1 z.1.2)],[(a,aR [.str ⟨⟨[x.1]⟩⟩ x.2.1,iv x.2.2] 0)]]) [0,2,0,1,1,0] ⟨rfl,rfl,rfl,rfl,rfl,rfl,rfl⟩
 .intro a z e
  exact p z.2.1 z.2.2 z.1.2 z.1.1 _ _ e
 .intro a z y e n
  exact ⟨y,⟨z.1.1,e,n⟩,rfl, .refl _⟩
theorem B4:∀(e:MI) (i:Nat) (ok o:E9) (z:M3) (f:Nat) (b:MI) (r:Nat),m.drop i=e->b.length+e.length<=900->
 ab (env w) (jY w.params fr it i ok o k S dd ep O od oe R rd (cS w.params z) f m mo e b r):=by
 intro e
 induction e with
 | nil=>
  intro i ok o z f b r n h
  exact ct (λ_ g=> .seg 68736258049 λt=> .use _ (gl w it S i ep ok o (Fq 1093) (FC dd) m (aV n)) [0,1] [] λq l=> .seg 4099 λu=>g (((b,r),z,f)) rfl [] [1,4,4,3] [])
 | cons x e C=>
  intro i ok o z f b r n h
  obtain ⟨A,l⟩:=aQ n
  simp only [Fb] at h
  refine qJ w fr it k S dd ep O od oe R rd m mo i ok o _ f x e b r A (λa=>aG _ (have h:b.length<=1000:=(by omega);λ_ g=> .seg 0x8001000000000008000008000000000008007007007007007007007001001001004001001001001001001001001004001001001001001001001001004001001001001001001001001003001003003003 λt=> .use _ (dF w O od mo oe (x.1) (x.2.1)) [7] [] λq l=> .seg 1 λu=> .use _ (bx w (x.2.2.1) (aa mo x.1) (x.2.2.2) q (x.2.2.1-aa mo x.1) rfl) [] [] λd F=> .seg 68853727240 λp=> .or (0< x.2.2.1-aa mo x.1) (¬(0< x.2.2.1-aa mo x.1)) (FI _) (λj=> .use _ (dx w (x.2.2.1-aa mo x.1) 0 d (p 1) j) [] [] λD B=> .seg 0x9001000000000009000009008008008 λv=> .use _ (dm w R (FC rd) r (x.1) (x.2.1) b (x.2.2.1-aa mo x.1) d h) [8] [] λs G=> .seg 0 λE=>g (((aw b x.1 x.2.1 (x.2.2.1-aa mo x.1,d),s),((z.1.1,z.1.2.1,z.1.2.2),(x.1,x.2.1),(x.2.2.1,x.2.2.2),x.2.2.1-aa mo x.1,d),f)) (show PO (cB x.2.2.1 (aa mo x.1)) b ((aw b x.1 x.2.1 (x.2.2.1-aa mo x.1,d),s),((z.1.1,z.1.2.1,z.1.2.2),(x.1,x.2.1),(x.2.2.1,x.2.2.2),x.2.2.1-aa mo x.1,d),f).1.1 x.1 x.2.1 from (by (first | exact cy (by first | rfl | (simp only [cB];(try split)<;>omega)) (by omega) | exact cz (by simp only [cB];(try split)<;>omega)))) [5,5,5,5,1,0] [] []) (λj=> .use _ (dy w (x.2.2.1-aa mo x.1) 0 d (p 1) j) [] [] λD B=> .seg 0 λv=>g (((b,r),((z.1.1,z.1.2.1,z.1.2.2),(x.1,x.2.1),(x.2.2.1,x.2.2.2),x.2.2.1-aa mo x.1,d),f)) (show PO (cB x.2.2.1 (aa mo x.1)) b ((b,r),((z.1.1,z.1.2.1,z.1.2.2),(x.1,x.2.1),(x.2.2.1,x.2.2.2),x.2.2.1-aa mo x.1,d),f).1.1 x.1 x.2.1 from (by (first | exact cy (by first | rfl | (simp only [cB];(try split)<;>omega)) (by omega) | exact cz (by simp only [cB];(try split)<;>omega)))) [4,4,4,4,0,3] [] []))) λz f r y ok o hp=>C (i+1) ok o z f y r l ?_
  have:=ii hp
  omega
theorem B5 (f:Nat) (r:Nat) (v:m≠[]) (h:m.length<=900):ab (env w) (jY w.params fr it 0 .none .none k S dd ep O od oe R rd [] f m mo m [] r):=by
 obtain ⟨x,i,e⟩:=Fy v
 obtain ⟨t,l⟩:=aQ (l:=m) (i:=0) (x:=x) (r:=i) e
 have G:i.length+1<=900:=by rw [e] at h;simpa using h
 have q:=qJ w fr it k S dd ep O od oe R rd m mo 0 .none .none [] f x i [] r t (λa=>aG _ (have h:([]:MI).length<=1000:=(Gg _);λ_ o=> .seg 0x8001000000000008000008000000000008007007007007007007007001001001004001001001001001001001001004001001001001001001001001004001001001001001001001001003001003003003 λd=> .use _ (dF w O od mo oe (x.1) (x.2.1)) [7] [] λA l=> .seg 1 λD=> .use _ (bx w (x.2.2.1) (aa mo x.1) (x.2.2.2) A (x.2.2.1-aa mo x.1) rfl) [] [] λb E=> .seg 68853727240 λg=> .or (0< x.2.2.1-aa mo x.1) (¬(0< x.2.2.1-aa mo x.1)) (FI _) (λj=> .use _ (dx w (x.2.2.1-aa mo x.1) 0 b (g 1) j) [] [] λB u=> .seg 0x9001000000000009000009008008008 λp=> .use _ (dm w R (FC rd) r (x.1) (x.2.1) [] (x.2.2.1-aa mo x.1) b h) [8] [] λn F=> .seg 0 λC=>o (((aw [] x.1 x.2.1 (x.2.2.1-aa mo x.1,b),n),((d 3,d 4,g 0),(x.1,x.2.1),(x.2.2.1,x.2.2.2),x.2.2.1-aa mo x.1,b),f+1+1+1)) (show PO (cB x.2.2.1 (aa mo x.1)) [] ((aw [] x.1 x.2.1 (x.2.2.1-aa mo x.1,b),n),((d 3,d 4,g 0),(x.1,x.2.1),(x.2.2.1,x.2.2.2),x.2.2.1-aa mo x.1,b),f+1+1+1).1.1 x.1 x.2.1 from (by (first | exact cy (by first | rfl | (simp only [cB];(try split)<;>omega)) (by omega) | exact cz (by simp only [cB];(try split)<;>omega)))) [5,5,5,5,1,0] [] []) (λj=> .use _ (dy w (x.2.2.1-aa mo x.1) 0 b (g 1) j) [] [] λB u=> .seg 0 λp=>o ((([],r),((d 3,d 4,g 0),(x.1,x.2.1),(x.2.2.1,x.2.2.2),x.2.2.1-aa mo x.1,b),f+1+1+1)) (show PO (cB x.2.2.1 (aa mo x.1)) [] (([],r),((d 3,d 4,g 0),(x.1,x.2.1),(x.2.2.1,x.2.2.2),x.2.2.1-aa mo x.1,b),f+1+1+1).1.1 x.1 x.2.1 from (by (first | exact cy (by first | rfl | (simp only [cB];(try split)<;>omega)) (by omega) | exact cz (by simp only [cB];(try split)<;>omega)))) [4,4,4,4,0,3] [] []))) λz f r s ok y hp=>B4 w fr it k S dd ep O od oe R rd m mo i 1 ok y z f s r l (by
  have:=ii hp
  simp only [Hf] at this
  omega)
 rw [<-e] at q
 exact q
end
section
variable (w:E7) (fr it:Nat) (k:Nat×Nat×Nat) (S dd ep O od oe R rd:Nat) (m mo:MI)
theorem Bx:∀(d:MI) (i:Nat) (ok o:E9) (z:M3) (f:Nat) (b:MI) (r:Nat),mo.drop i=d->b.length+d.length<=900->
 ab (env w) (nH w.params fr it i ok o k S dd ep O od oe R rd (cS w.params z) f m mo d b r):=by
 intro d
 induction d with
 | nil=>
  intro i ok o z f b r n h
  exact ct (λ_ e=> .seg 68736258049 λv=> .use _ (gl w it O i oe ok o (Fq 1093) (FC od) mo (aV n)) [0,1] [] λN t=> .seg 4099 λI=>e (((b,r),z,f)) rfl [] [5,1,4,3] [])
 | cons x d E=>
  intro i ok o z f b r n h
  obtain ⟨A,t⟩:=aQ n
  simp only [Fb] at h
  refine jh (B:=λa=>yD w.params fr it i a k S dd ep O od oe R rd (cS w.params z) f m mo b r x)
   (N:=λa z=>nH w.params fr it (i+1) (.str ⟨⟨[x.1]⟩⟩ x.2.1) (iv x.2.2) k S dd ep O od oe R rd (cS w.params z.2.1) z.2.2 m mo d z.1.1 z.1.2)
   (junk:=λa z=>[(a,aR [.str ⟨⟨[x.1]⟩⟩ x.2.1,iv x.2.2] 0)]) (r0:=[(fr,aZ w.params k S O R (cS w.params z) f),(S,cO w.params dd m ep),(R,cO w.params rd b r)])
   A (ok:=ok) (ov:=o) (target:=ej (lY w.params)) (body:=aY (lY w.params)) (els:=cw (lY w.params)) (ev:=ju w.params fr) (by kernel_rfl) (by kernel_rfl) rfl rfl (by show 5<=41;omega) ?_ (λa=>aG _ (have h:b.length<=1000:=(by omega);λ_ e=> .seg 0x8001000000000008000000000008007007007007007007001001001004001001001001001001001001004001001001001001001001001004001001001001001001001001003001003003003 λv=> .or (bU m x.1=HL) (¬(bU m x.1=HL)) (FI _) (λj=> .use _ (uI w S dd ep (x.1) (x.2.1) m j) [7] [] λF B=> .seg 0 λg=>e (((b,r),((z.1.1,z.1.2.1,z.1.2.2),(x.1,x.2.1),(x.2.2.1,x.2.2.2),z.2.2.2.1,z.2.2.2.2),f)) (show d5 m (dJ x.2.2.1) b ((b,r),((z.1.1,z.1.2.1,z.1.2.2),(x.1,x.2.1),(x.2.2.1,x.2.2.2),z.2.2.2.1,z.2.2.2.2),f).1.1 x.1 x.2.1 from (by (first | exact jB (by assumption) (by first | rfl | (simp only [dJ];omega)) (by omega) | exact jD (by assumption) | exact jC (by simp only [dJ];omega)))) [4,4,4,4,0,3] [] []) (λj=> .use _ (uJ w S dd ep (x.1) (x.2.1) m j) [7] [] λF B=> .seg 4104 λg=> .or (x.2.2.1< 0) (¬(x.2.2.1< 0)) (FI _) (λl=> .use _ (gq w (x.2.2.1) 0 (x.2.2.2) (g 0) l) [] [] λG C=> .seg 4104 λs=> .use _ (bx w 0 (x.2.2.1) (s 0) (x.2.2.2) (0-x.2.2.1) rfl) [] [] λq M=> .seg 0x9001000000000009000009008008 λJ=> .use _ (dm w R (FC rd) r (x.1) (x.2.1) b (0-x.2.2.1) q h) [8] [] λu L=> .seg 0 λH=>e (((aw b x.1 x.2.1 (0-x.2.2.1,q),u),((z.1.1,z.1.2.1,z.1.2.2),(x.1,x.2.1),(x.2.2.1,x.2.2.2),z.2.2.2.1,z.2.2.2.2),f)) (show d5 m (dJ x.2.2.1) b ((aw b x.1 x.2.1 (0-x.2.2.1,q),u),((z.1.1,z.1.2.1,z.1.2.2),(x.1,x.2.1),(x.2.2.1,x.2.2.2),z.2.2.2.1,z.2.2.2.2),f).1.1 x.1 x.2.1 from (by (first | exact jB (by assumption) (by first | rfl | (simp only [dJ];omega)) (by omega) | exact jD (by assumption) | exact jC (by simp only [dJ];omega)))) [5,5,5,5,1,0] [] []) (λl=> .use _ (gr w (x.2.2.1) 0 (x.2.2.2) (g 0) l) [] [] λG C=> .seg 0 λs=>e (((b,r),((z.1.1,z.1.2.1,z.1.2.2),(x.1,x.2.1),(x.2.2.1,x.2.2.2),z.2.2.2.1,z.2.2.2.2),f)) (show d5 m (dJ x.2.2.1) b ((b,r),((z.1.1,z.1.2.1,z.1.2.2),(x.1,x.2.1),(x.2.2.1,x.2.2.2),z.2.2.2.1,z.2.2.2.2),f).1.1 x.1 x.2.1 from (by (first | exact jB (by assumption) (by first | rfl | (simp only [dJ];omega)) (by omega) | exact jD (by assumption) | exact jC (by simp only [dJ];omega)))) [4,4,4,4,0,3] [] [])))) (λ_ _=>rfl) (λ_=>by show 40<=41;omega) (λ_=>rfl) (λ_=> .refl _) ?_ ?_ (λ_ _=>rfl) (λ_ _=>FM _) (λ_ _=>rfl) ?_
  .exact pf (A:=[[(it,aT .none O i mo.length oe ok o)],[(fr,aZ w.params k S O R (cS w.params z) f)],[(O,cO w.params od mo oe)],[(S,cO w.params dd m ep)],[(R,cO w.params rd b r)]])
    (B:=[[(it,aT .none O i mo.length oe ok o)],[(O,cO w.params od mo oe)],[(fr,aZ w.params k S O R (cS w.params z) f)],[(S,cO w.params dd m ep)],[(R,cO w.params rd b r)]]) [0,1,0,0,0] ⟨rfl,rfl,rfl,rfl,rfl,rfl⟩
  .intro a z _
   exact pf (A:=[[(it,aT .none O (i+1) mo.length oe (.str ⟨⟨[x.1]⟩⟩ x.2.1) (iv x.2.2))],[(O,cO w.params od mo oe)],[(a,aR [.str ⟨⟨[x.1]⟩⟩ x.2.1,iv x.2.2] 0)],[(fr,aZ w.params k S O R (cS w.params z.2.1) z.2.2)],[(S,cO w.params dd m ep)],[(R,cO w.params rd z.1.1 z.1.2)]])
    (B:=[[(it,aT .none O (i+1) mo.length oe (.str ⟨⟨[x.1]⟩⟩ x.2.1) (iv x.2.2))],[(fr,aZ w.params k S O R (cS w.params z.2.1) z.2.2)],[(O,cO w.params od mo oe)],[(S,cO w.params dd m ep)],[(R,cO w.params rd z.1.1 z.1.2)],[(a,aR [.str ⟨⟨[x.1]⟩⟩ x.2.1,iv x.2.2] 0)]]) [0,2,0,1,1,0] ⟨rfl,rfl,rfl,rfl,rfl,rfl,rfl⟩
  .intro a z p
   refine E (i+1) _ _ z.2.1 z.2.2 z.1.1 z.1.2 t ?_
   have:=v8 p
   omega
  .intro a z y p D
   exact ⟨y,⟨z.1.1,p,D⟩,rfl, .refl _⟩
theorem By (z:M3) (f:Nat) (b:MI) (r:Nat) (h:b.length+mo.length<=900):ab (env w) (nH w.params fr it 0 .none .none k S dd ep O od oe R rd (cS w.params z) f m mo mo b r):=
 Bx w fr it k S dd ep O od oe R rd m mo mo 0 .none .none z f b r rfl h
end
def y8 (P:E6) (S d de f O o g h:Nat) (m b:MI):af:={d:=90,α:=Nat×Nat×Nat×Nat×MI×Unit,c:= .call (.ref 1029) ⟨[.ref S, .ref O],[]⟩,need:=[(S,cO P d m f),(d,oD [] de),(O,cO P o b h),(o,oD [] g)],r:=λx=> .ok (.ret (.ref x.1)),put:=λ_=>[cO P d m f,oD [] de,cO P o b h,oD [] g],new:=λx=>[(x.1,cO P x.2.1 x.2.2.2.2.1 x.2.2.1),(x.2.1,oD [] x.2.2.2.1)],post:=λx=>∃e,bM cB b m [] e/\ds dJ m b e x.2.2.2.2.1}
theorem EB (w:E7) (S e de f O o q g:Nat) (m b:MI) (p:m≠[]) (M:m.length<=400) (N:b.length<=400):ab (env w) (y8 w.params S e de f O o q g m b):=av (λ_ v=> .seg 0x1001001001000000001 λd=> .seg 0x4001001001000001000000001 λD=> .use _ (jy w) [] [] λx I=> .seg 0x4001005004000000000004000000000004000000000004003003003 λi=> .use _ (g6 w S (FC e) f m) [3] [] λt J=> .seg 137455738882 λE=> .use _ (fS t S w (Fq 1093) (FC e) m f) [1,0] [] λu L=> .seg 3 λF=> .use _ (B5 w (d 0) u (d 1,d 2,i 0) S e f O o g (x.1) (x.2.1) m b 3 0 p (by omega)) [2,4,1,4,1] [] λh j=> .seg 0x2001008002000000000002000000000002000000000002004 λy=> .use _ (g6 w O (FC o) g b) [1] [] λr G=> .seg 137455738882 λA=> .use _ (fS r O w (Fq 1093) (FC o) b g) [1,0] [] λs H=> .seg 3 λB=>have n:(h.1.1.length+b.length<=900):=(by have:=pX j;simp only [Hf] at this;omega); .use _ (By w (d 0) s (d 1,d 2,i 0) S e f O o g (x.1) (x.2.1) m b (h.2.1) (h.2.2) (h.1.1) (h.1.2) n) [2,4,1,1,1] [] λk l=> .seg 4 λC=>v ((x.1,x.2.1,k.1.2,x.2.2,k.1.1,())) ⟨_,j,l⟩ [0,6,0,5] [0,3] [])
def b9 (P:E6) (f l:Nat):Env:={dY (kp P) 1222 f with cells:=[(⟨⟨[108,101,102,116]⟩⟩,l)]}
def tR (P:E6):List Stmt:=cX (kp P)
def eS (P:E6) (k:Nat×Nat×Nat×Nat×Nat) (b:List Nat) (t nd d h S:Nat) (m:List E4) (f:Nat) (s:SL):Obj:=bv ([es P [110,97,109,101,115] k.1 (.str ⟨⟨b⟩⟩ t),es P [110,101,101,100,115] k.2.1 (.ref nd),es P [104,111,117,114,115] k.2.2.1 (.ref d),es P [104,97,110,100,115] k.2.2.2.1 (.ref h),es P [115,111,114,116,101,114] k.2.2.2.2 (.ref S)]++m) f s
def bP (P:E6) (k:Nat) (c:Nat×Nat):List E4:=[es P [110,97,109,101] k (cv c)]
structure NL where
 c:Nat×Nat
 a:Nat
 ps:List (Nat×Nat)
 n:Nat
def NL.cells (x:NL):ao:=[(x.a,ae (x.ps.map cv) x.n)]
def bh (N:List NL):ao:=N.flatMap NL.cells
def aM (N:List NL):List (Nat×Nat×Nat):=N.map λx=>(x.c.1,x.c.2,x.a)
def aU (N:List NL):List Nat:=N.map λx=>x.c.1
def au (N:List NL) (c:Nat):List (Nat×Nat):=((N.find? λx=>x.c.1==c).map (·.ps)).getD []
def ed (N:List NL):List Nat->List ai->List ai->Prop
 | [],I,b=>b=I
 | c::e,I,b=>∃(t:Nat) (n:ai) (d:List ai),d=cm (c,t) (au N c) (I++[n])/\n.node=(c,t)/\n.np.1=(au N c).length/\n.su=[]/\ed N e d b
def eJ (P:E6) (f r g i:Nat) (k:Nat×Nat×Nat×Nat×Nat) (b:List Nat) (t nd d h S s n:Nat) (j:Nat×Nat×Nat×Nat) (p l:Int×Nat) (u:List E4) (q:Nat) (m:SL) (N:List NL) (e:Nat) (v:List Nat) (I:List ai) (o:Nat):af:={d:=70,α:=List ai×Nat×Nat×(Nat×Nat)×Nat,c:=bR (aA (tR P) 1) (.ref g) (b9 P f r),need:=[(g,cq b t i),(f,eS P k b t nd d h S u q m),(S,bd s),(s,be P j n .none p l),(n,dO P (.type "dict") none .ref (ay I) o),(nd,dO P (.type "dict") none .ref (aM N) e)],new:=λx=>[(f,eS P k b t nd d h S (bP P x.2.2.1 x.2.2.2.1) x.2.2.2.2 m),(S,bd s),(s,be P j n .none p l),(n,dO P (.type "dict") none .ref (ay x.1) x.2.1),(nd,dO P (.type "dict") none .ref (aM N) e)],post:=λx=>ed N v I x.1,needB:=[aB I,bh N],putB:=λx=>[aB x.1,bh N]}
theorem iY {N:List NL} (d:(aU N).Nodup) {c:Nat} (j:c∈aU N):∃(x:NL) (R:ao),x∈N/\x.c.1=c/\look? (aM N) c=some x.a/\au N c=x.ps/\(bh N).Perm ([(x.a,ae (x.ps.map cv) x.n)]++R):=by
 obtain ⟨x,i,e⟩:=Gj.mp j
 obtain ⟨b,f,rfl⟩:=Hs i
 have g:∀y∈b,y.c.1≠c:=λy h q=>by
  unfold aU at d
  rw [Fd,Fu,Gk] at d
  exact d.2.2 y.c.1 (Fa (f:=λx:NL=>x.c.1) h) x.c.1 EZ (q.trans e.symm)
 refine ⟨x,bh (b++f),i,e, ?_, ?_, ?_⟩
 .unfold aM
  rw [Fd,Fu,<-e]
  refine l0 λy h=> ?_
  obtain ⟨z,k,rfl⟩:=Gj.mp h
  rw [e];exact g z k
 .unfold au
  rw [HB,List.find?_eq_none.mpr (λy h=>by simpa using g y h),List.find?_cons_of_pos (by simpa using e)]
  rfl
 .have:=(List.perm_middle (l₁:=b) (a:=x) (l₂:=f)).flatMap_right NL.cells
  unfold bh
  rw [GN] at this
  exact this
theorem ub (x:Nat×Nat):∀(b:List (Nat×Nat)) (I:List ai),am (cm x b I)=am I
 | [],_=>rfl
 | p::b,I=>(ub x b _).trans (dg (gB x) I)
theorem t7 (x:Nat×Nat):∀(b:List (Nat×Nat)) (I:List ai),(cm x b I).length=I.length
 | [],_=>rfl
 | p::b,I=>(t7 x b _).trans (Fo ..)
theorem qT (x:Nat×Nat):∀(b:List (Nat×Nat)) (I:List ai) (n:Nat),(∀i∈I,i.su.length<=n)->∀i∈cm x b I,i.su.length<=n+b.length
 | [],_,_,h=>h
 | p::b,I,n,h=>λi d=>by
  have:=qT x b _ (n+1) (mP h) i d
  simp only [Fb];omega
structure d8 (N:List NL) (rest:List Nat) (I:List ai):Prop where
 nd:(am I).Nodup
 ndr:rest.Nodup
 dis:∀c∈rest,c∉am I
 mem:∀c∈rest,c∈aU N
 ndN:(aU N).Nodup
 pre:∀a c b,rest=a++c::b->∀p∈au N c,p.1∈am I\/p.1∈a
 few:∀x∈N,x.ps.length<=8
 len:I.length+rest.length<=90
 su:∀i∈I,i.su.length+10*rest.length<=900
theorem d8.add {N:List NL} {c:Nat} {r:List Nat} {I:List ai} (C:d8 N (c::r) I):eY I c (au N c)/\(au N c).length<=8:=by
 obtain ⟨x,R,g,e,_,hp,_⟩:=iY C.ndN (C.mem c EZ)
 have b:(au N c).length<=8:=by rw [hp];exact C.few x g
 have f:=C.len
 refine ⟨⟨C.nd,C.dis c EZ,λp hp=> ?_,by simp at f;omega,λi d=> ?_,by omega⟩,b⟩
 .rcases C.pre [] c r rfl p hp with h | h
  .exact h
  .cases h
 .have:=C.su i d
  omega
theorem d8.next {N:List NL} {c u:Nat} {r:List Nat} {I f:List ai} {k:ai} (C:d8 N (c::r) I) (h:f=cm (c,u) (au N c) (I++[k])) (w:k.node=(c,u)) (A:k.su=[]):d8 N r f/\am f=am I++[c]:=by
 obtain ⟨_,D⟩:=C.add
 have hk:am f=am I++[c]:=by
  rw [h,ub]
  unfold am
  rw [Fd,Fu,w]
  rfl
 have l:=C.ndr
 rw [GO] at l
 have v:=C.len
 simp only [Fb] at v
 refine ⟨⟨?_,l.2,λd g=> ?_,λd g=>C.mem d (E2 _ g),C.ndN,λa d b e p hp=> ?_,C.few, ?_,λi m=> ?_⟩,hk⟩
 .rw [hk,Gk]
  refine ⟨C.nd,by simp,λE B y o q=> ?_⟩
  simp only [Gb] at o
  exact C.dis c EZ (by rw [<-o,<-q];exact B)
 .rw [hk,GB,not_or]
  refine ⟨C.dis d (E2 _ g),λq=> ?_⟩
  simp only [Gb] at q
  exact l.1 (q▸g)
 .rw [hk]
  rcases C.pre (c::a) d b (by rw [e];rfl) p hp with q | q
  .exact .inl (F3 _ q)
  .rcases GP.mp q with q | q
   .exact .inl (FF _ (by rw [q];exact List.mem_singleton_self _))
   .exact .inr q
 .rw [h,t7]
  simp;omega
 .rw [h] at m
  have s:∀j∈I++[k],j.su.length<=900-10*(r.length+1):=λj t=>by
   rcases GB.mp t with q | q
   .have:=C.su j q
    simp only [Fb] at this
    omega
   .simp only [Gb] at q
    rw [q,A];simp
  have:=qT (c,u) (au N c) _ _ s i m
  omega
section
variable (w:E7) (fr lc it:Nat) (k:Nat×Nat×Nat×Nat×Nat) (cps:List Nat) (t nd hr ha S sd n2i:Nat) (ks:Nat×Nat×Nat×Nat) (po nf:Int×Nat) (sl:SL) (N:List NL) (eN:Nat)
theorem BZ (i:Nat) (q:Nat) (E:Nat×Nat) (m:Nat) (c:Nat) (y:List Nat) (I:List ai) (l:Nat) (h:cps[i]? =some c) (C:d8 N (c::y) I)
 (g:∀(q u m l:Nat) (D:List ai) (r:ai),D=cm (c,u) (au N c) (I++[r])->r.node=(c,u)->r.np.1=((au N c).length:Nat)->r.su=[]->ab (env w) (eJ w.params fr lc it (i+1) k cps t nd hr ha S sd n2i ks po nf (bP w.params q (c,u)) m sl N eN y D l)):
 ab (env w) (eJ w.params fr lc it i k cps t nd hr ha S sd n2i ks po nf (bP w.params q E) m sl N eN (c::y) I l):=by
 let s:∀{w:E7} (p:List (Nat×Nat)) {fr lc it i:Nat} {k:Nat×Nat×Nat×Nat×Nat} {cps:List Nat} {t nd hr ha S sd n2i:Nat} {ks:Nat×Nat×Nat×Nat} {po nf:Int×Nat} {q:Nat} {E:Nat×Nat} {m:Nat} {sl:SL} {N:List NL} {eN:Nat} {c:Nat} {y:List Nat} {I:List ai} {l:Nat} (a n:Nat) (R:ao) (h:cps[i]? =some c) (f:look? (aM N) c=some a) (b:(bh N).Perm ([(a,ae ((p:List (Nat×Nat)).map cv) n)]++R)) (F:au N c=p) (d:eY I c p) (g:∀(q u m l:Nat) (D:List ai) (r:ai),D=cm (c,u) p (I++[r])->r.node=(c,u)->r.np.1=((p:List (Nat×Nat)).length:Nat)->r.su=[]->ab (env w) (eJ w.params fr lc it (i+1) k cps t nd hr ha S sd n2i ks po nf (bP w.params q (c,u)) m sl N eN y D l)) (o:p.length<=8),PP (env w) (eJ w.params fr lc it i k cps t nd hr ha S sd n2i ks po nf (bP w.params q E) m sl N eN (c::y) I l):= @λw p fr lc it i k cps t nd hr ha S sd n2i ks po nf q E m sl N eN c y I l a n R h f b F d g o _ P=>
  .view [] [1] _ _ _ _ (bw b)
  (.seg 137455738881 λQ=>
  .use _ (eH w it t i cps c h) [1] [] λB W=>
  .seg 0x8001008008008004004004001000001000000000005000004004000000000000000000004001000000000004003003003 λT=>
  .use _ (dW w nd (Fx "dict") none eN c B (aM N) a f) [7] [] λx4 X=>
  .seg 4100 λO=>
  .use _ (l4 cv w (O 0) 0 a n (p) (by omega)) [0,3] [] λx6 Y=>
  .seg 0x4001000004001 λU=>
  .use _ (vW w S sd ks n2i po nf l c B (p) I d (by omega)) [6,6,6] [1] λj o=>have G:j.1=cm (c,B) p (I++[j.2.2]):=(Fv o);have H:j.2.2.node=(c,B):=(Fv (Fe o));have J:j.2.2.np.1=(↑(Fl p):Int):=(Fv (Fe (Fe o)));have L:j.2.2.su=[]:=(Fe (Fe (Fe o)));
  .seg 0 λV=>
  .view [4] [1] _ _ _ _ (aX b.symm)
  (.use _ (g q B m (j.2.1) (j.1) (j.2.2) G H J L) [6,6,0,0,0,1] [1,0] λA M=>
  P ((A.1,A.2.1,A.2.2.1,(A.2.2.2.1.1,A.2.2.2.1.2),A.2.2.2.2)) ⟨B,j.2.2,j.1,by rw [F];exact G,H,by rw [F];exact J,L,M⟩ [] [0,0,0,0,0] [0,0]))
 obtain ⟨x,R,Z,e,f,hp,b⟩:=iY C.ndN (C.mem c EZ)
 obtain ⟨d,o⟩:=C.add
 obtain ⟨xc,v,p,n⟩:=x
 simp only at hp f b
 rw [hp] at d o g
 rcases p with _ | ⟨p0,p⟩
 .exact av (s _ v n R h f b hp d g (by simp))
 rcases p with _ | ⟨p1,p⟩
 .exact av (s _ v n R h f b hp d g (by simp))
 rcases p with _ | ⟨p2,p⟩
 .exact av (s _ v n R h f b hp d g (by simp))
 rcases p with _ | ⟨p3,p⟩
 .exact av (s _ v n R h f b hp d g (by simp))
 rcases p with _ | ⟨p4,p⟩
 .exact av (s _ v n R h f b hp d g (by simp))
 rcases p with _ | ⟨p5,p⟩
 .exact av (s _ v n R h f b hp d g (by simp))
 rcases p with _ | ⟨p6,p⟩
 .exact av (s _ v n R h f b hp d g (by simp))
 rcases p with _ | ⟨p7,p⟩
 .exact av (s _ v n R h f b hp d g (by simp))
 rcases p with _ | ⟨p8,p⟩
 .exact av (s _ v n R h f b hp d g (by simp))
 .simp at o
theorem B0 (i:Nat) (m:Nat) (c:Nat) (v:List Nat) (I:List ai) (l:Nat) (h:cps[i]? =some c) (C:d8 N (c::v) I)
 (g:∀(E u m l:Nat) (B:List ai) (q:ai),B=cm (c,u) (au N c) (I++[q])->q.node=(c,u)->q.np.1=((au N c).length:Nat)->q.su=[]->ab (env w) (eJ w.params fr lc it (i+1) k cps t nd hr ha S sd n2i ks po nf (bP w.params E (c,u)) m sl N eN v B l)):
 ab (env w) (eJ w.params fr lc it i k cps t nd hr ha S sd n2i ks po nf [] m sl N eN (c::v) I l):=by
 let r:∀{w:E7} (p:List (Nat×Nat)) {fr lc it i:Nat} {k:Nat×Nat×Nat×Nat×Nat} {cps:List Nat} {t nd hr ha S sd n2i:Nat} {ks:Nat×Nat×Nat×Nat} {po nf:Int×Nat} {m:Nat} {sl:SL} {N:List NL} {eN:Nat} {c:Nat} {v:List Nat} {I:List ai} {l:Nat} (a n:Nat) (R:ao) (h:cps[i]? =some c) (f:look? (aM N) c=some a) (b:(bh N).Perm ([(a,ae ((p:List (Nat×Nat)).map cv) n)]++R)) (D:au N c=p) (d:eY I c p) (g:∀(E u m l:Nat) (B:List ai) (q:ai),B=cm (c,u) p (I++[q])->q.node=(c,u)->q.np.1=((p:List (Nat×Nat)).length:Nat)->q.su=[]->ab (env w) (eJ w.params fr lc it (i+1) k cps t nd hr ha S sd n2i ks po nf (bP w.params E (c,u)) m sl N eN v B l)) (o:p.length<=8),PP (env w) (eJ w.params fr lc it i k cps t nd hr ha S sd n2i ks po nf [] m sl N eN (c::v) I l):= @λw p fr lc it i k cps t nd hr ha S sd n2i ks po nf m sl N eN c v I l a n R h f b D d g o _ P=>
  .view [] [1] _ _ _ _ (bw b)
  (.seg 137455738881 λQ=>
  .use _ (eH w it t i cps c h) [1] [] λA V=>
  .seg 0x8001008008008004004004001000001000000000005000004004000000000000000000004001000000000004003003003 λO=>
  .use _ (dW w nd (Fx "dict") none eN c A (aM N) a f) [7] [] λx4 W=>
  .seg 4100 λL=>
  .use _ (l4 cv w (L 0) 0 a n (p) (by omega)) [0,3] [] λx6 X=>
  .seg 0x4001000004001 λT=>
  .use _ (vW w S sd ks n2i po nf l c A (p) I d (by omega)) [6,6,6] [1] λj o=>have F:j.1=cm (c,A) p (I++[j.2.2]):=(Fv o);have G:j.2.2.node=(c,A):=(Fv (Fe o));have H:j.2.2.np.1=(↑(Fl p):Int):=(Fv (Fe (Fe o)));have J:j.2.2.su=[]:=(Fe (Fe (Fe o)));
  .seg 0 λU=>
  .view [4] [1] _ _ _ _ (aX b.symm)
  (.use _ (g (O 0) A (m+1) (j.2.1) (j.1) (j.2.2) F G H J) [6,6,0,0,0,1] [1,0] λy M=>
  P ((y.1,y.2.1,y.2.2.1,(y.2.2.2.1.1,y.2.2.2.1.2),y.2.2.2.2)) ⟨A,j.2.2,j.1,by rw [D];exact F,G,by rw [D];exact H,J,M⟩ [] [0,0,0,0,0] [0,0]))
 obtain ⟨x,R,Y,e,f,hp,b⟩:=iY C.ndN (C.mem c EZ)
 obtain ⟨d,o⟩:=C.add
 obtain ⟨xc,s,p,n⟩:=x
 simp only at hp f b
 rw [hp] at d o g
 rcases p with _ | ⟨Z,p⟩
 .exact av (r _ s n R h f b hp d g (by simp))
 rcases p with _ | ⟨p1,p⟩
 .exact av (r _ s n R h f b hp d g (by simp))
 rcases p with _ | ⟨p2,p⟩
 .exact av (r _ s n R h f b hp d g (by simp))
 rcases p with _ | ⟨p3,p⟩
 .exact av (r _ s n R h f b hp d g (by simp))
 rcases p with _ | ⟨p4,p⟩
 .exact av (r _ s n R h f b hp d g (by simp))
 rcases p with _ | ⟨p5,p⟩
 .exact av (r _ s n R h f b hp d g (by simp))
 rcases p with _ | ⟨p6,p⟩
 .exact av (r _ s n R h f b hp d g (by simp))
 rcases p with _ | ⟨p7,p⟩
 .exact av (r _ s n R h f b hp d g (by simp))
 rcases p with _ | ⟨p8,p⟩
 .exact av (r _ s n R h f b hp d g (by simp))
 .simp at o
theorem B2:∀(r:List Nat) (i h:Nat) (x:Nat×Nat) (g:Nat) (I:List ai) (f:Nat),cps.drop i=r->d8 N r I->ab (env w) (eJ w.params fr lc it i k cps t nd hr ha S sd n2i ks po nf (bP w.params h x) g sl N eN r I f):=by
 intro r
 induction r with
 | nil=>
  intro i h x g I f j C
  exact ct (λ_ p=> .seg 68736258049 λO=> .use _ (cJ w it t i cps (aV j)) [0] [] λv l=> .seg 4098 λq=>p ((I,f,h,(x.1,x.2),g)) rfl [] [3,3,3,3,3] [0,0])
 | cons c r o=>
  intro i h x g I f j C
  obtain ⟨n,l⟩:=aQ j
  exact BZ w fr lc it k cps t nd hr ha S sd n2i ks po nf sl N eN i h x g c r I f n C λh u g f m s a b d e=>o (i+1) h (c,u) g m f l (C.next a b e).1
theorem B3 (g:Nat) (I:List ai) (f:Nat) (m:cps≠[]) (C:d8 N cps I):ab (env w) (eJ w.params fr lc it 0 k cps t nd hr ha S sd n2i ks po nf [] g sl N eN cps I f):=by
 obtain ⟨c,r,e⟩:=Fy m
 obtain ⟨j,l⟩:=aQ (l:=cps) (i:=0) (x:=c) (r:=r) e
 have h:d8 N (c::r) I:=by rw [<-e];exact C
 have q:=B0 w fr lc it k cps t nd hr ha S sd n2i ks po nf sl N eN 0 g c r I f j h λn u g f i o a b d e=>B2 w fr lc it k cps t nd hr ha S sd n2i ks po nf sl N eN r 1 n (c,u) g i f l (h.next a b e).1
 rw [<-e] at q
 exact q
end
def dS (P:E6):Stmt:=aA (tR P) 6
def fk (P:E6):Expr:=bI (aA (aY (dS P)) 2)
def eZ (P:E6):Expr:=bI (aA (aY (dS P)) 3)
def aj (a:Nat):Obj:={cls:= .type "cell",data:= .cell (some (.ref a))}
def kz (l:Nat):List (Str×Addr):=[(⟨⟨[108,101,102,116]⟩⟩,l)]
def dn (P:E6) (e:Expr) (f i b j d m l o L ld g W w:Nat) (lo:List E4) (n:Nat) (h:MI) (ws k res:List (Nat×Nat)):af:={d:=35,α:=(Nat×(Nat×Nat))×Nat×Nat,c:=dE e 0 f b (b9 P m l) d (kz l),need:=[(f,aW "list_iterator" W i),(b,ae (k.map cv) j),(d,oD lo n),(l,aj L),(L,cO P ld h g),(W,ae (ws.map cv) w)],put:=λq=>[],new:=λq=>[(b,ae (res.map cv) q.2.1),(d,oD (bP P q.1.1 q.1.2) q.2.2),(l,aj L),(L,cO P ld h g),(W,ae (ws.map cv) w)],post:=λq=>True}
def aP (l:MI) (ws:List (Nat×Nat)):List (Nat×Nat):=ws.filter λx=>decide (aa l x.1=0)
section
variable (w:E7) (it acc cl fr lc Lf ld le W wn:Nat) (lm:MI) (ws:List (Nat×Nat))
theorem uY (J:ws.length<=900):∀(r:List (Nat×Nat)) (i b k:Nat) (g:Nat×Nat) (l:Nat) (d:List (Nat×Nat)),ws.drop i=r->d.length<=i->ab (env w) (dn w.params (fk w.params) it i acc b cl fr lc lc Lf ld le W wn (bP w.params k g) l lm ws d (d++aP lm r)):=by
 intro r
 induction r with
 | nil=>
  intro i b k g l d n q
  rw [show aP lm []=[] from rfl,FJ]
  exact ct (λ_ m=> .seg 68736258049 λu=> .use _ (ch w it W i wn cv ws (aV n)) [0,4] [] λE j=> .seg 3 λv=>m (((k,g.1,g.2),b,l)) trivial [] [4,4,4,4,1] [])
 | cons x r s=>
  intro i b k g l d n q
  obtain ⟨p,j⟩:=aQ n
  have L:i< ws.length:=(E8.mp p).1
  have A:aa lm x.1=0->∀(b k l:Nat),ab (env w) (dn w.params (fk w.params) it (i+1) acc b cl fr lc lc Lf ld le W wn (bP w.params k x) l lm ws (d++[(x.1,x.2)]) (d++aP lm (x::r))):=λo b k l=>by
   have:=s (i+1) b k x l (d++[x]) j (by simp;omega)
   rw [Fm] at this
   simpa [aP,o] using this
  have B:¬aa lm x.1=0->∀(b k l:Nat),ab (env w) (dn w.params (fk w.params) it (i+1) acc b cl fr lc lc Lf ld le W wn (bP w.params k x) l lm ws d (d++aP lm (x::r))):=λo b k l=>by
   have:=s (i+1) b k x l d j (by omega)
   simpa [aP,o] using this
  exact av (have q:d.length<=1000:=(by omega);λ_ m=> .seg 68736258049 λu=> .use _ (cr w it W i wn cv ws x p) [0,4] [] λE j=> .seg 0x6001000000000006000006000000000006004005004004 λv=> .use _ (dF w Lf ld lm le (x.1) (x.2)) [5] [] λt I=> .seg 1 λO=> .or (aa lm x.1=0) (¬(aa lm x.1=0)) (FI _) (λf=> .use _ (g7 w (aa lm x.1) 0 t (O 0) f) [] [] λF C=> .seg 67112965 λy=> .use _ (dw w acc b d (x.1,x.2) (by omega)) [3] [] λe D=> .seg 0 λG=> .use _ (A f (b+1) k l) [2,0,2,2,0,0] [] λh H=>m (((h.1.1,h.1.2.1,h.1.2.2),h.2.1,h.2.2)) trivial [] [0,0,0,0,0] []) (λf=> .use _ (g8 w (aa lm x.1) 0 t (O 0) f) [] [] λF C=> .seg 0 λy=> .use _ (B f b k l) [1,2,2,2,0,0] [] λe D=>m (((e.1.1,e.1.2.1,e.1.2.2),e.2.1,e.2.2)) trivial [] [0,0,0,0,0] []))
theorem DB (m:ws.length<=900) (y:ws≠[]) (b l:Nat):ab (env w) (dn w.params (fk w.params) it 0 acc b cl fr lc lc Lf ld le W wn [] l lm ws [] (aP lm ws)):=by
 obtain ⟨x,r,e⟩:=Fy y
 obtain ⟨t,h⟩:=aQ (l:=ws) (i:=0) (x:=x) (r:=r) e
 have q:aa lm x.1=0->∀(b k l:Nat),ab (env w) (dn w.params (fk w.params) it 1 acc b cl fr lc lc Lf ld le W wn (bP w.params k x) l lm ws ([]++[(x.1,x.2)]) (aP lm ws)):=λi b k l=>by
  have:=uY w it acc cl fr lc Lf ld le W wn lm ws m r 1 b k x l [x] h (by simp)
  rw [e]
  rw [e] at this
  simpa [aP,i] using this
 have s:¬aa lm x.1=0->∀(b k l:Nat),ab (env w) (dn w.params (fk w.params) it 1 acc b cl fr lc lc Lf ld le W wn (bP w.params k x) l lm ws [] (aP lm ws)):=λi b k l=>by
  have:=uY w it acc cl fr lc Lf ld le W wn lm ws m r 1 b k x l [] h (by simp)
  rw [e]
  rw [e] at this
  simpa [aP,i] using this
 exact av (have F:([]:List (Nat×Nat)).length<=1000:=(Gg _);λ_ o=> .seg 68736258049 λB=> .use _ (cr w it W 0 wn cv ws x t) [0,4] [] λG h=> .seg 0x6001000000000006000006000000000006004005004004 λO=> .use _ (dF w Lf ld lm le (x.1) (x.2)) [5] [] λn E=> .seg 1 λj=> .or (aa lm x.1=0) (¬(aa lm x.1=0)) (FI _) (λf=> .use _ (g7 w (aa lm x.1) 0 n (j 0) f) [] [] λA u=> .seg 67112965 λp=> .use _ (dw w acc b [] (x.1,x.2) (by omega)) [3] [] λd v=> .seg 0 λC=> .use _ (q f (b+1) (O 0) (l+1)) [2,0,2,2,0,0] [] λg D=>o (((g.1.1,g.1.2.1,g.1.2.2),g.2.1,g.2.2)) trivial [] [0,0,0,0,0] []) (λf=> .use _ (g8 w (aa lm x.1) 0 n (j 0) f) [] [] λA u=> .seg 0 λp=> .use _ (s f b (O 0) (l+1)) [1,2,2,2,0,0] [] λd v=>o (((d.1.1,d.1.2.1,d.1.2.2),d.2.1,d.2.2)) trivial [] [0,0,0,0,0] []))
theorem Dz (h:ws.length<=900) (d:ws≠[]) (b l:Nat):ab (env w) {dn w.params (fk w.params) it 0 acc b cl fr lc lc Lf ld le W wn [] l lm ws [] (aP lm ws) with c:=bB (fk w.params) 0 it acc (b9 w.params fr lc) cl (kz lc)}:=
 dq gI (o:=aW "list_iterator" W 0) rfl (EZ) (by kernel_rfl) (by kernel_rfl) rfl (DB w it acc cl fr lc Lf ld le W wn lm ws h d b l)
end
def bA (l:MI) (ws:List (Nat×Nat)):List (Nat×Nat):=ws.filter λx=> !decide (aa l x.1=0)
section
variable (w:E7) (it acc cl fr lc Lf ld le W wn:Nat) (lm:MI) (ws:List (Nat×Nat))
theorem uX (J:ws.length<=900):∀(r:List (Nat×Nat)) (i b k:Nat) (g:Nat×Nat) (l:Nat) (d:List (Nat×Nat)),ws.drop i=r->d.length<=i->ab (env w) (dn w.params (eZ w.params) it i acc b cl fr lc lc Lf ld le W wn (bP w.params k g) l lm ws d (d++bA lm r)):=by
 intro r
 induction r with
 | nil=>
  intro i b k g l d n q
  rw [show bA lm []=[] from rfl,FJ]
  exact ct (λ_ m=> .seg 68736258049 λu=> .use _ (ch w it W i wn cv ws (aV n)) [0,4] [] λE j=> .seg 3 λv=>m (((k,g.1,g.2),b,l)) trivial [] [4,4,4,4,1] [])
 | cons x r s=>
  intro i b k g l d n q
  obtain ⟨p,j⟩:=aQ n
  have L:i< ws.length:=(E8.mp p).1
  have A:¬aa lm x.1=0->∀(b k l:Nat),ab (env w) (dn w.params (eZ w.params) it (i+1) acc b cl fr lc lc Lf ld le W wn (bP w.params k x) l lm ws (d++[(x.1,x.2)]) (d++bA lm (x::r))):=λo b k l=>by
   have:=s (i+1) b k x l (d++[x]) j (by simp;omega)
   rw [Fm] at this
   simpa [bA,o] using this
  have B:aa lm x.1=0->∀(b k l:Nat),ab (env w) (dn w.params (eZ w.params) it (i+1) acc b cl fr lc lc Lf ld le W wn (bP w.params k x) l lm ws d (d++bA lm (x::r))):=λo b k l=>by
   have:=s (i+1) b k x l d j (by omega)
   simpa [bA,o] using this
  exact av (have q:d.length<=1000:=(by omega);λ_ m=> .seg 68736258049 λu=> .use _ (cr w it W i wn cv ws x p) [0,4] [] λE j=> .seg 0x6001000000000006000006000000000006004005004004 λv=> .use _ (dF w Lf ld lm le (x.1) (x.2)) [5] [] λt I=> .seg 1 λO=> .or (aa lm x.1=0) (¬(aa lm x.1=0)) (FI _) (λf=> .use _ (gn w (aa lm x.1) 0 t (O 0) f) [] [] λF C=> .seg 0 λy=> .use _ (B f b k l) [1,2,2,2,0,0] [] λe D=>m (((e.1.1,e.1.2.1,e.1.2.2),e.2.1,e.2.2)) trivial [] [0,0,0,0,0] []) (λf=> .use _ (ur w (aa lm x.1) 0 t (O 0) f) [] [] λF C=> .seg 67112965 λy=> .use _ (dw w acc b d (x.1,x.2) (by omega)) [3] [] λe D=> .seg 0 λG=> .use _ (A f (b+1) k l) [2,0,2,2,0,0] [] λh H=>m (((h.1.1,h.1.2.1,h.1.2.2),h.2.1,h.2.2)) trivial [] [0,0,0,0,0] []))
theorem Dy (m:ws.length<=900) (y:ws≠[]) (b l:Nat):ab (env w) (dn w.params (eZ w.params) it 0 acc b cl fr lc lc Lf ld le W wn [] l lm ws [] (bA lm ws)):=by
 obtain ⟨x,r,e⟩:=Fy y
 obtain ⟨t,h⟩:=aQ (l:=ws) (i:=0) (x:=x) (r:=r) e
 have q:¬aa lm x.1=0->∀(b k l:Nat),ab (env w) (dn w.params (eZ w.params) it 1 acc b cl fr lc lc Lf ld le W wn (bP w.params k x) l lm ws ([]++[(x.1,x.2)]) (bA lm ws)):=λi b k l=>by
  have:=uX w it acc cl fr lc Lf ld le W wn lm ws m r 1 b k x l [x] h (by simp)
  rw [e]
  rw [e] at this
  simpa [bA,i] using this
 have s:aa lm x.1=0->∀(b k l:Nat),ab (env w) (dn w.params (eZ w.params) it 1 acc b cl fr lc lc Lf ld le W wn (bP w.params k x) l lm ws [] (bA lm ws)):=λi b k l=>by
  have:=uX w it acc cl fr lc Lf ld le W wn lm ws m r 1 b k x l [] h (by simp)
  rw [e]
  rw [e] at this
  simpa [bA,i] using this
 exact av (have F:([]:List (Nat×Nat)).length<=1000:=(Gg _);λ_ o=> .seg 68736258049 λB=> .use _ (cr w it W 0 wn cv ws x t) [0,4] [] λG h=> .seg 0x6001000000000006000006000000000006004005004004 λO=> .use _ (dF w Lf ld lm le (x.1) (x.2)) [5] [] λn E=> .seg 1 λj=> .or (aa lm x.1=0) (¬(aa lm x.1=0)) (FI _) (λf=> .use _ (gn w (aa lm x.1) 0 n (j 0) f) [] [] λA u=> .seg 0 λp=> .use _ (s f b (O 0) (l+1)) [1,2,2,2,0,0] [] λd v=>o (((d.1.1,d.1.2.1,d.1.2.2),d.2.1,d.2.2)) trivial [] [0,0,0,0,0] []) (λf=> .use _ (ur w (aa lm x.1) 0 n (j 0) f) [] [] λA u=> .seg 67112965 λp=> .use _ (dw w acc b [] (x.1,x.2) (by omega)) [3] [] λd v=> .seg 0 λC=> .use _ (q f (b+1) (O 0) (l+1)) [2,0,2,2,0,0] [] λg D=>o (((g.1.1,g.1.2.1,g.1.2.2),g.2.1,g.2.2)) trivial [] [0,0,0,0,0] []))
theorem Dw (h:ws.length<=900) (d:ws≠[]) (b l:Nat):ab (env w) {dn w.params (eZ w.params) it 0 acc b cl fr lc lc Lf ld le W wn [] l lm ws [] (bA lm ws) with c:=bB (eZ w.params) 0 it acc (b9 w.params fr lc) cl (kz lc)}:=
 dq gI (o:=aW "list_iterator" W 0) rfl (EZ) (by kernel_rfl) (by kernel_rfl) rfl (Dy w it acc cl fr lc Lf ld le W wn lm ws h d b l)
end
def aH (m:MI):List (Nat×Int):=m.map λx=>(x.1,x.2.2.1)
def BE (P:E6):Stmt:=aA (aY (aA (aY (dS P)) 4)) 1
def lW (P:E6) (k:Nat×Nat) (W V:Nat):List E4:=[es P [119,97,105,116,115] k.1 (.ref W),es P [108,101,118,101,108,115] k.2 (.ref V)]
def tK (P:E6) (k:Nat×Nat) (st:Int×Nat) (O:Nat):List E4:=[es P [115,116,101,112] k.1 (iv st),es P [111,118,101,114] k.2 (.ref O)]
def Bl (P:E6) (k:Nat) (Lv:Nat):List E4:=[es P [108,101,118,101,108] k (.ref Lv)]
def oF (P:E6) (k:Nat×(Nat×Nat)×(Nat×Nat)×Nat) (x:Nat×Nat) (W V:Nat) (st:Int×Nat) (O Lv:Nat):List E4:=bP P k.1 x++(lW P k.2.1 W V++(tK P k.2.2.1 st O++Bl P k.2.2.2 Lv))
theorem uL {m:MI} {c:Nat} {v:Int×Nat} (h:look? m c=some v):aa m c=v.1:=by unfold aa;rw [h];rfl
theorem Di {m:MI} {c:Nat} (h:c∉ak m):aa m c=0:=by
 have:look? m c=none:=tS λz b e=>h (Gj.mpr ⟨z,b,e⟩)
 unfold aa;rw [this];rfl
theorem zO {m:MI} {c t:Nat} {v:Int×Nat} (h:c∉ak m):aw m c t v=m++[(c,t,v)]:=lO λz b e=>h (Gj.mpr ⟨z,b,e⟩)
theorem EN {b d:MI} {c t:Nat} {v:Int×Nat} {e:MI} (h:ik [(c,t,v)] b d) (f:c∉ak b) (g:look? e c=some v):aH d=aH b++[(c,aa e c)]:=by
 obtain ⟨u,h⟩:=h
 have h:d=aw b c t (v.1+aa b c,u):=h
 rw [h,zO f,Di f,uL g]
 unfold aH
 simp
def jX (P:E6) (f q l i:Nat) (k:Nat×Nat×Nat×Nat×Nat) (e:List Nat) (t nd j h S:Nat) (m:Nat×(Nat×Nat)×(Nat×Nat)×Nat) (v:Nat×Nat) (W V:Nat) (st:Int×Nat) (O Lv ld:Nat) (o:Nat) (s:SL) (ws:List (Nat×Nat)) (w n:Nat) (b:MI) (g:Nat) (u:List (Nat×Nat)) (d:MI) (r:Nat):af:={d:=50,α:=(MI×Nat)×(Nat×Nat)×Nat,c:=bR (BE P) (.ref l) (b9 P f q),need:=[(l,aW "list_iterator" W i),(f,eS P k e t nd j h S (oF P m v W V st O Lv) o s),(W,ae (ws.map cv) w),(Lv,cO P ld d r),(ld,oD [] n),(h,dO P (.type "dict") none iv b g)],new:=λx=>[(f,eS P k e t nd j h S (oF P m x.2.1 W V st O Lv) x.2.2 s),(W,ae (ws.map cv) w),(Lv,cO P ld x.1.1 x.1.2),(ld,oD [] n),(h,dO P (.type "dict") none iv b g)],post:=λx=>aH x.1.1=aH d++u.map (λp=>(p.1,aa b p.1))}
theorem oR (m:MI):ak m=(aH m).map (·.1):=by unfold ak aH;rw [GS];rfl
theorem oM (m:MI):m.length=(aH m).length:=by unfold aH;rw [Fo]
section
variable (w:E7) (fr lc it:Nat) (k:Nat×Nat×Nat×Nat×Nat) (cps:List Nat) (t nd hr ha S:Nat) (kA:Nat×(Nat×Nat)×(Nat×Nat)×Nat) (W V:Nat) (st:Int×Nat) (O Lv ld:Nat) (sl:SL) (ws:List (Nat×Nat)) (wn lde:Nat) (hm:MI) (eh:Nat)
theorem BC:∀(r:List (Nat×Nat)) (i:Nat) (e:Nat×Nat) (f:Nat) (b:MI) (l:Nat),ws.drop i=r->b≠[]->(ak b++r.map (·.1)).Nodup->b.length+r.length<=8->(∀p∈r,∃v,look? hm p.1=some v)->
 ab (env w) (jX w.params fr lc it i k cps t nd hr ha S kA e W V st O Lv ld f sl ws wn lde hm eh r b l):=by
 intro r
 induction r with
 | nil=>
  intro i e f b l m C j B o
  exact ct (have h:ws[i]? =none:=(aV m);λ_ s=> .seg 68736258049 λF=> .use _ (ch w it W i wn cv ws h) [0,1] [] λP y=> .seg 4099 λu=>s (((b,l),(e.1,e.2),f)) (show aH ((b,l),(e.1,e.2),f).1.1=aH b++Gv (λ(p:Nat×Nat)=>(p.1,aa hm p.1)) [] from by simp) [] [4,1,3,3,3] [])
 | cons x r M=>
  intro i e f b l m C j B o
  obtain ⟨G,y⟩:=aQ m
  obtain ⟨v,D⟩:=o x EZ
  obtain ⟨n,L⟩:∃n,b.length=n+1:=⟨b.length-1,by have:=Hc.mpr C;omega⟩
  simp only [Fb] at B
  have hk:x.1∉ak b:=λz=>by
   rw [Fu,Gk] at j
   exact j.2.2 x.1 z x.1 EZ rfl
  exact av (have J:b.length<=8:=(by omega);have N:∀(f l:Nat) (g:MI),aH g=aH b++[(x.1,aa hm x.1)]->ab (env w) (jX w.params fr lc it (i+1) k cps t nd hr ha S kA x W V st O Lv ld f sl ws wn lde hm eh r g l):=(λf l g h=>M (i+1) x f g l y (λz=>by rw [z] at h;simp [aH] at h) (by
   rw [oR,h,Fd,<-oR,Fm]
   exact j) (by rw [oM g,h,FU,<-oM];simp only [Fb,Hf];omega) (λp hp=>o p (E2 _ hp)));λ_ s=> .seg 68736258049 λF=> .use _ (cr w it W i wn cv ws x G) [0,1] [] λP T=> .seg 0x7001007007007004004004005004000000000000004000000000004000000000004003003003 λu=> .use _ (cu w ha (Fx "dict") none eh (x.1) (x.2) hm v D) [6] [] λX U=> .seg 0x2002002002001001 λQ=> .use _ (wX w Lv ld lde l (u 1) b ([(x.1,x.2,v)]) 1 n L J (by (simp;omega))) [5,5,1] [] λq H=> .seg 0 λR=>have A:(aH q.1=aH b++[(x.1,aa hm x.1)]):=(EN H hk D); .use _ (N f (q.2) (q.1) A) [4,5,4,0,0,1] [] λd I=>s (((d.1.1,d.1.2),(d.2.1.1,d.2.1.2),d.2.2)) (show aH ((d.1.1,d.1.2),(d.2.1.1,d.2.1.2),d.2.2).1.1=aH b++Gv (λ(E:Nat×Nat)=>(E.1,aa hm E.1)) (x::r) from by rw [I,A,Fm];rfl) [] [0,0,0,0,0] [])
theorem BD (s:Nat×Nat) (f:Nat) (l:Nat) (C:ws≠[]) (m:(ws.map (·.1)).Nodup) (j:ws.length<=8) (g:∀p∈ws,∃v,look? hm p.1=some v):
 ab (env w) (jX w.params fr lc it 0 k cps t nd hr ha S kA s W V st O Lv ld f sl ws wn lde hm eh ws [] l):=by
 obtain ⟨x,r,e⟩:=Fy C
 obtain ⟨y,A⟩:=aQ (l:=ws) (i:=0) (x:=x) (r:=r) e
 rw [e] at m j g
 obtain ⟨v,n⟩:=g x EZ
 simp only [Fb] at j
 have q:ab (env w) (jX w.params fr lc it 0 k cps t nd hr ha S kA s W V st O Lv ld f sl ws wn lde hm eh (x::r) [] l):=
  av (have D:∀(f l:Nat) (d:MI),aH d=aH []++[(x.1,aa hm x.1)]->ab (env w) (jX w.params fr lc it (0+1) k cps t nd hr ha S kA x W V st O Lv ld f sl ws wn lde hm eh r d l):=(λf l d h=>BC w fr lc it k cps t nd hr ha S kA W V st O Lv ld sl ws wn lde hm eh r 1 x f d l A (λz=>by rw [z] at h;simp [aH] at h) (by
   rw [oR,h,Fd]
   exact m) (by rw [oM d,h];simp [aH];omega) (λp hp=>g p (E2 _ hp)));λ_ F=> .seg 68736258049 λG=> .use _ (cr w it W 0 wn cv ws x y) [0,1] [] λN J=> .seg 0x7001007007007004004004005004000000000000004000000000004000000000004003003003 λu=> .use _ (cu w ha (Fx "dict") none eh (x.1) (x.2) hm v n) [6] [] λP L=> .seg 0x2002002002001001 λH=> .use _ (qk w Lv ld l (u 1) ([(x.1,x.2,v)]) 1 (by (simp;done)) (by simp [ak])) [5,1] [] λE M=> .seg 0 λI=>have i:(aH [(x.1,x.2,v)]=aH []++[(x.1,aa hm x.1)]):=(by rw [uL n];rfl); .use _ (D f E ([(x.1,x.2,v)]) i) [3,4,3,0,2,1] [] λb B=>F (((b.1.1,b.1.2),(b.2.1.1,b.2.1.2),b.2.2)) (show aH ((b.1.1,b.1.2),(b.2.1.1,b.2.1.2),b.2.2).1.1=aH []++Gv (λ(o:Nat×Nat)=>(o.1,aa hm o.1)) (x::r) from by rw [B,i,Fm];rfl) [] [0,0,0,0,0] [])
 rw [<-e] at q
 exact q
end
theorem DD {M:Model} {d:Ctx} (e:Env):∀(a b:List Stmt) {Q:Flow->Pos->Fc->Prop} {E:E9->Pos->Fc->Prop} {p:Pos} {s:Fc},wp M d (Hb a e) (λf p s=>f= .next/\wp M d (Hb b e) Q E p s) E p s->wp M d (Hb (a++b) e) Q E p s
 | [],b,Q,E,p,s,h=>by
  have g:(Flow.next= .next)/\wp M d (Hb b e) Q E p s:=h
  exact g.2
 | x::a,b,Q,E,p,s,h=>by
  rw [H4,Ip,E5]
  rw [Ip,E5] at h
  refine Fs _ _ _ (λf p s h=> ?_) (λ_ _ _ h=>h) _ _ h
  cases f with
  | next=>exact DD e a b h
  | _=>exact absurd (show _=Flow.next from (show (_=Flow.next)/\_ from h).1) (λz=>nomatch z)
def gg (w:E7) (d:Ctx) (e:Env) (F:HF->Fc->Prop):E9->Pos->Fc->Prop:=
 λx p s=>wp (FQ pq w) d (do HS x e;Hd x) (λ_ p s=>F (.error x) s) (λb p s=>F (.error b) s) p s
theorem ED {w:E7} {T:af} {d:Nat} {e:Ctx} {p:Pos} {j s:Fc} {own:List Addr} {r:ao} {st:List Stmt} {g:Env} (h:ax (env w) T (Dn (.block st g))) (H:bt (env w) d e) (y:T.d<=d) (m:T.outer=none) (G:Go (env w).kt j own s (T.all++r)) {f0:Flow} (n:∀x,T.r x= .ok f0)
 {F:HF->Fc->Prop} {Q:Flow->Pos->Fc->Prop} (k:∀x b p,T.post x->Go (env w).kt j own b (T.res x++r)->Q f0 p b):wp (FQ pq w) e (Hb st g) Q (gg w e g F) p s:=by
 have l:dQ T.d e:=⟨by have:=H.hl.cnt;omega,by have:=H.hl.units;omega⟩
 have q:=h e H.hh (λes z=>by rw [m] at z;cases z) l p s (λr b=>match r with | .ok f=>∀p,Q f p b | .error x=>F (.error x) b) G.sub.pre (λx b o A=>by
  rw [n]
  exact λp=>k x b p o (G.stepR A))
 have u:=l.cnt
 have v:=l.units
 have t:=mI (jd w.params) (.block st g) e (by omega) (by omega) p s _ _ q
 have i:wp (FQ pq w) e ((Hb st g).onRaise (λx=>do HS x g;Hd x)>>=λf=>pure (.done f)) (finPost (FQ pq w) e λr b=>match r with | .ok f=>∀p,Q f p b | .error x=>F (.error x) b) (λx _ b=>F (.error x) b) p s:=t
 rw [E5,Gs] at i
 exact Fs _ _ _ (λf p s h=>h p) (λx p s h=>h) _ _ i
theorem zI {w:E7} {kt:Nat->Option Obj} {d:Type} {n:String} {f:Unit->Sem d}:Q2 w kt (f ()) (cRoom n>>=f):=λe a b p s Q E g=>by
 rw [E5,Sem.wp_cRoom]
 exact ⟨lq b,Fs _ _ _ (λ_ _ _ h=>h.2) (λ_ _ _ h=>h.2) _ _ g⟩
theorem zK {w:E7} {kt:Nat->Option Obj} {f:Type} {vs:List E9} {d t:Sem f} (h:Q2 w kt d t):Q2 w kt d (holding vs t):=λe a b p s Q E g=>by
 rw [HO]
 exact h e a b p s Q E g
def lL (o:CmpOp) (x:Nat) (b:E9):Qk (richCompare o (.ref x) b):=by
 delta richCompare
 exact ⟨_,λw kt k=>zK (zI (n:="comparison") (f:=_))⟩
def px (w:E7) (d:Ctx) (l r:Expr) (o:CmpOp) (f:Env) (K:E9->Pos->Fc->Prop) (E:E9->Pos->Fc->Prop) (p:Pos) (s:Fc):Prop:=
 wp (FQ pq w) d (eval l f) (λa p s=>∃x,a= .ref x/\wp (FQ pq w) d (eval r f) (λb p s=>∀p,wp (FQ pq w) d (lL o x b).val (λc p s=>ca (kt w.params) s.heap/\K c p s) (λe p s=>ca (kt w.params) s.heap/\E e p s) p s) E p s) E p s
theorem Ep {w:E7} {g:Ctx} {d:Nat} (H:bt (env w) d g) {l r:Expr} {o:CmpOp} {j:Pos} {f:Env} {X:Sem E9} (m:behindInMarks o r=false) (n:∀a b,compareOp o a b=richCompare o a b) {p:Pos} {s:Fc} {Q:Bool->Pos->Fc->Prop} {E:E9->Pos->Fc->Prop}
 (h:px w g l r o f (λc p s=>∃i,c= .bool i/\Q i p s) E p s):
 wp (FQ pq w) g (isTrue (.Compare l [o] [r] j) f X) Q E p s:=by
 have t:=H.hl.cnt
 have u:=H.hl.units
 show wp _ _ (eval l f>>=λa=>testChain j a [o] [H2 o r (eval r f)]) _ _ p s
 rw [E5]
 refine Fs _ _ _ (λa p s h=> ?_) (λ_ _ _ h=>h) _ _ h
 obtain ⟨x,rfl,h⟩:=h
 have e:H2 o r (eval r f)=eval r f:=by unfold H2;rw [m]
 rw [e]
 unfold testChain
 rw [E5,HO]
 refine Fs _ _ _ (λb p s h=> ?_) (λ_ _ _ h=>h) _ _ h
 rw [E5]
 refine aL (Gz λp=> ?_)
 rw [E5,Sem.wp_operate,n]
 refine (lL o x b).ok w (kt w.params) (jd w.params) g (by omega) (by omega) p s _ _ ?_
 refine Fs _ _ _ (λc p s h=> ?_) (λ_ _ _ h=>h) _ _ (h p)
 obtain ⟨k,i,rfl,q⟩:=h
 refine ⟨k, ?_⟩
 rw [HO]
 exact q
def bg (C:ao):List ao:=C.map λc=>[c]
theorem jq:∀C:ao,(bg C).flatten=C
 | []=>rfl
 | c::C=>by show [c]++(bg C).flatten=_;rw [jq C];rfl
def bp (T:af) (x:T.α) (r:List ao):List ao:=bg ((T.need.map (·.1)).zip (T.put x)++T.new x)++((T.putB x++T.newB x)++r)
theorem gS {i:List Nat} {A:List ao} {T:af} {r:List ao} (h:take i (bg T.need++T.needB) A (· =r)):A.flatten.Perm (T.all++r.flatten):=by
 obtain ⟨b,p,rfl⟩:=bW h
 refine p.flatten.trans (.of_eq ?_)
 rw [Gd,Gd,jq]
 rfl
theorem eK {T:af} (x:T.α) (r:List ao):T.res x++r.flatten=(bp T x r).flatten:=by
 unfold bp af.res
 simp only [Gd,jq,Fm]
section
variable {w:E7} {T:af} {d:Nat} {Γ:Ctx} {p:Pos} {s0 s:Fc} {own:List Addr} {A r:List ao}
theorem l8 (m:List Nat) {t:Sem E9} (h:ax (env w) T (tV t)) (H:bt (env w) d Γ) (g:T.d<=d) (i:T.outer=none) (G:Go (env w).kt s0 own s A.flatten) (k:take m (bg T.need++T.needB) A (· =r)) {v0:T.α->E9} (j:∀x,T.r x= .ok (.ret (v0 x)))
 {Q:E9->Pos->Fc->Prop} {E:E9->Pos->Fc->Prop} (f:∀x b p,T.post x->Go (env w).kt s0 own b (bp T x r).flatten->Q (v0 x) p b):wp (FQ pq w) Γ t Q E p s:=
 j4 h H g i (r:=r.flatten) (G.perm (gS k)) j λx b p l e=>f x b p l (Go.eq e (eK x r))
theorem Dg (m:List Nat) {t:Sem Flow} (h:ax (env w) T (tF t)) (H:bt (env w) d Γ) (g:T.d<=d) (i:T.outer=none) (G:Go (env w).kt s0 own s A.flatten) (k:take m (bg T.need++T.needB) A (· =r)) {f0:Flow} (j:∀x,T.r x= .ok f0)
 {Q:Flow->Pos->Fc->Prop} {E:E9->Pos->Fc->Prop} (f:∀x b p,T.post x->Go (env w).kt s0 own b (bp T x r).flatten->Q f0 p b):wp (FQ pq w) Γ t Q E p s:=
 iR h H g i (r:=r.flatten) (G.perm (gS k)) j λx b p l e=>f x b p l (Go.eq e (eK x r))
theorem uK (m:List Nat) {t:Sem Flow} (h:ax (env w) T (tF t)) (H:bt (env w) d Γ) (n:T.d<=d) (l:T.outer=none) (G:Go (env w).kt s0 own s A.flatten) (i:take m (bg T.need++T.needB) A (· =r)) {v0:T.α->Flow} (g:∀x,T.r x= .ok (v0 x))
 {Q:Flow->Pos->Fc->Prop} {E:E9->Pos->Fc->Prop} (k:∀x e p,T.post x->Go (env w).kt s0 own e (bp T x r).flatten->Q (v0 x) p e):wp (FQ pq w) Γ t Q E p s:=
 h.flow Γ H.hh (λes z=>by rw [l] at z;cases z) ⟨by have:=H.hl.cnt;omega,by have:=H.hl.units;omega⟩ p s (G.perm (gS i)).sub.pre
  (λx e p f j A b=>by rw [g] at b;cases b;exact k x e p j (Go.eq ((G.perm (gS i)).stepR A) (eK x r))) (λx e p v j A b=>by rw [g] at b;cases b)
theorem Dh (n:List Nat) {st:List Stmt} {e:Env} (h:ax (env w) T (Dn (.block st e))) (H:bt (env w) d Γ) (i:T.d<=d) (j:T.outer=none) (G:Go (env w).kt s0 own s A.flatten) (l:take n (bg T.need++T.needB) A (· =r)) {f0:Flow} (k:∀x,T.r x= .ok f0)
 {F:HF->Fc->Prop} {Q:Flow->Pos->Fc->Prop} (g:∀x b p,T.post x->Go (env w).kt s0 own b (bp T x r).flatten->Q f0 p b):wp (FQ pq w) Γ (Hb st e) Q (gg w Γ e F) p s:=
 ED h H i j (r:=r.flatten) (G.perm (gS l)) k λx b p m f=>g x b p m (Go.eq f (eK x r))
end
def zh (P:E6) (S s:Nat) (k:Nat×Nat×Nat×Nat) (n r e:Nat) (p d:Int×Nat) (f:List (Nat×Nat)) (b:Bool):af:={d:=20,α:=Unit,c:= .call (.ref 1182) ⟨[.ref S],[]⟩,need:=[(S,bd s),(s,be P k n (.ref r) p d),(r,ae (f.map cv) e)],r:=λ_=> .ok (.ret (.bool b)),put:=λx=>[bd s,be P k n (.ref r) p d,ae (f.map cv) e]}
theorem vZ (w:E7) (S l:Nat) (k:Nat×Nat×Nat×Nat) (g r i:Nat) (f n:Int×Nat) (d:List (Nat×Nat)) (b:Bool) (t:(decide (n.1< f.1) || !d.isEmpty)=b) (B:d.length<=100000):ab (env w) (zh w.params S l k g r i f n d b):=by
 intro C u v m y p s F P o
 refine ER w S l k g r i f n d B C u v m y p s F P λx j h A=> ?_
 have h:x=(decide (n.1< f.1) || !d.isEmpty):=h
 have q:=o () j trivial A
 have e:x=b:=h.trans t
 show F (.ok (.ret (.bool x))) j
 rw [e];exact q
structure Lv where
 a:Nat
 dd:Nat
 m:MI
 ep:Nat
 de:Nat
def Lv.cells (P:E6) (l:Lv):ao:=[(l.a,cO P l.dd l.m l.ep),(l.dd,oD [] l.de)]
def bq (P:E6) (L:List Lv):ao:=L.flatMap (Lv.cells P)
def aD (L:List Lv):List Nat:=L.map (·.a)
theorem BB (P:E6) (L:List Lv) (l:Lv):(l.cells P++bq P L).Perm (bq P (L++[l])):=by
 unfold bq
 rw [HJ]
 simp only [GN,List.flatMap_nil,FJ]
 exact FD
theorem BF (L:List Lv) (l:Lv) (n:Nat):ae ((aD L++[l.a]).map .ref) n=ae ((aD (L++[l])).map .ref) n:=by unfold aD;simp
def db (r:List (Nat×Nat)) (I:List ai):List ai:=r.foldl (λI p=>aJ p.1 (aO (-1) 1766) I) I
theorem vb:∀{d:List (Nat×Nat)} {I b:List ai} {r e:List (Nat×Nat)},ec d I r b e->ay b=ay I
 | [],_,_,_,_,h=>by rw [h.1]
 | p::d,I,b,r,e,⟨u,i,j,f,g⟩=>(vb g).trans ((cI.keeps f).1.trans (ji (bX _ _) I))
theorem DA (w:E7) (i b d f l L ld h W k:Nat) (e:MI) (ws res:List (Nat×Nat)) (o:aP e ws=res) (m:ws.length<=900) (n:ws≠[]) (g j:Nat):ab (env w) {dn w.params (fk w.params) i 0 b g d f l l L ld h W k [] j e ws [] res with c:=bB (fk w.params) 0 i b (b9 w.params f l) d (kz l)}:=by
 subst o;exact Dz w i b d f l L ld h W k e ws m n g j
theorem Dx (w:E7) (i b d f l L ld h W k:Nat) (e:MI) (ws res:List (Nat×Nat)) (o:bA e ws=res) (m:ws.length<=900) (n:ws≠[]) (g j:Nat):ab (env w) {dn w.params (eZ w.params) i 0 b g d f l l L ld h W k [] j e ws [] res with c:=bB (eZ w.params) 0 i b (b9 w.params f l) d (kz l)}:=by
 subst o;exact Dw w i b d f l L ld h W k e ws m n g j
abbrev KA:=Nat×(Nat×Nat)×(Nat×Nat)×Nat
def tJ (P:E6) (k:KA) (x:Nat×Nat) (W V:Nat) (q:Option ((Int×Nat)×Nat×Option Nat)):List E4:=match q with
 | none=>bP P k.1 x++lW P k.2.1 W V
 | some (st,O,none)=>bP P k.1 x++(lW P k.2.1 W V++tK P k.2.2.1 st O)
 | some (st,O,some Lv)=>oF P k x W V st O Lv
def iL (w:E7) (f l i:Nat) (v B:Int) (J M N:Nat) (k:Nat×Nat×Nat×Nat×Nat) (g:List Nat) (t nd o h S s n:Nat) (u:Nat×Nat×Nat×Nat) (r G:Nat) (E D:Int×Nat) (p:KA) (R:Nat×Nat) (W P V O:Nat) (q:Option ((Int×Nat)×Nat×Option Nat)) (m:Nat) (H:SL) (b ld A y:Nat) (C d:MI) (e:Nat) (ws F:List (Nat×Nat)) (I:List ai) (j:Nat) (L:List Lv) (Q:List Lv->Prop):af:={d:=75,α:=List Lv×Nat,c:=bR (dS w.params) (.ref i) (b9 w.params f l),need:=[(i,bG v B 1 J M N),(f,eS w.params k g t nd o h S (tJ w.params p R W V q) m H),(S,bd s),(s,be w.params u n (.ref r) E D),(n,dO w.params (.type "dict") none .ref (ay I) j),(r,ae (F.map cv) G),(l,aj b),(b,cO w.params ld C A),(ld,oD [] y),(W,ae (ws.map cv) P),(V,ae ((aD L).map .ref) O),(h,dO w.params (.type "dict") none iv d e)],r:=λx=> .ok (.ret (.ref V)),new:=λx=>[(V,ae ((aD x.1).map .ref) x.2),(h,dO w.params (.type "dict") none iv d e)],post:=λx=>Q x.1,needB:=[aB I,bq w.params L],putB:=λx=>[bq w.params x.1]}
def oz (P:E6) (k:KA) (x:Nat×Nat) (W V:Nat) (b:Nat) (st:Int×Nat):List E4:=bP P k.1 x++(lW P k.2.1 W V++[es P [115,116,101,112] b (iv st)])
def dz (P:E6) (k:Nat×Nat×Nat×Nat×Nat) (b:List Nat) (t nd d h S:Nat) (e:KA) (x:Nat×Nat) (W V:Nat) (q:Option ((Int×Nat)×Nat×Option Nat)) (f:Nat) (s:SL):Obj:=eS P k b t nd d h S (tJ P e x W V q) f s
def b1 (P:E6):List Stmt:=(aY (dS P)).take 4
def s4 (P:E6):Stmt:=aA (aY (dS P)) 4
def b3 (P:E6):List Stmt:=(aY (dS P)).drop 5
def fR (e:Expr):Expr:=(eP e).1
def dM (e:Expr):Expr:=(eP e).2.1
def yx (i:Nat) (v l:Int) (b d t:Nat):af:={d:=5,α:=Nat,need:=[(i,bG v l 1 b d t)],r:=λu=> .ok (.ret (.int v u)),put:=λu=>[bG (v+1) (l-1) 1 0 0 t]}
def zf (P:E6) (g:Nat) (k:Nat×Nat×Nat×Nat×Nat) (b:List Nat) (t nd d h S:Nat) (e:KA) (x:Nat×Nat) (W V:Nat) (f:Nat) (s:SL) (v:Int×Nat):af:={d:=5,α:=Nat×Nat,need:=[(g,dz P k b t nd d h S e x W V none f s)],put:=λu=>[eS P k b t nd d h S (oz P e x W V u.1 v) u.2 s]}
def sE (P:E6) (g:Nat) (k:Nat×Nat×Nat×Nat×Nat) (b:List Nat) (t nd d h S:Nat) (e:KA) (x:Nat×Nat) (W V:Nat) (st:Int×Nat) (O:Nat) (l:Option Nat) (f:Nat) (s:SL) (v:Int×Nat):af:={d:=5,α:=Nat,need:=[(g,dz P k b t nd d h S e x W V (some (st,O,l)) f s)],put:=λu=>[dz P k b t nd d h S e x W V (some (v,O,l)) u s]}
def td (w:E7) (d:Nat) (l:Nat) (k:Nat×Nat×Nat×Nat×Nat) (b:List Nat) (t nd e h S:Nat) (g:KA) (x:Nat×Nat) (W V:Nat) (f:Nat) (s:SL) (v:Int×Nat):PP (env w) (zf w.params d k b t nd e h S g x W V f s v):=λ_ i=>
 .seg 4097 λO=>
 i (O 0,f+1) trivial [0] [] []
def tc (w:E7) (d:Nat) (l:Nat) (k:Nat×Nat×Nat×Nat×Nat) (b:List Nat) (t nd e h S:Nat) (g:KA) (x:Nat×Nat) (W V:Nat) (st:Int×Nat) (O:Nat) (f:Nat) (s:SL) (v:Int×Nat):PP (env w) (sE w.params d k b t nd e h S g x W V st O none f s v):=λ_ i=>
 .seg 4097 λj=>
 i (f) trivial [0] [] []
def s9 (w:E7) (d:Nat) (l:Nat) (k:Nat×Nat×Nat×Nat×Nat) (b:List Nat) (t nd e h S:Nat) (g:KA) (x:Nat×Nat) (W V:Nat) (st:Int×Nat) (O:Nat) (L:Nat) (f:Nat) (s:SL) (v:Int×Nat):PP (env w) (sE w.params d k b t nd e h S g x W V st O (some L) f s v):=λ_ i=>
 .seg 4097 λj=>
 i (f) trivial [0] [] []
def lK (C:ao) (f:Flow):af:={d:=30,α:=Unit,need:=C,r:=λ_=> .ok f,put:=λ_=>C.map (·.2)}
def sD (P:E6) (i o:Nat) (F:Obj) (k:Nat×Nat×Nat×Nat×Nat) (h:List Nat) (t nd m j S:Nat) (A:Nat×Nat) (W V:Nat) (q:Option Nat) (st:Int×Nat) (v:SL) (s n:Nat) (d:Nat×Nat×Nat×Nat) (b u:Nat) (p g:Int×Nat) (w L ld l:Nat) (f:MI) (ws r os y:List (Nat×Nat)) (I:List ai) (e:Nat):af:={d:=42,α:=(Nat×Nat×Nat×Nat)×(Nat×Nat)×KA×Nat,need:=[(i,F),(S,bd s),(s,be P d n (.ref b) p g),(n,dO P (.type "dict") none .ref (ay I) e),(b,ae (r.map cv) u),(o,aj L),(L,cO P ld f l),(W,ae (ws.map cv) w)],put:=λx=>[dz P k h t nd m j S x.2.2.1 A x.1.1 V (some (st,x.1.2.2.1,q)) x.2.2.2 v,bd s,be P d n (.ref b) (p.1+r.length,x.2.1.1) g,dO P (.type "dict") none .ref (ay (db r I)) e,ae [] x.2.1.2,aj L,cO P ld f l],new:=λx=>[(x.1.1,ae (y.map cv) x.1.2.1),(x.1.2.2.1,ae (os.map cv) x.1.2.2.2)],needB:=[aB I],putB:=λ_=>[aB (db r I)]}
def rE:af:={d:=5,α:=Nat,need:=[],r:=λz=> .ok (.ret (.ref z)),new:=λz=>[(z,ae [] 0)]}
def sC (P:E6) (j n:Nat) (F:Obj) (k:Nat×Nat×Nat×Nat×Nat) (i:List Nat) (t nd m d S:Nat) (W V:Nat) (st:Int×Nat) (O:Nat) (s:SL) (g v b ld o l:Nat) (f h:MI) (e:Nat) (w:List (Nat×Nat)) (L:List Lv):af:={d:=65,α:=(Lv×Nat×MI×Nat)×(KA×(Nat×Nat)×Nat),need:=[(j,F),(W,ae (w.map cv) g),(V,ae ((aD L).map .ref) v),(n,aj b),(b,cO P ld f o),(ld,oD [] l),(d,dO P (.type "dict") none iv h e)],put:=λx=>[dz P k i t nd m d S x.2.1 x.2.2.1 W V (some (st,O,some x.1.1.a)) x.2.2.2 s,ae (w.map cv) g,ae ((aD (L++[x.1.1])).map .ref) x.1.2.1,aj b,cO P ld x.1.2.2.1 x.1.2.2.2,oD [] l,dO P (.type "dict") none iv h e],post:=λx=>aH x.1.1.m=w.map (λp=>(p.1,aa h p.1))/\jA w f x.1.2.2.1,needB:=[bq P L],putB:=λx=>[bq P (L++[x.1.1])]}
def sB (P:E6) (f:Nat) (F:Obj) (S s n:Nat) (k:Nat×Nat×Nat×Nat) (r d:Nat) (p b:Int×Nat) (O o:Nat) (os:List (Nat×Nat)) (I:List ai) (e:Nat):af:={d:=40,α:=List ai×List (Nat×Nat)×(Int×Nat)×Nat,need:=[(f,F),(S,bd s),(s,be P k n (.ref r) p b),(n,dO P (.type "dict") none .ref (ay I) e),(r,ae [] d),(O,ae (os.map cv) o)],put:=λx=>[F,bd s,be P k n (.ref r) p x.2.2.1,dO P (.type "dict") none .ref (ay x.1) e,ae (x.2.1.map cv) x.2.2.2,ae (os.map cv) o],post:=λx=>ec os I [] x.1 x.2.1/\x.2.2.1.1=b.1+os.length,needB:=[aB I],putB:=λx=>[aB x.1]}
def sY (s:Stmt):Pos:=(sP s).2.2.2.2.2.1
def pt (e:Expr):Pos:=(eP e).2.2.1
theorem mL {M:Model} {b:Ctx} {d:Type}:∀(t:Sem d) (p:Pos) (s:Fc),¬wp M b t (λ_ _ _=>False) (λ_ _ _=>False) p s:=by
 intro t
 induction t<;>intro p s h<;>rw [Sem.wp] at h
 all_goals first
  | exact h
  | (rename_i i;exact i _ _ _ h)
  | (rename_i i;obtain ⟨_,_,h⟩:=h;exact i _ _ _ h)
  | (rename_i i;obtain ⟨_,h⟩:=h;exact i _ _ _ h)
  | (rename_i i;obtain ⟨_,_,_,h⟩:=h;exact i _ _ _ h)
theorem Es {w:E7} {g:Ctx} {d:Nat} (H:bt (env w) d g) {l r:Expr} {o:CmpOp} {i m:Pos} {f:Env} (j:behindInMarks o r=false) (k:∀a b,compareOp o a b=richCompare o a b) {p:Pos} {s:Fc} {Q:Flow->Pos->Fc->Prop} {E:E9->Pos->Fc->Prop}
 (h:∀p,px w g l r o f (λc=>Q (.ret c)) E p s):
 wp (FQ pq w) g (exec (.Return (some (.Compare l [o] [r] i)) m) f) Q E p s:=by
 have n:=H.hl.cnt
 have q:=H.hl.units
 rw [arm_exec_Return,E5]
 refine aL (Gz λp=> ?_)
 show wp _ _ (eval (.Compare l [o] [r] i) f>>=λv=>pure (Flow.ret v)) _ _ p s
 rw [E5,arm_eval_Compare]
 show wp _ _ (eval l f>>=λa=>compareChain i a [o] [H2 o r (eval r f)]) _ _ p s
 rw [E5]
 refine Fs _ _ _ (λa p s h=> ?_) (λ_ _ _ h=>h) _ _ (h p)
 obtain ⟨x,rfl,h⟩:=h
 have e:H2 o r (eval r f)=eval r f:=by unfold H2;rw [j]
 rw [e]
 unfold compareChain
 rw [E5,HO]
 refine Fs _ _ _ (λb p s h=> ?_) (λ_ _ _ h=>h) _ _ h
 rw [E5]
 refine aL (Gz λp=> ?_)
 rw [Sem.wp_operate,k]
 refine (lL o x b).ok w (kt w.params) (jd w.params) g (by omega) (by omega) p s _ _ ?_
 exact Fs _ _ _ (λc p s h=>h) (λ_ _ _ h=>h) _ _ (h p)
def fy (e:bu) (T:af) (f:Code) (t:Sem Gn):Prop:=
 ∀(d:Ctx),d.code=f->d.handled=none->(∀es,T.outer=some es->envsOf d.below=es)->dQ T.d d->∀(p:Pos) (s:Fc) (F:HF->Fc->Prop),d4 e.kt T.all s->
  (∀x b,T.post x->ap s b T.own (T.res x)->F (T.r x) b)->
  wp (FQ pq e.w) d t (λfin p b=>ca e.kt b.heap/\finPost (FQ pq e.w) d F fin p b) (λv _ b=>ca e.kt b.heap/\F (.error v) b) p s
theorem pe (e:Env):∀(a b:List Stmt),Hb (a++b) e=(Hb a e>>=λf=>match f with | .next=>Hb b e | f=>pure f)
 | [],b=>rfl
 | x::a,b=>by
  rw [H4,Ip,Ip,bind_assoc]
  congr 1
  funext f
  cases f with
  | next=>exact pe e a b
  | _=>rfl
inductive Ps where
 | run (l:List Stmt)
 | done (f:Flow)
inductive Pc (w:E7) (ev:Env) (c0:Code) (T:af):Type 1
 | fin (x:T.α) (h:T.post x) (n:Nat) (is:List Nat)
 | blk (ρ:af) (a:List Stmt) (h:fy (env w) ρ c0 (Dn (.block a ev))) (f:Flow) (n:Nat) (is:List Nat) (k:(x:ρ.α)->ρ.post x->Pc w ev c0 T)
 | cmp (V1 V2:af) (V3:V1.α->V2.α->af) (o:CmpOp) (e:Expr) (v1:V1.α->Nat) (v2:V2.α->Nat) (r bb:Bool) (i1 i2 i3:List Nat)
  (h1:ax (env w) V1 (tV (eval (fR e) ev))) (h2:ax (env w) V2 (tV (eval (dM e) ev))) (ho:∀a b,compareOp o a b=richCompare o a b)
  (h3:∀x y,V1.post x->V2.post y->ax (env w) (V3 x y) (tV (lL o (v1 x) (.ref (v2 y))).val))
  (k:(x:V1.α)->(y:V2.α)->(z:(V3 x y).α)->V1.post x->V2.post y->(V3 x y).post z->Pc w ev c0 T)
 | or (A B:Prop) (h:A\/B) (l:A->Pc w ev c0 T) (r:B->Pc w ev c0 T)
 | pick (β:Type) (f:β->Prop) (h:∃b,f b) (k:(b:β)->f b->Pc w ev c0 T)
def ew (b:Bool):Prop:=match b with | true=>True | false=>False
def n5 (e x:Option (List Env)):Prop:=match x with | none=>True | some es=>e=some es
def qy (x:Option (List Env)):Prop:=match x with | none=>True | some es=>some es=some es
def gE (b:Bool):Prop:=match b with | true=>True | false=>True
def vJ (b:Bool) (c d:List Stmt):List Stmt:=match b with
 | true=>c
 | false=>d
def pE (r:Bool) (e:Expr) (s:Stmt):Prop:=match r with
 | true=>s= .If e (aY s) (cw s) (nV s)
 | false=>s= .Return (some e) (sY s)
def EC (r:Bool) (s:Stmt):Prop:=match r with
 | true=>s=s
 | false=>s=s
def mA (r d:Bool) (s:Stmt) (b:List Stmt):Ps:=match r with
 | true=> .run (vJ d (aY s) (cw s)++b)
 | false=> .done (.ret (.bool d))
def om (f:Flow) (l:List Stmt):Ps:=match f with
 | .next=> .run l
 | f=> .done f
def u6 (r:HF) (st:Ps):Prop:=match st with
 | .run l=>l=[]/\r= .ok .next
 | .done f=>r= .ok f
def DH (r:HF) (st:Ps):Prop:=match st with
 | .run l=>l=l/\r=r
 | .done _=>r=r
section
variable {w:E7} {ev:Env} {c0:Code} {T:af}
def gz (u:Option (List Env)) (Z:List ao) (D:Nat) (J:Pc w ev c0 T):Ps->List ao->Prop:=Pc.rec (motive:=λ_=>Ps->List ao->Prop)
 (λx _ n k st A=>u6 (T.r x) st/\take k (bp T x []) A (λR=>R.drop n=Z))
 (λi a _ f n k _ j st A=>match st with
  | .run l=>l.take n=a/\n5 u i.outer/\ew (GZ i.d D)/\take k (bg i.need++i.needB) A (λR=>∀x h,i.r x= .ok f/\j x h (om f (l.drop n)) (bp i x R))
  | .done _=>False)
 (λV d g o e H I r m E F G _ _ _ _ _ j st A=>match st with
  | .run l=>match l with
   | []=>False
   | s::b=>pE r e s/\e= .Compare (fR e) [o] [dM e] (pt e)/\behindInMarks o (dM e)=false/\V.outer=none/\d.outer=none/\ew (GZ V.d D)/\ew (GZ d.d D)/\
    take E (bg V.need++V.needB) A (λp=>∀x v,V.r x= .ok (.ret (.ref (H x)))/\take F (bg d.need++d.needB) (bp V x p) (λq=>∀y B,d.r y= .ok (.ret (.ref (I y)))/\(g x y).outer=none/\ew (GZ (g x y).d D)/\
     take G (bg (g x y).need++(g x y).needB) (bp d y q) (λt=>∀z C,(g x y).r z= .ok (.ret (.bool m))/\j x y z v B C (mA r m s b) (bp (g x y) z t))))
  | .done _=>False)
 (λ_ _ _ _ _ l r st A=>(∀a,l a st A)/\(∀b,r b st A))
 (λ_ _ _ _ j st A=>∀b h,j b h st A) J
def mW (Z:List ao) (D:Nat) (G:Pc w ev c0 T):Ps->List ao->Prop:=Pc.rec (motive:=λ_=>Ps->List ao->Prop)
 (λx _ n k st A=>DH (T.r x) st/\cp k (bp T x []) A (λR=>Z=Z))
 (λi a _ f n k _ j st A=>match st with
  | .run l=>a=a/\qy i.outer/\gE (GZ i.d D)/\cp k (bg i.need++i.needB) A (λR=>∀x h,i.r x=i.r x/\j x h (om f (l.drop n)) (bp i x R))
  | .done _=>True)
 (λV d g o e H I r t C E F _ _ _ _ _ j st A=>match st with
  | .run l=>match l with
   | []=>True
   | s::b=>EC r s/\e=e/\false=false/\V.outer=V.outer/\d.outer=d.outer/\gE (GZ V.d D)/\gE (GZ d.d D)/\
    cp C (bg V.need++V.needB) A (λm=>∀x u,V.r x=V.r x/\cp E (bg d.need++d.needB) (bp V x m) (λp=>∀y v,d.r y=d.r y/\(g x y).outer=(g x y).outer/\gE (GZ (g x y).d D)/\
     cp F (bg (g x y).need++(g x y).needB) (bp d y p) (λq=>∀z B,(g x y).r z=(g x y).r z/\j x y z u v B (mA r t s b) (bp (g x y) z q))))
  | .done _=>True)
 (λ_ _ _ _ _ l r st A=>(∀a,l a st A)/\(∀b,r b st A))
 (λ_ _ _ _ j st A=>∀b h,j b h st A) G
theorem ix (b:Bool):gE b:=by cases b<;>trivial
theorem xi (x:Option (List Env)):qy x:=by cases x<;>first | rfl | trivial
theorem qp (Z:List ao) (D:Nat) (g:Pc w ev c0 T):∀st A,mW Z D g st A:=by
 induction g with
 | fin x h n u=>
  intro st A
  refine ⟨?_,dt _ _ _ _ λR=> ?_⟩
  .cases st<;>first | rfl | exact ⟨rfl,rfl⟩
  .rfl
 | blk W a h f n u k i=>
  intro st A
  cases st with
  | run l=>exact ⟨rfl,xi _,ix _,dt _ _ _ _ λR x h=>⟨rfl,i x h _ _⟩⟩
  | done _=>trivial
 | cmp V F G o e Q S r H N O P I J M L k i=>
  intro st A
  cases st with
  | run l=>
   cases l with
   | nil=>trivial
   | cons s b=>
    exact ⟨by cases r<;>rfl,rfl,rfl,rfl,rfl,ix _,ix _,dt _ _ _ _ λv x p=>⟨rfl,dt _ _ _ _ λC y q=>⟨rfl,rfl,ix _,dt _ _ _ _ λE z t=>⟨rfl,i x y z p q t _ _⟩⟩⟩⟩
  | done _=>trivial
 | or A B h l r j m=>exact λst d=>⟨λa=>j a st d,λb=>m b st d⟩
 | pick U f h k i=>exact λst d b h=>i b h st d
def Pm (w:E7) (ev:Env) (b:Ctx) (Q:Flow->Pos->Fc->Prop) (E:E9->Pos->Fc->Prop) (p:Pos) (s:Fc):Ps->Prop
 | .run l=>wp (FQ pq w) b (Hb l ev) Q E p s
 | .done f=>Q f p s
theorem n6 {a b:Nat} (h:ew (GZ a b)):a<=b:=GU (by revert h;cases GZ a b<;>intro h<;>first | rfl | exact h.elim)
theorem iW {A:List ao} {T:af} {r:List ao} (p:A.Perm ((bg T.need++T.needB)++r)):A.flatten.Perm (T.all++r.flatten):=by
 refine p.flatten.trans (.of_eq ?_)
 rw [Gd,Gd,jq]
 rfl
theorem EE {w:E7} {T:af} {d:Nat} {e:Ctx} {p:Pos} {j s:Fc} {own:List Addr} {r:List ao} {st:List Stmt} {ev:Env} {c0:Code} (h:fy (env w) T c0 (Dn (.block st ev))) (n:e.code=c0) (k:∀es,T.outer=some es->envsOf e.below=es) (H:bt (env w) d e) (y:T.d<=d) (G:Go (env w).kt j own s (T.all++r.flatten)) {f0:Flow} (o:∀x,T.post x->T.r x= .ok f0)
 {Q:Flow->Pos->Fc->Prop} {E:E9->Pos->Fc->Prop} (m:∀x b p,T.post x->Go (env w).kt j own b (bp T x r).flatten->Q f0 p b):wp (FQ pq w) e (Hb st ev) Q E p s:=by
 have l:dQ T.d e:=⟨by have:=H.hl.cnt;omega,by have:=H.hl.units;omega⟩
 have q:=h e n H.hh k l p s (λr b=>match r with | .ok f=>∀p,Q f p b | .error x=>False) G.sub.pre (λx b g A=>by
  rw [o x g]
  exact λp=>m x b p g (Go.eq (G.stepR A) (eK x r)))
 have u:=l.cnt
 have v:=l.units
 have t:=mI (jd w.params) (.block st ev) e (by omega) (by omega) p s _ _ q
 have i:wp (FQ pq w) e ((Hb st ev).onRaise (λx=>do HS x ev;Hd x)>>=λf=>pure (.done f)) (finPost (FQ pq w) e λr b=>match r with | .ok f=>∀p,Q f p b | .error x=>False) (λx _ b=>False) p s:=t
 rw [E5,Gs] at i
 refine Fs _ _ _ (λf p s h=>h p) (λx p s h=> ?_) _ _ i
 exact (mL _ p s (Fs _ _ _ (λ_ _ _ h=>h) (λ_ _ _ h=>h) _ _ h)).elim
theorem mO {w:E7} {T:af} {d:Nat} {k:Ctx} {p:Pos} {m s:Fc} {own:List Addr} {r:List ao} {t:Sem E9} (h:ax (env w) T (tV t)) (H:bt (env w) d k) (u:T.d<=d) (o:T.outer=none) (G:Go (env w).kt m own s (T.all++r.flatten)) {g:T.α->E9} (l:∀x,T.post x->T.r x= .ok (.ret (g x)))
 {Q:E9->Pos->Fc->Prop} {E:E9->Pos->Fc->Prop} (n:∀x b p,T.post x->Go (env w).kt m own b (bp T x r).flatten->Q (g x) p b):wp (FQ pq w) k t Q E p s:=by
 have q:=ax.flow (t:=t>>=λv=>pure (.ret v)) h k H.hh (λes z=>by rw [o] at z;cases z) ⟨by have:=H.hl.cnt;omega,by have:=H.hl.units;omega⟩ p s (Q:=λf p b=>∃x,T.post x/\f= .ret (g x)/\Q (g x) p b) (E:=λ_ _ _=>False) G.sub.pre
  (λx b p f j A i=>by rw [l x j] at i;cases i;exact ⟨x,j,rfl,n x b p j (Go.eq (G.stepR A) (eK x r))⟩) (λx b p v j A i=>by rw [l x j] at i;cases i)
 rw [E5] at q
 refine Fs _ _ _ (λv p s h=> ?_) (λ_ _ _ h=>h.elim) _ _ q
 obtain ⟨x,_,e,h⟩:∃x,T.post x/\Flow.ret v= .ret (g x)/\Q (g x) p s:=h
 injection e with e
 rw [e];exact h
theorem Er {d:Nat} {g:Ctx} (H:bt (env w) d g) {r f:Bool} {st:Stmt} {b:List Stmt} {e:Expr} {o:CmpOp} {Q:Flow->Pos->Fc->Prop} {E:E9->Pos->Fc->Prop} {p:Pos} {s:Fc} (l:pE r e st) (i:e= .Compare (fR e) [o] [dM e] (pt e)) (j:behindInMarks o (dM e)=false) (k:∀a b,compareOp o a b=richCompare o a b)
 (go:∀{K:E9->Pos->Fc->Prop},(∀p s,(∀p,Pm w ev g Q E p s (mA r f st b))->K (.bool f) p s)->∀p,px w g (fR e) (dM e) o ev K E p s):wp (FQ pq w) g (Hb (st::b) ev) Q E p s:=by
 rw [Ip,E5]
 cases r with
 | true=>
  rw [show st= .If e (aY st) (cw st) (nV st) from l,arm_exec_If,E5]
  refine aL (Gz λp=> ?_)
  rw [E5]
  show wp _ _ (isTrue e ev (eval e ev)) _ _ p s
  rw [i]
  refine Ep H j k (go (λp s h=>⟨f,rfl, ?_⟩) p)
  have h:wp (FQ pq w) g (Hb (vJ f (aY st) (cw st)++b) ev) Q E p s:=h p
  rw [pe,E5] at h
  cases f<;>exact h
 | false=>
  rw [show st= .Return (some e) (sY st) from l,i]
  exact Es H j k (go λp s h=>h p)
theorem s7 {d D:Nat} {C:Ctx} (H:bt (env w) d C) (hD:D<=d) (hc:C.code=c0) {es0:Option (List Env)} (hE:∀es,es0=some es->envsOf C.below=es) {s0:Fc} {own:List Addr} {Z:List ao} {Q:Flow->Pos->Fc->Prop} {gt:E9->Pos->Fc->Prop}
 (X:∀x f I p Z',T.post x->T.r x= .ok f->Go (env w).kt s0 own I (bp T x []++(Z'++Z)).flatten->Q f p I) (π:Pc w ev c0 T):
 ∀(st:Ps) (A:List ao) (p:Pos) (s:Fc),Go (env w).kt s0 own s A.flatten->gz es0 Z D π st A->Pm w ev C Q gt p s st:=by
 have io:∀{T:af},n5 es0 T.outer->∀es,T.outer=some es->envsOf C.below=es:=λ{T} h es he=>by
  rw [he] at h
  exact hE es h
 have F:∀{a},ew (GZ a D)->a<=d:=λh=>FZ (n6 h) hD
 induction π with
 | fin x h n J=>
  intro st A p s G hk
  have hk:u6 (T.r x) st/\take J (bp T x []) A (λR=>R.drop n=Z):=hk
  obtain ⟨R,L,E⟩:=bW hk.2
  have u:=G.perm L.flatten
  rw [<-List.take_append_drop n R,E] at u
  cases st with
  | run l=>exact (show l=[] from hk.1.1)▸X x _ s p _ h hk.1.2 u
  | done f=>exact X x _ s p _ h hk.1 u
 | blk t a h f n J k v=>
  intro st A p s G hk
  cases st with
  | done f=>exact hk.elim
  | run l=>
   have hk:l.take n=a/\n5 es0 t.outer/\ew (GZ t.d D)/\take J (bg t.need++t.needB) A (λR=>∀x h,t.r x= .ok f/\gz es0 Z D (k x h) (om f (l.drop n)) (bp t x R)):=hk
   refine (bW hk.2.2.2).elim λR q=> ?_
   have L:=q.1
   have E:=q.2
   show wp _ _ (Hb l ev) _ _ p s
   rw [<-List.take_append_drop n l,hk.1,pe,E5]
   exact EE h hc (io hk.2.1) H (F hk.2.2.1) (G.perm (iW L)) (λx g=>(E x g).1) λx I p g G'=>by
    have q:=v x g _ _ p I G' (E x g).2
    cases f<;>exact q
 | cmp V j m ac e v1 v2 r W i1 i2 i3 h1 h2 ho h3 k v=>
  intro st A p s G hk
  cases st with
  | done f=>exact hk.elim
  | run l=>
   cases l with
   | nil=>exact hk.elim
   | cons st b=>
    have hk:pE r e st/\e= .Compare (fR e) [ac] [dM e] (pt e)/\behindInMarks ac (dM e)=false/\V.outer=none/\j.outer=none/\ew (GZ V.d D)/\ew (GZ j.d D)/\
    take i1 (bg V.need++V.needB) A (λP=>∀x g,V.r x= .ok (.ret (.ref (v1 x)))/\take i2 (bg j.need++j.needB) (bp V x P) (λS=>∀y i,j.r y= .ok (.ret (.ref (v2 y)))/\(m x y).outer=none/\ew (GZ (m x y).d D)/\
     take i3 (bg (m x y).need++(m x y).needB) (bp j y S) (λU=>∀z o,(m x y).r z= .ok (.ret (.bool W))/\gz es0 Z D (k x y z g i o) (mA r W st b) (bp (m x y) z U)))):=hk
    exact Er H hk.1 hk.2.1 hk.2.2.1 ho λhK p=>(bW hk.2.2.2.2.2.2.2).elim λP M=>
     mO h1 H (F hk.2.2.2.2.2.1) hk.2.2.2.1 (G.perm (iW M.1)) (λx g=>(M.2 x g).1) λx s1 p g u=>⟨_,rfl,(bW (M.2 x g).2).elim λS B=>
      mO h2 H (F hk.2.2.2.2.2.2.1) hk.2.2.2.2.1 (u.perm (iW B.1)) (λy i=>(B.2 y i).1) λy s2 p i G2 p=>(bW (B.2 y i).2.2.2).elim λU N=>
       mO (h3 x y g i) H (F (B.2 y i).2.2.1) (B.2 y i).2.1 (G2.perm (iW N.1)) (λz o=>(N.2 z o).1) λz s3 p o O=>⟨O.inv.base,hK p s3 λp=>v x y z g i o _ _ p s3 O (N.2 z o).2⟩⟩
 | or A rw h l r hl hr=>
  intro st A p s G hk
  have hk:(∀a,gz es0 Z D (l a) st A)/\(∀b,gz es0 Z D (r b) st A):=hk
  exact h.elim (λa=>hl a st A p s G (hk.1 a)) (λb=>hr b st A p s G (hk.2 b))
 | pick β f h k v=>
  intro st A p s G hk
  exact h.elim λb Y=>v b Y st A p s G (hk b Y)
theorem ic (T:af):T.all=(bg T.need++T.needB).flatten:=by
 rw [Gd,jq];rfl
def mn {d:Type} (T:af) (N:d->af) (P:d->Prop):af:={d:=0,α:=d⊕T.α,need:=[],r:=λb=>match b with | .inl _=> .ok .next | .inr x=>T.r x,new:=λb=>match b with | .inl b=>(N b).need | .inr x=>(T.need.map (·.1)).zip (T.put x)++T.new x,post:=λb=>match b with | .inl b=>P b | .inr x=>T.post x/\∃v,T.r x= .ok (.ret v),newB:=λb=>match b with | .inl b=>(N b).needB | .inr x=>T.putB x++T.newB x}
theorem DJ {T:af} {d:Type} (N:d->af) (P:d->Prop) (b:d) (R:List ao):(bp (mn T N P) (.inl b) []++(R++[])).flatten=(N b).all++R.flatten:=by
 rw [ic,Gd,FJ]
 congr 2
 show bg ([]++(N b).need)++(([]++(N b).needB)++[])=_
 rw [Hz,Hz,FJ]
theorem DI {T:af} {b:Type} (N:b->af) (P:b->Prop) (x:T.α) (R:List ao):(bp (mn T N P) (.inr x) []++(R++[])).flatten=T.res x++R.flatten:=by
 rw [Gd,FJ]
 congr 1
 show (bg ([]++((T.need.map (λc:dR=>c.1)).zip (T.put x)++T.new x))++(([]++(T.putB x++T.newB x))++[])).flatten=_
 rw [Hz,Hz,FJ,Gd,jq,Fm]
 rfl
def vC {c0:Code} {T:af} (e:Option (List Env)) (A:List ao) (D:Nat) (f:List Stmt) (V:af) (b:V.α->af) (v:V.α->E9) (i j:List Nat) (k:(x:V.α)->(y:(b x).α)->V.post x->(b x).post y->Pc w ev c0 T):Prop:=
 V.outer=none/\ew (GZ V.d D)/\take i (bg V.need++V.needB) A (λR=>∀x h,V.r x= .ok (.ret (v x))/\(b x).outer=none/\ew (GZ (b x).d D)/\take j (bg (b x).need++(b x).needB) (bp V x R) (λd=>∀y g,(b x).r y= .ok .next/\gz e [] D (k x y h g) (.run f) (bp (b x) y d)))
def qo {c0:Code} {T:af} (A:List ao) (D:Nat) (e:List Stmt) (V:af) (b:V.α->af) (v:V.α->E9) (i g:List Nat) (j:(x:V.α)->(y:(b x).α)->V.post x->(b x).post y->Pc w ev c0 T):Prop:=
 V.outer=V.outer/\gE (GZ V.d D)/\cp i (bg V.need++V.needB) A (λR=>∀x h,V.r x=V.r x/\(b x).outer=(b x).outer/\gE (GZ (b x).d D)/\cp g (bg (b x).need++(b x).needB) (bp V x R) (λd=>∀y f,(b x).r y=(b x).r y/\mW [] D (j x y h f) (.run e) (bp (b x) y d)))
theorem uS {w:E7} {T:af} {d:Nat} {i:Ctx} {p:Pos} {k s:Fc} {own:List Addr} {r:List ao} {t:Sem Flow} (h:ax (env w) T (tF t)) (H:bt (env w) d i) (o:T.d<=d) (n:T.outer=none) (G:Go (env w).kt k own s (T.all++r.flatten)) {l:T.α->Flow} (j:∀x,T.post x->T.r x= .ok (l x))
 {Q:Flow->Pos->Fc->Prop} {E:E9->Pos->Fc->Prop} (m:∀x e p,T.post x->Go (env w).kt k own e (bp T x r).flatten->Q (l x) p e):wp (FQ pq w) i t Q E p s:=
 ax.flow h i H.hh (λes z=>by rw [n] at z;cases z) ⟨by have:=H.hl.cnt;omega,by have:=H.hl.units;omega⟩ p s G.sub.pre
  (λx e p f g A b=>by rw [j x g] at b;cases b;exact m x e p g (Go.eq (G.stepR A) (eK x r))) (λx e p v g A b=>by rw [j x g] at b;cases b)
theorem w8 {c0:Code} {T:af} (A:List ao) (D:Nat) (d:List Stmt) (V:af) (b:V.α->af) (v:V.α->E9) (i e:List Nat) (f:(x:V.α)->(y:(b x).α)->V.post x->(b x).post y->Pc w ev c0 T):qo A D d V b v i e f:=
 ⟨rfl,ix _,dt _ _ _ _ λR x h=>⟨rfl,rfl,ix _,dt _ _ _ _ λg y j=>⟨rfl,qp ..⟩⟩⟩
theorem gC {T:af} {i:Nat} {t:Expr} {d n:List Stmt} (U:T.c= .forLoop t (.ref i) d n ev) (io:∀i v,Gp t i v=pure ())
 {V:af} {j:V.α->af} {v1:V.α->E9} (h1:ax (env w) V (tF (tN i))) (h2:∀x,V.post x->ax (env w) (j x) (tF (assign t ev (v1 x)>>=λ_=>pure .next)))
 {β:Type} {N:β->af} {P:β->Prop} (hN:∀b,P b->ab (env w) (N b)) (hA:T.anyH=false) (he:∀b y,(N b).post y->∃z,T.post z/\T.r z=(N b).r y/\T.res z=(N b).res y)
 (A:∀b,(N b).c=T.c/\(N b).outer=none/\(N b).d=T.d) (C D:List Nat) (u:(x:V.α)->(y:(j x).α)->V.post x->(j x).post y->Pc w ev T.c (mn T N P))
 (hk:vC T.outer (bg T.need++T.needB) T.d d V j v1 C D u=qo (bg T.need++T.needB) T.d d V j v1 C D u):ab (env w) T:=by
 intro g S o hE B p s F P0 Q
 have o:g.handled=none:=o.resolve_left (λz=>by rw [(show T.anyH=false from hA)] at z;cases z)
 have H:bt (env w) T.d g:=⟨o,B⟩
 have ac:=Go.eq (Go.start P0) (ic _)
 have q:vC T.outer (bg T.need++T.needB) T.d d V j v1 C D u:=hk.mpr (w8 ..)
 have cd:=S.trans U
 rw [F1,cd]
 show wp _ _ ((forTurn t (.ref i) d n ev).onRaise (λx=>do HS x ev;Hd x)) _ _ p s
 rw [Gs]
 unfold forTurn
 rw [E5]
 refine aL (Gz λp=> ?_)
 rw [E5,Gs]
 refine (bW q.2.2).elim λR E=> ?_
 have L:=uS (p:=p) (Q:=λf p r=>∃x,V.post x/\f= .ret (v1 x)/\Go (env w).kt s (keys T.all) r (bp V x R).flatten) (E:=λ_ _ _=>False) h1 H (n6 q.2.1) q.1 (ac.perm (iW E.1)) (λx e=>(E.2 x e).1) λx r p e G'=>⟨x,e,rfl,G'⟩
 unfold tN at L
 rw [E5] at L
 refine Fs _ _ _ (λrw p Y W=> ?_) (λ_ _ _ h=>h.elim) _ _ L
 cases rw with
 | none=>exact (show ∃x,V.post x/\Flow.brk= .ret (v1 x)/\_ from W).elim λx h=>nomatch h.2.1
 | some v=>
  refine (show ∃x,V.post x/\Flow.ret v= .ret (v1 x)/\Go (env w).kt s (keys T.all) Y (bp V x R).flatten from W).elim λx h=> ?_
  have e:=h.1
  have gt:v=v1 x:=Flow.ret.inj h.2.1
  have J:=(E.2 x e).2
  subst gt
  show wp _ _ (Gp t (.ref i) (v1 x)>>=λ_=>assign t ev (v1 x)>>=λ_=>Hb d ev>>=_) _ _ p Y
  rw [io,E5]
  refine aL (E3 λp=> ?_)
  rw [E5]
  refine (bW J.2.2).elim λR2 I=> ?_
  have X:=uS (p:=p) (E:=gg w g ev F) (h2 x e) H (n6 J.2.1) J.1 (h.2.2.perm (iW I.1)) (λy k=>(I.2 y k).1) (Q:=λ_ p r=>wp (FQ pq w) g (Hb d ev) (λf p s=>(f= .next/\finPost (FQ pq w) g F (.again (.forLoop t (.ref i) d n ev)) p s)\/∃v,f= .ret v/\F (.ok (.ret v)) s) (gg w g ev F) p r) λy s2 p k G2=>
   s7 H (FM _) S hE (λb f M p Z l m G=>by
    cases b with
    | inr z=>
     have l:T.post z/\∃v,T.r z= .ok (.ret v):=l
     have m:T.r z= .ok f:=m
     have O:=Q z M l.1 (Go.eq G (DI N P z Z)).sub.after
     obtain ⟨v,hv⟩:=l.2
     rw [hv] at m O
     cases m
     exact .inr ⟨v,rfl,O⟩
    | inl b=>
     have G:=Go.eq G (DJ N P b Z)
     exact .inl ⟨by cases m;rfl,rfl,hN b l (g.goto (.forLoop t (.ref i) d n ev)) (U▸(A b).1).symm (.inr o) (λes z=>by rw [(A b).2.1] at z;cases z) (by rw [(A b).2.2];exact ⟨B.cnt,B.units⟩) p M F G.sub.pre λy s4 k A4=>(he b y k).elim λz h=>by
      rw [<-h.2.1]
      exact Q z s4 h.1 (h.2.2▸(G.stepR A4).sub.after)⟩) (u x y e k) (.run d) _ p s2 G2 (I.2 y k).2
  rw [E5] at X
  refine Fs _ _ _ (λIt p M h=> ?_) (λ_ _ _ h=>h) _ _ X
  rw [E5]
  refine Fs _ _ _ (λf p s h=> ?_) (λ_ _ _ h=>h) _ _ h
  rcases h with ⟨rfl,h⟩ | ⟨v,rfl,h⟩<;>exact h
end
theorem iE (P:E6) (i f l:Nat):bR (dS P) (.ref i) (b9 P f l)= .forLoop (ej (dS P)) (.ref i) (aY (dS P)) (cw (dS P)) (b9 P f l):=by kernel_rfl
theorem iD (P:E6) (i v:E9):Gp (ej (dS P)) i v=pure ():=l6 (by kernel_rfl) i v
def pQ (os w:List (Nat×Nat)) (d h:MI) (L:List Lv) (f:List ai) (e:MI) (b:List Lv) (I:List ai) (r:List (Nat×Nat)):Prop:=
 ((os=[]/\(∃l:Lv,aH l.m=w.map (λp=>(p.1,aa h p.1))/\b=L++[l])/\jA w d e)\/(os≠[]/\b=L/\e=d))/\ec os f [] I r
theorem nW {A B:List ao} (i:List Nat) (h:take i B A (· =[])):A.Perm B:=by
 obtain ⟨r,p,rfl⟩:=bW h
 rw [FJ] at p;exact p
structure v6 (lm hm:MI) (ws rd:List (Nat×Nat)) (I:List ai) (LV:List Lv):Prop where
 hz:rd.length<=6
 ne:ws++rd≠[]
 len:(ws++rd).length<=8
 nd:((ws++rd).map (·.1)).Nodup
 ndI:(am I).Nodup
 memI:∀p∈rd,p.1∈am I
 done:dI (ay (db rd I)) (aP lm (ws++rd)) (db rd I) []
 few:(aP lm (ws++rd)).length<=5
 hand:∀p∈ws++rd,∃v,look? hm p.1=some v
 lmL:lm.length<=800
 lvL:LV.length<=900
theorem uW {l:MI} {ws:List (Nat×Nat)} (h:aP l ws=[]):bA l ws=ws:=by
 unfold aP at h
 unfold bA
 rw [List.filter_eq_self]
 intro x b
 rw [List.filter_eq_nil_iff] at h
 simpa using h x b
def oN {d:Type} (o:Option Nat) (a b:d):d:=match o with | none=>a | some _=>b
section
variable {w:E7} {fr lc:Nat} {k:Nat×Nat×Nat×Nat×Nat} {cps:List Nat} {t nd hr ha S:Nat} {sl:SL} {V:Nat}
def nY {F:Obj} {E:Option Nat} {J:Nat×Nat} {W:Nat} {st:Int×Nat} {s h:Nat} {e:Nat×Nat×Nat×Nat} {i j:Nat} {d n:Int×Nat} {v L ld f:Nat} {l:MI} {ws r os m:List (Nat×Nat)} {I:List ai} {o:Nat} (g:Nat->KA×Nat) (A:aP l (ws++r)=os) (B:bA l (ws++r)=m) (C:(decide (n.1< d.1) || !r.isEmpty)=true) (D:r.length<=6) (u:ws++r≠[]) (q:(ws++r).length<=900) (ac:ws.length+r.length<=900) (H:(am I).Nodup) (G:∀p∈r,p.1∈am I):PP (env w) (sD w.params fr lc F k cps t nd hr ha S J W V E st sl s h e i j d n v L ld f l ws r os m I o):=λ_ P=>
 .seg 0x3002000000000000002000000000002000000000002001 λQ=> .use _ (vZ w S s e h i j d n r HL C (by omega)) [1,1,2] [] λx2 Y=> .seg 0x2001000000000000001000000000001000000000001004008008008008004 λT=> .use _ (zA w S s e h i j d n o r I D H G) [0,0,0,1] [0] λx Z=> .seg 36865 λU=> .use _ (BM cv w W v (x.1.1) (x.2.2) ws r (by omega)) [8,4] [] λy h6=> .seg 0x1001001001001001007 λb=> .use _ (DA w (b 0) (b 1) (b 2) fr lc L ld f W y l (ws++r) os A q u 0 0) [2,1,0,7,7,0] [] λN h8=> .seg 0x100100500100500500b00200200200b00b λO=> .use _ (Dx w (O 1) (O 2) (O 3) fr lc L ld f W y l (ws++r) m B q u 0 0) [2,1,0,2,2,2] [] λM X=> .seg 563087425982477 λR=>P ((O 2,M.2.1,b 1,N.2.1),(x.1.2,x.2.1),(g (O 0)).1,(g (O 0)).2) trivial [12,8,8,9,8,2,2] [0,2] [0]
def z8 {l:Option Nat} {d:KA} {u:Nat×Nat} {W:Nat} {st:Int×Nat} {O i n g o ld s r:Nat} {m j:MI} {q:Nat} {e:List (Nat×Nat)} {L:List Lv} (A:e≠[]) (B:(e.map (λx:Nat×Nat=>x.1)).Nodup) (C:e.length<=8) (D:∀p∈e,∃v,look? j p.1=some v) (E:m.length+e.length<=900) (P:(aD L).length<=1000):PP (env w) (sC w.params fr lc (dz w.params k cps t nd hr ha S d u W V (some (st,O,l)) i sl) k cps t nd hr ha S W V st O sl n g o ld s r m j q e L):=λ_ H=>
 .seg 0 λI=> .use _ (jy w) [] [] λb Q=> .seg 0x1001004001004004003003003 λh=> .use _ (BD w fr lc (h 1) k cps t nd hr ha S (d.1,d.2.1,d.2.2.1,oN l (h 0) d.2.2.2) W V st O (b.1) (b.2.1) sl e n (b.2.2) j q u (oN l (i+1) i) 0 A B C D) [0,2,2,0,0,4] [] λf F=> .seg 0x6001001006006006006001 λJ=> .use _ (oL w V g (aD L) (b.1) (by omega)) [5] [] λT R=> .seg 0x2009008000000000000008000000000008000000000008007 λM=> .use _ (xA w o ld r s W n m e E) [7,7,2] [] λy G=> .seg 0 λN=> .view [3] [] _ _ _ _ ((bC (a:=V) (BF L ⟨b.1,b.2.1,f.1.1,f.1.2,b.2.2⟩ (g+1)))) (.view [5,5] [0] _ _ _ _ ((aX (BB w.params L ⟨b.1,b.2.1,f.1.1,f.1.2,b.2.2⟩))) (H (((⟨b.1,b.2.1,f.1.1,f.1.2,b.2.2⟩,g+1,y.1,y.2),(d.1,d.2.1,d.2.2.1,oN l (h 0) d.2.2.2),f.2.1,f.2.2)) ⟨by rw [F];rfl,G⟩ [4,3,0,3,0,0,0] [] [0]))
theorem vK {os:List (Nat×Nat)} {lv:Option Nat} {kA:KA} {x0:Nat×Nat} {W:Nat} {st:Int×Nat} {O fe sd n2i:Nat} {ks:Nat×Nat×Nat×Nat} {rl rn:Nat} {po nf:Int×Nat} {on:Nat} {I:List ai} {ep:Nat} (h:dI (ay I) os I []) (g:os.length<=5) (i:os=[]->lv≠none):ax (env w) (sB w.params fr (dz w.params k cps t nd hr ha S kA x0 W V (some (st,O,lv)) fe sl) S sd n2i ks rl rn po nf O on os I ep) (Dn (.block (b3 w.params) (b9 w.params fr lc))):=by
 let p:∀{w:E7} {os:List (Nat×Nat)} {lv:Option Nat} {fr:Nat} {k:Nat×Nat×Nat×Nat×Nat} {cps:List Nat} {t nd hr ha S:Nat} {kA:KA} {x0:Nat×Nat} {W V:Nat} {st:Int×Nat} {O:Nat} {fe:Nat} {sl:SL} {sd n2i:Nat} {ks:Nat×Nat×Nat×Nat} {rl rn:Nat} {po nf:Int×Nat} {on:Nat} {I:List ai} {ep:Nat} (h:dI (ay I) os I []) (f:os.length<=6),PP (env w) (sB w.params fr (dz w.params k cps t nd hr ha S kA x0 W V (some (st,O,lv)) fe sl) S sd n2i ks rl rn po nf O on os I ep):= @λw os lv fr k cps t nd hr ha S kA x0 W V st O fe sl sd n2i ks rl rn po nf on I ep h f _ j=>
  .seg 0x1007002001000001000000000003000002002000000000000000000002001000000000002001 λd=>
  .use _ (l4 cv w (d 2) 0 O on (os) (by omega)) [0,6] [] λr o=>
  .seg 844493649620993 λl=>
  .use _ (DM w S sd ks n2i rl rn po nf (ay I) ep (os) ([]) I h (by omega)) [4,4,4,4] [0] λx b=>have e:ec os I [] x.1.1 x.1.2.1:=(Fv b);have q:x.2.1=nf.1+(↑(Fl os):Int):=(Fe b);
  .seg 0 λn=>
  .view [2] [] _ _ _ _ ((bC (a:=n2i) (congrArg (λm=>dO w.params (.type "dict") none .ref m ep) (vb e).symm)))
  (j ((x.1.1,x.1.2.1,(x.2.1,x.2.2),x.1.2.2)) b [7,1,1,0,0,1] [] [0])
 rcases lv with _ | L<;>rcases os with _ | ⟨_,_ | ⟨_,_ | ⟨_,_ | ⟨_,_ | ⟨_,_ | ⟨_,_⟩⟩⟩⟩⟩⟩<;>first | exact absurd rfl (i rfl) | (exfalso;simp at g;done) | exact aG _ (p h (by simp))
end
structure v7 where
 (kA:KA) (x0:Nat×Nat) (W wn rn pu vn le fe O u:Nat) (lv:Option Nat) (nf:Int×Nat) (lm:MI) (LV:List Lv) (I:List ai) (rd:List (Nat×Nat))
theorem ax.c {e:bu} {T:af} {t:Sem Gn} (h:ax e T t) (b:Code):fy e T b t:=λd _=>h d
section
variable (w:E7) (fr lc it:Nat) (k:Nat×Nat×Nat×Nat×Nat) (cps:List Nat) (t nd hr ha S sd n2i:Nat) (ks:Nat×Nat×Nat×Nat) (V:Nat) (sl:SL) (Lf ld lde eh:Nat) (hm:MI) (Qf:List Lv->Prop)
def tu (v l:Int) (d r:Nat) (p:Int×Nat) (f:List (Nat×Nat)) (n e:Nat) (b:v7):af:=iL w fr lc it (v+1) (l-1) 0 0 d k cps t nd hr ha S sd n2i ks r b.rn (p.1+n,b.pu) b.nf b.kA b.x0 b.W b.wn V b.vn (some ((v,b.u),b.O,b.lv)) b.fe sl Lf ld b.le lde b.lm hm eh f b.rd b.I e b.LV Qf
def wa (n:Int×Nat) (l:MI) (L:List Lv) (I:List ai) (os d:List (Nat×Nat)) (b:v7):Prop:=pQ os d l hm L I b.lm b.LV b.I b.rd/\b.nf.1=n.1+os.length
theorem i4 {v l:Int} {t1 t2 t3:Nat} (h:0< l):ax (env w) (yx it v l t1 t2 t3) (tF (tN it)):=tk _ (λ_ b=> .seg 16781313 λO=> .use _ (bY w it v l 1 t1 t2 t3 (v+1) (l-1) h rfl rfl) [0] [] λx e=> .seg 0 λd=>b (x) trivial [0] [] [])
theorem xN (Iv:Option ((Int×Nat)×Nat×Option Nat)) {v F:Int} {P Q A s N:Nat} {p n:Int×Nat} {d:KA} {e:Nat×Nat} {W R G B D o:Nat} {l:MI} {ws r:List (Nat×Nat)} {I:List ai} {L:List Lv}
 (C:v6 l hm ws r I L) (Y:(decide (n.1< p.1) || !r.isEmpty)=true) (U:0< F)
 (Z:∀(d:KA) (e:Nat×Nat) (W R N pu G D B O u:Nat) (f:Option Nat) (Iu:Int×Nat) (It:MI) (io:List Lv) (I':List ai) (Iw:List (Nat×Nat)),pQ (aP l (ws++r)) (bA l (ws++r)) l hm L (db r I) It io I' Iw->Iu.1=n.1+(aP l (ws++r)).length->
  ab (env w) (iL w fr lc it (v+1) (F-1) 0 0 A k cps t nd hr ha S sd n2i ks s N (p.1+r.length,pu) Iu d e W R V G (some ((v,u),O,f)) B sl Lf ld D lde It hm eh (bA l (ws++r)) Iw I' o io Qf)):
 ab (env w) (iL w fr lc it v F P Q A k cps t nd hr ha S sd n2i ks s N p n d e W R V G Iv B sl Lf ld D lde l hm eh ws r I o L Qf):=by
 generalize j:aP l (ws++r)=os at Z
 generalize J:bA l (ws++r)=g at Z
 have X:∀b,wa hm n l L (db r I) os g b->ab (env w) (tu w fr lc it k cps t nd hr ha S sd n2i ks V sl Lf ld lde eh hm Qf v F A s p g r.length o b):=λb h=>Z _ _ _ _ _ _ _ _ _ _ _ _ _ _ _ _ _ h.1 h.2
 have M:(ws++r).length<=900:=by have:=C.len;omega
 have l2:ws.length+r.length<=900:=by rw [<-FU];exact M
 let gt:∀(rw:af) (u:Nat) (F':Obj) (f:Option Nat),ax (env w) (sD w.params fr lc F' k cps t nd hr ha S e W V f (v,u) sl sd n2i ks s N p n R Lf ld D l ws r os g I o) (Dn (.block (b1 w.params) (b9 w.params fr lc)))->Pc w (b9 w.params fr lc) (bR (dS w.params) (.ref it) (b9 w.params fr lc)) (mn rw (tu w fr lc it k cps t nd hr ha S sd n2i ks V sl Lf ld lde eh hm Qf v F A s p g r.length o) (wa hm n l L (db r I) os g)):=λrw u F' f Iy=>
  .blk _ _ (Iy.c _) .next 4 [0,1,1,1,1,1,1,2,4] λx _=>
  .or (os=[]) (os≠[]) (FI _)
   (λq=>have H:g=ws++r:=by rw [<-J];exact uW (j.trans q)
    .cmp (bl [(fr,dz w.params k cps t nd hr ha S x.2.2.1 e x.1.1 V (some ((v,u),x.1.2.2.1,f)) x.2.2.2 sl)] (.ret (.ref x.1.2.2.1))) rE (λ_ z=>bl [(x.1.2.2.1,ae (os.map cv) x.1.2.2.2),(z,ae [] 0)] (.ret (.bool true))) .Eq (bI (s4 w.params)) (λ_=>x.1.2.2.1) (λz=>z) true true [0] [] [9,0]
    (by cases f<;>exact tk _ (λ_ i=> .seg 1 λm=>i () trivial [0] [] [])) (tk _ (λ_ i=> .seg 0 λm=>i (m 0) trivial [] [0] [])) (λ_ _=>rfl)
    (λ_ z _ _=>by rw [q];exact aG _ (λ_ i=> .seg 0x2001002001001002001002001001001001002001 λm=>i () trivial [0,0] [] [])) λ_ _ _ _ _ _=>
    .blk _ (aY (s4 w.params)) ((show ax (env w) (sC w.params fr lc (dz w.params k cps t nd hr ha S x.2.2.1 e x.1.1 V (some ((v,u),x.1.2.2.1,f)) x.2.2.2 sl) k cps t nd hr ha S x.1.1 V (v,u) x.1.2.2.1 sl x.1.2.1 G Lf ld D lde l hm eh g L) _ by
     have a1:g≠[]:=by rw [H];exact C.ne
     have a2:(g.map (λx:Nat×Nat=>x.1)).Nodup:=by rw [H];exact C.nd
     have a3:g.length<=8:=by rw [H];exact C.len
     have a4:∀Iz∈g,∃v,look? hm Iz.1=some v:=by rw [H];exact C.hand
     have a5:l.length+g.length<=900:=by have:=C.lmL;omega
     have a6:(aD L).length<=1000:=by unfold aD;rw [Fo];have:=C.lvL;omega
     cases f<;>exact aG _ (z8 a1 a2 a3 a4 a5 a6)).c _) .next 4 [2,8,11,6,6,8,8,8] λy hy=>
    .blk _ _ ((vK (w:=w) (fr:=fr) (lc:=lc) (k:=k) (cps:=cps) (t:=t) (nd:=nd) (hr:=hr) (ha:=ha) (S:=S) (sl:=sl) (V:=V) (lv:=some y.1.1.a) (kA:=y.2.1) (x0:=y.2.2.1) (W:=x.1.1) (st:=(v,u)) (O:=x.1.2.2.1) (fe:=y.2.2.2) (sd:=sd) (n2i:=n2i) (ks:=ks) (rl:=s) (rn:=x.2.1.2) (po:=(p.1+r.length,x.2.1.1)) (nf:=n) (on:=x.1.2.2.2) (ep:=o) (j▸C.done) (j▸C.few) (λ_ z=>nomatch z)).c _) .next 9 [0,9,9,9,9,7,8] λz E=>
    .fin (.inl ⟨y.2.1,y.2.2.1,x.1.1,x.1.2.1,z.2.2.2,x.2.1.1,y.1.2.1,y.1.2.2.2,y.2.2.2,x.1.2.2.1,u,some y.1.1.a,z.2.2.1,y.1.2.2.1,L++[y.1.1],z.1,z.2.1⟩) ⟨⟨.inl ⟨q,⟨_,hy.1,rfl⟩,hy.2⟩,E.1⟩,E.2⟩ 2 [15,0,0,0,0,0,4,4,4,2,2,2,1,1])
   (λq=>
    .cmp (bl [(fr,dz w.params k cps t nd hr ha S x.2.2.1 e x.1.1 V (some ((v,u),x.1.2.2.1,f)) x.2.2.2 sl)] (.ret (.ref x.1.2.2.1))) rE (λ_ z=>bl [(x.1.2.2.1,ae (os.map cv) x.1.2.2.2),(z,ae [] 0)] (.ret (.bool false))) .Eq (bI (s4 w.params)) (λ_=>x.1.2.2.1) (λz=>z) true false [0] [] [9,0]
    (by cases f<;>exact tk _ (λ_ i=> .seg 1 λm=>i () trivial [0] [] [])) (tk _ (λ_ i=> .seg 0 λm=>i (m 0) trivial [] [0] [])) (λ_ _=>rfl)
    (λ_ z _ _=>by
     obtain ⟨IA,IB,Ix⟩:=Fy q
     rw [Ix];exact aG _ (λ_ i=> .seg 0x2001002001001001001002001 λm=>i () trivial [0,0] [] [])) λ_ _ _ _ _ _=>
    .blk _ _ ((vK (w:=w) (fr:=fr) (lc:=lc) (k:=k) (cps:=cps) (t:=t) (nd:=nd) (hr:=hr) (ha:=ha) (S:=S) (sl:=sl) (V:=V) (lv:=f) (kA:=x.2.2.1) (x0:=e) (W:=x.1.1) (st:=(v,u)) (O:=x.1.2.2.1) (fe:=x.2.2.2) (sd:=sd) (n2i:=n2i) (ks:=ks) (rl:=s) (rn:=x.2.1.2) (po:=(p.1+r.length,x.2.1.1)) (nf:=n) (on:=x.1.2.2.2) (ep:=o) (j▸C.done) (j▸C.few) (λz=>absurd z q)).c _) .next 9 [2,2,2,2,2,0,4] λz E=>
    .fin (.inl ⟨x.2.2.1,e,x.1.1,x.1.2.1,z.2.2.2,x.2.1.1,G,D,x.2.2.2,x.1.2.2.1,u,f,z.2.2.1,l,L,z.1,z.2.1⟩) ⟨⟨.inr ⟨q,rfl,rfl⟩,E.1⟩,E.2⟩ 2 [11,0,0,0,0,0,3,3,4,3,3,3,1,2])
 rcases Iv with _ | ⟨st,O,_ | T⟩
 .exact gC (iE w.params it fr lc) (iD w.params) (v1:=λu=> .int v u) (i4 w it (v:=v) (t1:=P) (t2:=Q) (t3:=A) U) (λu _=>tk _ (td w fr lc k cps t nd hr ha S d e W V B sl (v,u))) X rfl (λb y h=>⟨y,h,rfl,rfl⟩) (λb=>⟨rfl,rfl,rfl⟩) [0] [1] (λu z _ _=>gt _ u (eS w.params k cps t nd hr ha S (oz w.params d e W V z.1 (v,u)) z.2 sl) none (aG _ (nY (λac=>((d.1,d.2.1,(z.1,ac),0),z.2+1)) j J Y C.hz C.ne M l2 C.ndI C.memI))) (by kernel_rfl)
 .exact gC (iE w.params it fr lc) (iD w.params) (v1:=λu=> .int v u) (i4 w it (v:=v) (t1:=P) (t2:=Q) (t3:=A) U) (λu _=>tk _ (tc w fr lc k cps t nd hr ha S d e W V st O B sl (v,u))) X rfl (λb y h=>⟨y,h,rfl,rfl⟩) (λb=>⟨rfl,rfl,rfl⟩) [0] [1] (λu z _ _=>gt _ u (dz w.params k cps t nd hr ha S d e W V (some ((v,u),O,none)) z sl) none (aG _ (nY (λac=>((d.1,d.2.1,d.2.2.1,0),z)) j J Y C.hz C.ne M l2 C.ndI C.memI))) (by kernel_rfl)
 .exact gC (iE w.params it fr lc) (iD w.params) (v1:=λu=> .int v u) (i4 w it (v:=v) (t1:=P) (t2:=Q) (t3:=A) U) (λu _=>tk _ (s9 w fr lc k cps t nd hr ha S d e W V st O T B sl (v,u))) X rfl (λb y h=>⟨y,h,rfl,rfl⟩) (λb=>⟨rfl,rfl,rfl⟩) [0] [1] (λu z _ _=>gt _ u (dz w.params k cps t nd hr ha S d e W V (some ((v,u),O,some T)) z sl) (some T) (aG _ (nY (λac=>(d,z)) j J Y C.hz C.ne M l2 C.ndI C.memI))) (by kernel_rfl)
end
section
variable (w:E7) (fr lc it:Nat) (k:Nat×Nat×Nat×Nat×Nat) (cps:List Nat) (t nd hr ha S sd n2i:Nat) (ks:Nat×Nat×Nat×Nat) (V:Nat) (sl:SL) (Lf ld lde eh:Nat) (hm:MI) (Qf:List Lv->Prop)
def nX {w:E7} {fr S sd n2i:Nat} {ks:Nat×Nat×Nat×Nat} {V b d:Nat} {p n:Int×Nat} {r:List (Nat×Nat)} {F:Obj} (h:(decide (n.1< p.1) || !r.isEmpty)=false) (i:r.length<=6):PP (env w) (lK [(fr,F),(S,bd sd),(sd,be w.params ks n2i (.ref b) p n),(b,ae (r.map cv) d)] (.ret (.ref V))):=λ_ e=>
 .seg 0x3002000000000000002000000000002000000000002001 λO=> .use _ (vZ w S sd ks n2i b d p n r Bool.false h (by omega)) [1,1,1] [] λx g=> .seg 4 λf=>e () trivial [3,0,0,0] [] []
theorem q7 (q:Option ((Int×Nat)×Nat×Option Nat)) {v B:Int} {h i j r g:Nat} {p n:Int×Nat} {d:KA} {x:Nat×Nat} {W F l f D C:Nat} {E:MI} {ws e:List (Nat×Nat)} {I:List ai} {L:List Lv}
 (y:e.length<=6) (s:(decide (n.1< p.1) || !e.isEmpty)=false) (m:0< B) (o:Qf L):
 ab (env w) (iL w fr lc it v B h i j k cps t nd hr ha S sd n2i ks r g p n d x W F V l q f sl Lf ld D lde E hm eh ws e I C L Qf):=by
 rcases q with _ | ⟨st,O,_ | A⟩
 .exact gC (iE w.params it fr lc) (iD w.params) (v1:=λu=> .int v u) (i4 w it (v:=v) (t1:=h) (t2:=i) (t3:=j) m) (λu _=>tk _ (td w fr lc k cps t nd hr ha S d x W V f sl (v,u))) (N:=λb:Empty=>nomatch b) (P:=λ_=>True) (λb _=>nomatch b) rfl (λb=>nomatch b) (λb=>nomatch b) [0] [1] (λu z _ _=> .blk _ (b1 w.params) ((show ax (env w) (lK [(fr,eS w.params k cps t nd hr ha S (oz w.params d x W V z.1 (v,u)) z.2 sl),(S,bd sd),(sd,be w.params ks n2i (.ref r) p n),(r,ae (e.map cv) g)] (.ret (.ref V))) _ from aG _ (nX s y)).c _) (.ret (.ref V)) 4 [0,1,1,2] λ_ _=> .fin (.inr (L,l)) ⟨o,_,rfl⟩ 11 [10,10,11]) (by kernel_rfl)
 .exact gC (iE w.params it fr lc) (iD w.params) (v1:=λu=> .int v u) (i4 w it (v:=v) (t1:=h) (t2:=i) (t3:=j) m) (λu _=>tk _ (tc w fr lc k cps t nd hr ha S d x W V st O f sl (v,u))) (N:=λb:Empty=>nomatch b) (P:=λ_=>True) (λb _=>nomatch b) rfl (λb=>nomatch b) (λb=>nomatch b) [0] [1] (λu z _ _=> .blk _ (b1 w.params) ((show ax (env w) (lK [(fr,dz w.params k cps t nd hr ha S d x W V (some ((v,u),O,none)) z sl),(S,bd sd),(sd,be w.params ks n2i (.ref r) p n),(r,ae (e.map cv) g)] (.ret (.ref V))) _ from aG _ (nX s y)).c _) (.ret (.ref V)) 4 [0,1,1,2] λ_ _=> .fin (.inr (L,l)) ⟨o,_,rfl⟩ 11 [10,10,11]) (by kernel_rfl)
 .exact gC (iE w.params it fr lc) (iD w.params) (v1:=λu=> .int v u) (i4 w it (v:=v) (t1:=h) (t2:=i) (t3:=j) m) (λu _=>tk _ (s9 w fr lc k cps t nd hr ha S d x W V st O A f sl (v,u))) (N:=λb:Empty=>nomatch b) (P:=λ_=>True) (λb _=>nomatch b) rfl (λb=>nomatch b) (λb=>nomatch b) [0] [1] (λu z _ _=> .blk _ (b1 w.params) ((show ax (env w) (lK [(fr,dz w.params k cps t nd hr ha S d x W V (some ((v,u),O,some A)) z sl),(S,bd sd),(sd,be w.params ks n2i (.ref r) p n),(r,ae (e.map cv) g)] (.ret (.ref V))) _ from aG _ (nX s y)).c _) (.ret (.ref V)) 4 [0,1,1,2] λ_ _=> .fin (.inr (L,l)) ⟨o,_,rfl⟩ 11 [10,10,11]) (by kernel_rfl)
end
def ad (l:List (Nat×Nat)):List Nat:=l.map (·.1)
theorem oq {I:List ai} {c:Nat} {v:Int} {u:Nat} (f:(am I).Nodup) (d:c∈am I):az (aJ c (aO v u) I) c=v:=by
 obtain ⟨j,i,k,rfl,e,h,b⟩:=jP f d
 rw [lp h e b]
 unfold az
 rw [HB,List.find?_eq_none.mpr (λy g=>by simpa using h y g),List.find?_cons_of_pos (by simpa [aO] using e)]
 rfl
theorem vp:∀{b:List (Nat×Nat)} {I X:List ai} {r i:List (Nat×Nat)},cI b I r X i->(am I).Nodup->(∀s∈b,s.1∈am I)->(∀c∈ad b,((ad b).count c:Int)<=az I c)->
 (∀c,az X c=az I c-((ad b).count c:Nat))/\∃n,i=r++n/\(ad n).Nodup/\∀c,c∈ad n<->c∈ad b/\az I c=((ad b).count c:Nat)
 | [],I,X,r,i,⟨f,y⟩,m,hk,k=>by
  subst f;subst y
  exact ⟨λc=>by simp [ad],[],by simp,Gt,λc=>by simp [ad]⟩
 | s::b,I,X,r,i,⟨u,h⟩,m,hk,k=>by
  have F:=hk s EZ
  have C:(am (aJ s.1 (aO (az I s.1-1) u) I)).Nodup:=by rw [dg (bX _ _)];exact m
  have j:az (aJ s.1 (aO (az I s.1-1) u) I) s.1=az I s.1-1:=oq m F
  have d:∀c,s.1≠c->az (aJ s.1 (aO (az I s.1-1) u) I) c=az I c:=λc D=>lV (bX _ _) D
  have ct:∀c,(ad (s::b)).count c=(ad b).count c+if s.1=c then 1 else 0:=λc=>by
   unfold ad
   rw [Fu,List.count_cons]
   simp
  have A:∀c∈ad b,((ad b).count c:Int)<=az (aJ s.1 (aO (az I s.1-1) u) I) c:=λc B=>by
   have:=k c (E2 _ B)
   rw [ct] at this
   by_cases q:s.1=c
   .subst q
    rw [j]
    simp at this
    omega
   .rw [d c q]
    simp [q] at this
    omega
  obtain ⟨a,n,g,p,l⟩:=vp h C (λx G=>by rw [dg (bX _ _)];exact hk x (E2 _ G)) A
  have t:∀c,az X c=az I c-((ad (s::b)).count c:Nat):=λc=>by
   rw [a c,ct]
   by_cases q:s.1=c
   .subst q
    rw [j]
    simp
    omega
   .rw [d c q]
    simp [q]
  have f:=k s.1 EZ
  rw [ct] at f
  simp at f
  by_cases v:az I s.1-1=0
  .rw [if_pos v] at g
   have w:(ad b).count s.1=0:=by omega
   have E:s.1∉ad b:=Hl.mp w
   refine ⟨t,s::n,by rw [g];simp, ?_,λc=> ?_⟩
   .show (s.1::ad n).Nodup
    rw [GO]
    exact ⟨λz=>E ((l s.1).mp z).1,p⟩
   .show c∈s.1::ad n<->c∈s.1::ad b/\_
    rw [ct,GP,GP,l c]
    by_cases q:s.1=c
    .subst q
     simp
     omega
    .have o:¬c=s.1:=λz=>q z.symm
     simp only [o,q,false_or,if_false,Nat.add_zero,d c q]
  .rw [if_neg v] at g
   refine ⟨t,n,g,p,λc=> ?_⟩
   show c∈ad n<->c∈s.1::ad b/\_
   rw [ct,GP,l c]
   by_cases q:s.1=c
   .subst q
    rw [j]
    simp only [if_true,true_or,true_and]
    constructor
    .rintro ⟨_,e⟩;omega
    .intro e
     have hp:0< (ad b).count s.1:=by omega
     exact ⟨HY.mp hp,by omega⟩
   .have o:¬c=s.1:=λz=>q z.symm
    simp only [o,q,false_or,if_false,Nat.add_zero,d c q]
def ba (s:Nat->List Nat):List Nat->Nat->Nat
 | [],_=>0
 | p::b,c=>(s p).count c+ba s b c
theorem xI {I:List ai} {s:Nat->List Nat} (d:(am I).Nodup) (f:∀i∈I,ad i.su=s i.node.1) {c:Nat} (b:c∈am I):ad (bj I c)=s c:=by
 obtain ⟨i,h,e⟩:=Gj.mp b
 have:=jM d h
 rw [e] at this
 rw [this,f i h,e]
theorem qR {I X:List ai} {s:Nat->List Nat} (hk:am X=am I) (k:X.map (·.su)=I.map (·.su)) (j:∀i∈I,ad i.su=s i.node.1):∀i∈X,ad i.su=s i.node.1:=by
 intro i g
 obtain ⟨n,b,e⟩:=Is.mp g
 have f:X.length=I.length:=by have:=congrArg Fl hk;simpa [am] using this
 have h:(am X)[n]? =(am I)[n]? :=by rw [hk]
 have d:(X.map (·.su))[n]? =(I.map (·.su))[n]? :=by rw [k]
 unfold am at h
 rw [Fi,Fi,Ff b,Ff (f▸b),e] at h
 rw [Fi,Fi,Ff b,Ff (f▸b),e] at d
 simp only [GA,Option.some.injEq] at h d
 rw [h,d]
 exact j _ (List.getElem_mem _)
theorem u9 {s:Nat->List Nat}:∀{b:List (Nat×Nat)} {I g:List ai} {J L:List (Nat×Nat)},ec b I J g L->(am I).Nodup->(∀i∈I,ad i.su=s i.node.1)->(∀p∈ad b,p∈am I)->(ad b).Nodup->(∀p∈ad b,∀c∈s p,c∈am I/\c∉ad b)->
 (∀c,c∉ad b->0< ba s (ad b) c->(ba s (ad b) c:Int)<=az I c)->
 am g=am I/\(∀i∈g,ad i.su=s i.node.1)/\(∀c∈am I,az g c=if c∈ad b then-2 else az I c-(ba s (ad b) c:Nat))/\∃Q,L=J++Q/\(ad Q).Nodup/\∀c,c∈ad Q<->0< ba s (ad b) c/\az I c=(ba s (ad b) c:Nat)
 | [],I,g,J,L,⟨t,N⟩,m,B,hk,hp,n,v=>by
  subst t;subst N
  exact ⟨rfl,B,λc _=>by simp [ad,ba],[],by simp,Gt,λc=>by simp [ad,ba]⟩
 | p::b,I,g,J,L,⟨u,R,Iz,t,N⟩,m,B,hk,hp,n,v=>by
  have It:p.1∉ad b/\(ad b).Nodup:=GO.mp hp
  have X:=hk p.1 EZ
  have o:=xI m B X
  have E:am (aJ p.1 (aO (-2) u) I)=am I:=dg (bX _ _) I
  have H:∀c,p.1≠c->az (aJ p.1 (aO (-2) u) I) c=az I c:=λc A=>lV (bX _ _) A
  have ac:az (aJ p.1 (aO (-2) u) I) p.1= -2:=oq m X
  have C:∀c∈s p.1,c∈am I/\c∉ad (p::b):=n p.1 EZ
  have A:∀c∈s p.1,p.1≠c:=λc h z=>(C c h).2 (by rw [<-z];exact EZ)
  obtain ⟨a,F,Iu,V,T⟩:=vp t (by rw [E];exact m) (λx d=>by rw [E];exact (C x.1 (o▸Fa d)).1) (λc h=>by
   rw [o] at h⊢
   rw [H c (A c h)]
   have:=v c (C c h).2 (by show 0< (s p.1).count c+ba s (ad b) c;have:=HY.mpr h;omega)
   have e:ba s (ad (p::b)) c=(s p.1).count c+ba s (ad b) c:=rfl
   rw [e] at this
   omega)
  obtain ⟨_,Z,ks,_,_⟩:=cI.keeps t
  have r:am R=am I:=Z.trans E
  have Iw:∀i∈aJ p.1 (aO (-2) u) I,ad i.su=s i.node.1:=qR E (by
   unfold aJ
   rw [GS]
   refine Gx λi _=> ?_
   show (if i.node.1=p.1 then _ else i).su=i.su
   split<;>rfl) B
  have Ix:=qR Z ks Iw
  have j:∀c,az R c=az (aJ p.1 (aO (-2) u) I) c-((s p.1).count c:Nat):=λc=>by rw [a c,o]
  obtain ⟨b1,b2,b3,G,Iv,W,U⟩:=u9 N (by rw [r];exact m) Ix (λx d=>by rw [r];exact hk x (E2 _ d)) It.2 (λx d c h=>by
   rw [r]
   have:=n x (E2 _ d) c h
   exact ⟨this.1,λz=>this.2 (E2 _ z)⟩) (λc io D=>by
   have f:p.1≠c:=λz=>by
    have:∀(l:List Nat),(∀x∈l,x∈ad b)->ba s l c=0:=by
     intro l k
     induction l with
     | nil=>rfl
     | cons x l P=>
      have M:(s x).count c=0:=Hl.mpr λh=>(n x (E2 _ (k x EZ)) c h).2 (by rw [<-z];exact EZ)
      show (s x).count c+ba s l c=0
      rw [M,P λy q=>k y (E2 _ q)]
    rw [this _ λx d=>d] at D
    omega
   rw [j c,H c f]
   have:=v c (λz=>by
    rcases GP.mp z with z | z
    .exact f z.symm
    .exact io z) (by show 0< (s p.1).count c+ba s (ad b) c;omega)
   have e:ba s (ad (p::b)) c=(s p.1).count c+ba s (ad b) c:=rfl
   rw [e] at this
   omega)
  have O:(s p.1).count p.1=0:=Hl.mpr λh=>A p.1 h rfl
  have Y:ba s (ad b) p.1=0:=by
   have:∀(l:List Nat),(∀x∈l,x∈ad b)->ba s l p.1=0:=by
    intro l k
    induction l with
    | nil=>rfl
    | cons x l P=>
     have M:(s x).count p.1=0:=Hl.mpr λh=>(n x (E2 _ (k x EZ)) p.1 h).2 EZ
     show (s x).count p.1+ba s l p.1=0
     rw [M,P λy q=>k y (E2 _ q)]
   exact this _ λx d=>d
  refine ⟨b1.trans r,b2,λc gt=> ?_,F++G,by rw [Iv,Iu,Fm], ?_,λc=> ?_⟩
  .rw [b3 c (by rw [r];exact gt)]
   show (if c∈ad b then (-2:Int) else _)=if c∈p.1::ad b then-2 else az I c-((s p.1).count c+ba s (ad b) c:Nat)
   by_cases w:c∈ad b
   .rw [if_pos w,if_pos (E2 _ w)]
   .rw [if_neg w]
    by_cases f:p.1=c
    .subst f
     rw [if_pos EZ,j,ac,O,Y]
     simp
    .rw [if_neg (λz=>(GP.mp z).elim (λz=>f z.symm) w),j c,H c f]
     omega
  .unfold ad at V W⊢
   rw [Fd,Gk]
   refine ⟨V,W,λx d y q z=> ?_⟩
   subst z
   have S:=(T x).mp d
   have g2:=(U x).mp q
   rw [o] at S
   rw [j x,S.2] at g2
   omega
  .show c∈ad (F++G)<->0< (s p.1).count c+ba s (ad b) c/\az I c=((s p.1).count c+ba s (ad b) c:Nat)
   have rw:c∈ad (F++G)<->c∈ad F\/c∈ad G:=by unfold ad;rw [Fd,GB]
   rw [rw,T c,U c,o,j c]
   by_cases f:p.1=c
   .subst f
    rw [ac,O,Y]
    constructor
    .rintro (⟨h,_⟩ | ⟨h,_⟩)
     .exact absurd h (Hl.mp O)
     .omega
    .rintro ⟨h,_⟩;omega
   .rw [H c f]
    constructor
    .rintro (⟨h,e⟩ | ⟨h,e⟩)
     .have Iy:=HY.mpr h
      refine ⟨by omega, ?_⟩
      by_cases D:0< ba s (ad b) c
      .have:=v c (C c h).2 (by show 0< (s p.1).count c+ba s (ad b) c;omega)
       have e':ba s (ad (p::b)) c=(s p.1).count c+ba s (ad b) c:=rfl
       rw [e'] at this
       omega
      .omega
     .exact ⟨by omega,by omega⟩
    .rintro ⟨h,e⟩
     by_cases D:0< ba s (ad b) c
     .exact .inr ⟨D,by omega⟩
     .exact .inl ⟨HY.mp (by omega),by omega⟩
def mx (l:List Int):Int:=l.foldr max 0
theorem gV:∀l:List Int,0<=mx l
 | []=>Int.le_refl _
 | x::l=>by have:=gV l;show 0<=max x (mx l);omega
theorem gh:∀{l:List Int} {x:Int},x∈l->x<=mx l
 | y::l,x,h=>by
  show x<=max y (mx l)
  rcases GP.mp h with rfl | h
  .omega
  .have:=gh h;omega
theorem fQ:∀{l:List Int} {b:Int},(∀x∈l,x<=b)->0<=b->mx l<=b
 | [],b,_,h=>h
 | y::l,b,h,d=>by
  show max y (mx l)<=b
  have:=fQ (l:=l) (λx e=>h x (E2 _ e)) d
  have:=h y EZ
  omega
theorem i5:∀{l:List Int},mx l=0\/mx l∈l
 | []=> .inl rfl
 | y::l=>by
  show max y (mx l)=0\/max y (mx l)∈y::l
  by_cases b:y<=mx l
  .rw [show max y (mx l)=mx l by omega]
   rcases i5 (l:=l) with h | h
   .exact .inl h
   .exact .inr (E2 _ h)
  .rw [show max y (mx l)=y by omega]
   exact .inr EZ
def ft (pre:Nat->List Nat) (h:Nat->Int):Nat->Nat->Int
 | 0,_=>0
 | n+1,c=>h c+mx ((pre c).map (ft pre h n))
def Fn (b:List Nat) (pre:Nat->List Nat) (h:Nat->Int) (c:Nat):Int:=ft pre h (b.length+1) c
def An (b:List Nat) (pre:Nat->List Nat) (h:Nat->Int) (c:Nat):Int:=mx ((pre c).map (Fn b pre h))
structure cH (cps:List Nat) (pre:Nat->List Nat) (h:Nat->Int):Prop where
 nd:cps.Nodup
 pos:∀c∈cps,0<=h c
 ord:∀c∈cps,∀p∈pre c,p∈cps/\cps.idxOf p< cps.idxOf c
section
variable {cps:List Nat} {pre:Nat->List Nat} {h:Nat->Int}
theorem uU (g:cH cps pre h):∀(n:Nat) (c:Nat),c∈cps->cps.idxOf c< n->ft pre h n c=ft pre h (n+1) c
 | 0,c,_,b=>absurd b (Nat.not_lt_zero _)
 | n+1,c,e,b=>by
  show h c+mx ((pre c).map (ft pre h n))=h c+mx ((pre c).map (ft pre h (n+1)))
  have:(pre c).map (ft pre h n)=(pre c).map (ft pre h (n+1)):=Gx λp hp=>by
   obtain ⟨d,f⟩:=g.ord c e p hp
   exact uU g n p d (by omega)
  rw [this]
theorem d9 (g:cH cps pre h) {c:Nat} (d:c∈cps):Fn cps pre h c=h c+An cps pre h c:=by
 show h c+mx ((pre c).map (ft pre h cps.length))=h c+mx ((pre c).map (Fn cps pre h))
 have:(pre c).map (ft pre h cps.length)=(pre c).map (Fn cps pre h):=Gx λp hp=>by
  obtain ⟨b,e⟩:=g.ord c d p hp
  have:=Gr b
  exact uU g _ p b this
 rw [this]
theorem fW (c:Nat):0<=An cps pre h c:=gV _
theorem ET (g:cH cps pre h) {c:Nat} (b:c∈cps):An cps pre h c<=Fn cps pre h c:=by
 have:=d9 g b
 have:=g.pos c b
 omega
theorem kY (c:Nat) {p:Nat} (hp:p∈pre c):Fn cps pre h p<=An cps pre h c:=gh (Fa hp)
theorem iT (g:cH cps pre h) {P:Nat->Prop} (f:∀c∈cps,(∀p∈pre c,P p)->P c):∀c∈cps,P c:=by
 have k:∀(n:Nat) (c:Nat),c∈cps->cps.idxOf c< n->P c:=by
  intro n
  induction n with
  | zero=>intro c _ d;exact absurd d (Nat.not_lt_zero _)
  | succ n i=>
   intro c b d
   refine f c b λp hp=> ?_
   obtain ⟨e,j⟩:=g.ord c b p hp
   exact i p e (by omega)
 exact λc b=>k (cps.idxOf c+1) c b (Nat.lt_succ_self _)
end
def bc (b:List Nat) (pre:Nat->List Nat) (p:Nat):List Nat:=b.flatMap λx=>FV ((pre x).count p) x
theorem nq (pre:Nat->List Nat) (p c:Nat):∀{b:List Nat},b.Nodup->(bc b pre p).count c=if c∈b then (pre c).count p else 0
 | [],_=>rfl
 | x::b,h=>by
  rw [GO] at h
  have i:=nq pre p c h.2
  unfold bc at i⊢
  rw [GN,List.count_append,i,List.count_replicate]
  by_cases q:x=c
  .subst q
   simp [h.1]
  .have d:¬c=x:=λz=>q z.symm
   simp [q,d]
theorem iG {b:List Nat} {pre:Nat->List Nat} {p c:Nat}:c∈bc b pre p<->c∈b/\p∈pre c:=by
 unfold bc
 rw [List.mem_flatMap]
 constructor
 .rintro ⟨x,d,h⟩
  rw [List.mem_replicate] at h
  obtain ⟨e,rfl⟩:=h
  exact ⟨d,HY.mp (by omega)⟩
 .rintro ⟨h,hp⟩
  exact ⟨c,h,List.mem_replicate.mpr ⟨by have:=HY.mpr hp;omega,rfl⟩⟩
def cC (pre:Nat->List Nat) (D:List Nat) (c:Nat):Nat:=((pre c).filter λp=>decide (p∉D)).length
theorem jG {pre:Nat->List Nat} {D:List Nat} {c:Nat}:cC pre D c=0<->∀p∈pre c,p∈D:=by
 unfold cC
 rw [GJ,List.filter_eq_nil_iff]
 simp
theorem uV (D:List Nat) (p:Nat) (hp:p∉D):∀l:List Nat,(l.filter λx=>decide (x∉D)).length=(l.filter λx=>decide (x∉p::D)).length+l.count p
 | []=>rfl
 | x::l=>by
  have i:=uV D p hp l
  rw [GI,GI,List.count_cons]
  by_cases q:x=p
  .subst q
   simp [hp]
   simp at i
   omega
  .by_cases h:x∈D
   .simp [h,q]
    simpa using i
   .simp [h,q]
    have:(l.filter λb=>decide (b∉D)).length=_:=i
    simp at this
    omega
theorem qj {b:List Nat} {pre:Nat->List Nat} (g:b.Nodup) {c:Nat} (e:c∈b):∀{os D:List Nat},os.Nodup->(∀p∈os,p∉D)->cC pre D c=cC pre (os++D) c+ba (bc b pre) os c
 | [],D,_,_=>by simp [ba]
 | p::os,D,d,f=>by
  rw [GO] at d
  have m:=qj (pre:=pre) g e (os:=os) (D:=p::D) d.2 λq i z=>by
   rcases GP.mp z with z | z
   .exact d.1 (z▸i)
   .exact f q (E2 _ i) z
  have j:cC pre D c=cC pre (p::D) c+(pre c).count p:=uV D p (f p EZ) (pre c)
  have k:ba (bc b pre) (p::os) c=(pre c).count p+ba (bc b pre) os c:=by
   show (bc b pre p).count c+_=_
   rw [nq pre p c g,if_pos e]
  have l:cC pre (p::os++D) c=cC pre (os++p::D) c:=by
   unfold cC
   refine congrArg Fl (List.filter_congr λx _=> ?_)
   simp only [GB,GP,H4]
   rw [decide_eq_decide]
   constructor<;>intro h z<;>apply h
   .rcases z with z | z | z
    .exact .inr (.inl z)
    .exact .inl z
    .exact .inr (.inr z)
   .rcases z with z | z | z
    .exact .inr (.inl z)
    .exact .inl z
    .exact .inr (.inr z)
  omega
theorem mX {cps:List Nat} {pre:Nat->List Nat} {c:Nat}:∀{os:List Nat},0< ba (bc cps pre) os c<->c∈cps/\∃p∈os,p∈pre c
 | []=>by simp [ba]
 | p::os=>by
  have i:=mX (cps:=cps) (pre:=pre) (c:=c) (os:=os)
  have e:ba (bc cps pre) (p::os) c=(bc cps pre p).count c+ba (bc cps pre) os c:=rfl
  rw [e]
  constructor
  .intro h
   by_cases q:0< (bc cps pre p).count c
   .have:=iG.mp (HY.mp q)
    exact ⟨this.1,p,EZ,this.2⟩
   .obtain ⟨f,x,b,g⟩:=i.mp (by omega)
    exact ⟨f,x,E2 _ b,g⟩
  .rintro ⟨d,x,b,hp⟩
   rcases GP.mp b with rfl | b
   .have:=HY.mpr (iG.mpr ⟨d,hp⟩)
    omega
   .have:=i.mpr ⟨d,x,b,hp⟩
    omega
theorem mi {m:MI} {c d t:Nat} {v:Int×Nat}:aa (aw m c t v) d=if c=d then v.1 else aa m d:=by
 have l:look? (aw m c t v) d=if c=d then some v else look? m d:=by
  induction m with
  | nil=>unfold aw look?;split<;>rfl
  | cons x m i=>
   obtain ⟨k,u,y⟩:=x
   unfold aw
   by_cases hk:k=c
   .rw [if_pos hk]
    subst hk
    unfold look?
    split<;>rfl
   .rw [if_neg hk,look?,look?,i]
    by_cases h:k=d
    .rw [if_pos h,if_pos h,if_neg (λz=>hk (h.trans z.symm))]
    .rw [if_neg h,if_neg h]
 unfold aa
 rw [l]
 split<;>rfl
theorem oS {m:MI} {c t:Nat} {v:Int×Nat} (h:c∈ak m):ak (aw m c t v)=ak m:=by
 induction m with
 | nil=>cases h
 | cons x m i=>
  obtain ⟨k,u,y⟩:=x
  unfold aw
  by_cases hk:k=c
  .rw [if_pos hk];rfl
  .rw [if_neg hk]
   have b:c∈ak m:=(GP.mp h).resolve_left (λz=>hk z.symm)
   show k::ak (aw m c t v)=k::ak m
   rw [i b]
theorem qQ:∀{ws:List (Nat×Nat)} {m d:MI},jA ws m d->(ad ws).Nodup->(∀c∈ad ws,c∈ak m)->ak d=ak m/\∀c,aa d c=if c∈ad ws then aa m c-1 else aa m c
 | [],m,d,h,_,_=>by
  have h:d=m:=h
  subst h
  exact ⟨rfl,λc=>by simp [ad]⟩
 | x::ws,m,d,⟨u,h⟩,g,hk=>by
  have e:x.1∉ad ws/\(ad ws).Nodup:=GO.mp g
  have k:=oS (t:=x.2) (v:=(aa m x.1-1,u)) (hk x.1 EZ)
  obtain ⟨a,b⟩:=qQ h e.2 λc f=>by rw [k];exact hk c (E2 _ f)
  refine ⟨a.trans k,λc=> ?_⟩
  rw [b c,mi]
  show _=if c∈x.1::ad ws then _ else _
  by_cases q:x.1=c
  .subst q
   rw [if_neg e.1,if_pos rfl,if_pos EZ]
  .have i:¬c=x.1:=λz=>q z.symm
   rw [if_neg q]
   simp only [GP,i,false_or]
theorem BG {I:List ai} (f:(am I).Nodup):fC (ay I) I:=λi h=>by
 obtain ⟨j,R,l,e,m,_,_⟩:=fX f (Fa (f:=λi:ai=>i.node.1) h)
 rw [m]
 obtain ⟨n,x,o,rfl,p,b,d⟩:=jP f (Fa (f:=λi:ai=>i.node.1) h)
 have g:j=x:=by
  rcases GB.mp l with q | q
  .exact absurd e (b j q)
  .rcases GP.mp q with q | q
   .exact q
   .exact absurd e (d j q)
 have k:i=x:=by
  rcases GB.mp h with q | q
  .exact absurd rfl (b i q)
  .rcases GP.mp q with q | q
   .exact q
   .exact absurd rfl (d i q)
 rw [g,k]
theorem jg:∀(r:List (Nat×Nat)) (I:List ai),am (db r I)=am I
 | [],_=>rfl
 | p::r,I=>(jg r _).trans (dg (bX _ _) I)
theorem m8 {s:Nat->List Nat}:∀(r:List (Nat×Nat)) (I:List ai),(∀i∈I,ad i.su=s i.node.1)->∀i∈db r I,ad i.su=s i.node.1
 | [],_,h=>h
 | p::r,I,h=>m8 r _ (by
  intro i b
  obtain ⟨j,d,rfl⟩:=Gj.mp b
  have:=h j d
  split
  .exact this
  .exact this)
theorem tw:∀(r:List (Nat×Nat)) (I:List ai),(am I).Nodup->(∀p∈ad r,p∈am I)->∀c,az (db r I) c=if c∈ad r then-1 else az I c
 | [],I,_,_,c=>by simp [ad,db]
 | p::r,I,b,h,c=>by
  have i:=tw r (aJ p.1 (aO (-1) 1766) I) (by rw [dg (bX _ _)];exact b) (λq d=>by rw [dg (bX _ _)];exact h q (E2 _ d)) c
  show az (db r (aJ p.1 (aO (-1) 1766) I)) c=if c∈p.1::ad r then-1 else az I c
  rw [i]
  by_cases q:c∈ad r
  .rw [if_pos q,if_pos (E2 _ q)]
  .rw [if_neg q]
   by_cases e:p.1=c
   .subst e
    rw [if_pos EZ]
    exact oq b (h p.1 EZ)
   .rw [if_neg (λz=>(GP.mp z).elim (λz=>e z.symm) q)]
    exact lV (bX _ _) e
theorem dc {d:MI} {l:List (Nat×Nat)} {c:Nat}:c∈ad (aP d l)<->c∈ad l/\aa d c=0:=by
 unfold ad aP
 constructor
 .intro h
  obtain ⟨x,b,rfl⟩:=Gj.mp h
  obtain ⟨f,g⟩:=Ia.mp b
  exact ⟨Fa f,by simpa using g⟩
 .rintro ⟨h,e⟩
  obtain ⟨x,b,rfl⟩:=Gj.mp h
  exact Fa (Ia.mpr ⟨b,by simpa using e⟩)
theorem gY {d:MI} {l:List (Nat×Nat)} {c:Nat}:c∈ad (bA d l)<->c∈ad l/\aa d c≠0:=by
 unfold ad bA
 constructor
 .intro h
  obtain ⟨x,b,rfl⟩:=Gj.mp h
  obtain ⟨f,g⟩:=Ia.mp b
  exact ⟨Fa f,by simpa using g⟩
 .rintro ⟨h,e⟩
  obtain ⟨x,b,rfl⟩:=Gj.mp h
  exact Fa (Ia.mpr ⟨b,by simpa using e⟩)
theorem tH {b:MI} {l:List (Nat×Nat)} (h:(ad l).Nodup):(ad (aP b l)).Nodup:=h.sublist (List.filter_sublist.map _)
theorem Bi {b:MI} {l:List (Nat×Nat)} (h:(ad l).Nodup):(ad (bA b l)).Nodup:=h.sublist (List.filter_sublist.map _)
theorem oP (b:MI):∀l:List (Nat×Nat),(aP b l).length+(bA b l).length=l.length
 | []=>rfl
 | x::l=>by
  have i:=oP b l
  unfold aP bA at i⊢
  rw [GI,GI]
  by_cases q:aa b x.1=0
  .simp [q] at i⊢;omega
  .simp [q] at i⊢;omega
theorem eV (l:List (Nat×Nat)):(ad l).length=l.length:=Fo ..
theorem iA:∀{l m:List Nat},l.Nodup->(∀c∈l,c∈m)->l.length<=m.length
 | [],_,_,_=>Gg _
 | x::l,m,h,d=>by
  rw [GO] at h
  have e:=d x EZ
  have i:=iA (m:=m.erase x) h.2 λc b=>(List.mem_erase_of_ne (λz:c=x=>h.1 (z▸b))).mpr (d c (E2 _ b))
  rw [List.length_erase_of_mem e] at i
  have:=List.length_pos_of_mem e
  rw [Fb]
  omega
theorem rt {pre:Nat->List Nat} {p:Nat}:∀{cps:List Nat},(∀c∈cps,(pre c).count p<=2)->(bc cps pre p).length<=2*cps.length
 | [],_=>Gg _
 | x::cps,h=>by
  have i:=rt (cps:=cps) λc b=>h c (E2 _ b)
  have:=h x EZ
  unfold bc at i⊢
  rw [GN,FU,HX,Fb]
  omega
def ES (b:List Nat) (pre:Nat->List Nat) (h:Nat->Int) (e:MI) (j:Nat) (l:Lv):Prop:=
 ∃d:List Nat,d.Nodup/\aH l.m=d.map (λc=>(c,aa e c))/\∀c,c∈d<->c∈b/\An b pre h c<=j/\(j:Int)< Fn b pre h c
def pU (b:List Nat) (pre:Nat->List Nat) (h:Nat->Int) (d:MI) (L:List Lv):Prop:=∀j l,L[j]? =some l->ES b pre h d j l
structure eX (cps:List Nat) (pre:Nat->List Nat) (h:Nat->Int) (hm:MI):Prop where
 g:cH cps pre h
 five:cps.length<=5
 two:∀c∈cps,∀p,(pre c).count p<=2
 hk:∀c∈cps,∃v,look? hm c=some v
 top:∀c∈cps,Fn cps pre h c<=20
structure bL (cps:List Nat) (pre:Nat->List Nat) (h:Nat->Int) (hm lm:MI) (ws rd:List (Nat×Nat)) (I:List ai) (LV:List Lv) (D:List Nat) (po nf:Int):Prop where
 key:am I=cps
 su:∀i∈I,ad i.su=bc cps pre i.node.1
 dsub:∀c∈D,c∈cps
 dnd:D.Nodup
 wsub:∀c∈ad ws,c∈cps/\c∉D
 nd:(ad (ws++rd)).Nodup
 rdy:∀c,c∈ad rd<->c∈cps/\c∉D/\c∉ad ws/\cC pre D c=0
 npx:∀c∈cps,az I c=if c∈D then-2 else if c∈ad ws then-1 else (cC pre D c:Int)
 dok:∀d∈D,(∀p∈pre d,p∈D)/\Fn cps pre h d<=LV.length
 wok:∀c∈ad ws,(∀p∈pre c,p∈D)/\An cps pre h c<=LV.length/\(LV.length:Int)<=Fn cps pre h c/\aa lm c=Fn cps pre h c-LV.length
 rok:∀c∈ad rd,An cps pre h c=LV.length
 lok:∀c∈cps,c∉D->c∉ad ws->aa lm c=h c
 pn:po-nf=ws.length
 lvs:pU cps pre h hm LV
 top:LV.length=0\/∃c∈cps,(LV.length:Int)<=Fn cps pre h c
 lkey:∀c∈cps,c∈ak lm
 llen:lm.length<=8
section
variable {cps:List Nat} {pre:Nat->List Nat} {h:Nat->Int} {hm lm:MI} {ws rd:List (Nat×Nat)} {I:List ai} {LV:List Lv} {D:List Nat} {po nf:Int}
theorem gZ {c:Nat}:c∈ad (ws++rd)<->c∈ad ws\/c∈ad rd:=by unfold ad;rw [Fd,GB]
theorem bL.both (C:eX cps pre h hm) (S:bL cps pre h hm lm ws rd I LV D po nf) {c:Nat} (g:c∈ad (ws++rd)):c∈cps/\c∉D/\(∀p∈pre c,p∈D)/\An cps pre h c<=LV.length/\(LV.length:Int)<=Fn cps pre h c/\aa lm c=Fn cps pre h c-LV.length:=by
 rcases gZ.mp g with q | q
 .have b:=S.wsub c q
  have d:=S.wok c q
  exact ⟨b.1,b.2,d.1,d.2.1,d.2.2.1,d.2.2.2⟩
 .obtain ⟨b,d,e,f⟩:=(S.rdy c).mp q
  have i:=S.rok c q
  have j:=S.lok c b d e
  have k:=d9 C.g b
  have l:=C.g.pos c b
  exact ⟨b,d,jG.mp f,by omega,by omega,by omega⟩
theorem bL.disj (S:bL cps pre h hm lm ws rd I LV D po nf) {c:Nat} (f:c∈cps) (g:c∉D) (b:c∉ad (ws++rd)):c∉ad ws/\c∉ad rd/\cC pre D c≠0:=by
 rw [gZ] at b
 have d:c∉ad ws:=λz=>b (.inl z)
 have e:c∉ad rd:=λz=>b (.inr z)
 exact ⟨d,e,λz=>e ((S.rdy c).mpr ⟨f,g,d,z⟩)⟩
theorem bL.few (C:eX cps pre h hm) (S:bL cps pre h hm lm ws rd I LV D po nf):(ws++rd).length<=5:=by
 rw [<-eV]
 exact FZ (iA S.nd λc b=>(S.both C b).1) C.five
theorem bL.rdsub (S:bL cps pre h hm lm ws rd I LV D po nf):∀p∈ad rd,p∈am I:=λp hp=>by rw [S.key];exact ((S.rdy p).mp hp).1
theorem bL.npr (C:eX cps pre h hm) (S:bL cps pre h hm lm ws rd I LV D po nf) {c:Nat} (b:c∈cps):az (db rd I) c=if c∈D then-2 else if c∈ad (ws++rd) then-1 else (cC pre D c:Int):=by
 rw [tw rd I (by rw [S.key];exact C.g.nd) S.rdsub c,S.npx c b]
 by_cases q:c∈ad rd
 .rw [if_pos q,if_neg ((S.rdy c).mp q).2.1,if_pos (gZ.mpr (.inr q))]
 .rw [if_neg q]
  by_cases e:c∈ad ws
  .rw [if_pos e,if_pos (gZ.mpr (.inl e))]
  .rw [if_neg e,if_neg (λz=>(gZ.mp z).elim e q)]
theorem bL.nextOut (C:eX cps pre h hm) (S:bL cps pre h hm lm ws rd I LV D po nf) {s p:Nat} (hp:p∈ad (aP lm (ws++rd))) (f:s∈bc cps pre p):s∈cps/\s∉ad (aP lm (ws++rd))/\s∉ad (ws++rd)/\s∉D:=by
 obtain ⟨e,b⟩:=iG.mp f
 have d:=S.both C (dc.mp hp).1
 have n:s∉ad (ws++rd):=λz=>d.2.1 ((S.both C z).2.2.1 p b)
 exact ⟨e,λz=>n (dc.mp z).1,n,λz=>d.2.1 ((S.dok s z).1 p b)⟩
theorem bL.stepC (C:eX cps pre h hm) (S:bL cps pre h hm lm ws rd I LV D po nf) (l:ws++rd≠[]):v6 lm hm ws rd I LV:=by
 have few:=S.few C
 have n:(am I).Nodup:=by rw [S.key];exact C.g.nd
 have f:(am (db rd I)).Nodup:=by rw [jg];exact n
 have m:=oP lm (ws++rd)
 have g:=m8 rd I S.su
 refine ⟨?_,l,by omega,S.nd,n,λp hp=>S.rdsub p.1 (Fa hp),⟨f,BG f, ?_,tH S.nd, ?_, ?_, ?_, ?_⟩,by omega, ?_, ?_, ?_⟩
 .rw [FU] at few;omega
 .intro p hp
  rw [jg,S.key]
  exact (S.both C (dc.mp (Fa (f:=(·.1)) hp)).1).1
 .intro p hp
  have hm:=(dc.mp (Fa (f:=(·.1)) hp:p.1∈ad (aP lm (ws++rd)))).1
  have b:=S.both C hm
  rw [S.npr C b.1,if_neg b.2.1,if_pos hm]
 .intro i e hp s j
  have:=g i e
  have k:s.1∈bc cps pre i.node.1:=by rw [<-this];exact Fa j
  have q:=S.nextOut C hp k
  rw [jg,S.key]
  exact ⟨q.1,q.2.1⟩
 .intro i e
  have:=g i e
  rw [<-eV,this]
  have:=rt (cps:=cps) (pre:=pre) (p:=i.node.1) λc d=>C.two c d _
  have:=C.five
  omega
 .simp;omega
 .intro p hp
  exact C.hk p.1 (S.both C (Fa hp)).1
 .have:=S.llen;omega
 .rcases S.top with q | ⟨c,d,q⟩
  .omega
  .have:=C.top c d;omega
theorem bL.ended (C:eX cps pre h hm) (S:bL cps pre h hm lm ws rd I LV D po nf) (f:aP lm (ws++rd)=[]):∀c∈cps,Fn cps pre h c<=LV.length->c∈D:=
 iT C.g λc d i j=>by
  have g:=ET C.g d
  have hp:∀p∈pre c,p∈D:=λp hp=>i p hp (by have:=kY (cps:=cps) (pre:=pre) (h:=h) c hp;omega)
  by_cases q:c∈D
  .exact q
  .exfalso
   have e:c∈ad (ws++rd):=by
    by_cases z:c∈ad (ws++rd)
    .exact z
    .exact absurd (jG.mpr hp) (S.disj d q z).2.2
   have b:=S.both C e
   have:c∈ad (aP lm (ws++rd)):=dc.mpr ⟨e,by omega⟩
   rw [f] at this
   cases this
theorem bL.doneOut (C:eX cps pre h hm) (S:bL cps pre h hm lm ws rd I LV D po nf) (e:ws=[]) (d:rd=[]):∀c∈cps,c∈D:=
 iT C.g λc b hp=>by
  by_cases q:c∈D
  .exact q
  .subst e;subst d
   exact absurd (jG.mpr hp) (S.disj b q (by simp [ad])).2.2
theorem bL.fin (C:eX cps pre h hm) (S:bL cps pre h hm lm ws rd I LV D po nf) (f:ws=[]) (e:rd=[]):(LV.length:Int)=mx (cps.map (Fn cps pre h)):=by
 have d:=S.doneOut C f e
 have i:mx (cps.map (Fn cps pre h))<=LV.length:=fQ (λx g=>by
  obtain ⟨c,b,rfl⟩:=Gj.mp g
  exact (S.dok c (d c b)).2) (by omega)
 have j:(LV.length:Int)<=mx (cps.map (Fn cps pre h)):=by
  rcases S.top with q | ⟨c,b,q⟩
  .have:=gV (cps.map (Fn cps pre h));omega
  .have:=gh (Fa (f:=Fn cps pre h) b);omega
 omega
theorem bL.next (C:eX cps pre h hm) (S:bL cps pre h hm lm ws rd I LV D po nf) {A:MI} {L:List Lv} {E:List ai} {u:List (Nat×Nat)} (ne:ws++rd≠[])
 (Iv:pQ (aP lm (ws++rd)) (bA lm (ws++rd)) lm hm LV (db rd I) A L E u):
 bL cps pre h hm A (bA lm (ws++rd)) u E L (ad (aP lm (ws++rd))++D) (po+rd.length) (nf+(aP lm (ws++rd)).length)/\
  ((aP lm (ws++rd)=[]/\L.length=LV.length+1)\/(aP lm (ws++rd)≠[]/\L.length=LV.length)):=by
 obtain ⟨IC,H⟩:=Iv
 have IE:(am I).Nodup:=by rw [S.key];exact C.g.nd
 have IF:(am (db rd I)).Nodup:=by rw [jg];exact IE
 have II:=m8 rd I S.su
 have t:am (db rd I)=cps:=(jg rd I).trans S.key
 have rw:∀p∈ad (aP lm (ws++rd)),p∉D:=λp hp=>(S.both C (dc.mp hp).1).2.1
 have Ix:=oP lm (ws++rd)
 have O:(ad (aP lm (ws++rd))).Nodup:=tH S.nd
 have B:∀c∈cps,cC pre D c=cC pre (ad (aP lm (ws++rd))++D) c+ba (bc cps pre) (ad (aP lm (ws++rd))) c:=λc g=>qj C.g.nd g O rw
 have v:∀c,0< ba (bc cps pre) (ad (aP lm (ws++rd))) c->c∈cps/\c∉D/\c∉ad (ws++rd):=λc r=>by
  obtain ⟨i,p,hp,k⟩:=mX.mp r
  have:=S.nextOut C hp (iG.mpr ⟨i,k⟩)
  exact ⟨i,this.2.2.2,this.2.2.1⟩
 obtain ⟨P,Q,d3,IJ,Y,IG,X⟩:=u9 H IF II (λp hp=>by rw [t];exact (S.both C (dc.mp hp).1).1) O (λp hp c g=>by
  have:=S.nextOut C hp g
  rw [t];exact ⟨this.1,this.2.1⟩) (λc _ r=>by
  have b:=v c r
  rw [S.npr C b.1,if_neg b.2.1,if_neg b.2.2]
  have:=B c b.1
  omega)
 rw [Hz] at Y
 subst Y
 have w:∀c,c∈ad u<->c∈cps/\c∉ad (aP lm (ws++rd))++D/\c∉ad (bA lm (ws++rd))/\cC pre (ad (aP lm (ws++rd))++D) c=0:=λc=>by
  rw [X c]
  constructor
  .rintro ⟨r,e⟩
   have b:=v c r
   rw [S.npr C b.1,if_neg b.2.1,if_neg b.2.2] at e
   have:=B c b.1
   refine ⟨b.1,λz=> ?_,λz=>b.2.2 (gY.mp z).1,by omega⟩
   rcases GB.mp z with z | z
   .exact b.2.2 (dc.mp z).1
   .exact b.2.1 z
  .rintro ⟨i,k,F,U⟩
   rw [GB,not_or] at k
   have V:c∉ad (ws++rd):=λz=>by
    by_cases q:aa lm c=0
    .exact k.1 (dc.mpr ⟨z,q⟩)
    .exact F (gY.mpr ⟨z,q⟩)
   have h6:=(S.disj i k.2 V).2.2
   have:=B c i
   rw [S.npr C i,if_neg k.2,if_neg V]
   exact ⟨by omega,by omega⟩
 have io:∀c∈cps,az E c=if c∈ad (aP lm (ws++rd))++D then-2 else if c∈ad (bA lm (ws++rd)) then-1 else (cC pre (ad (aP lm (ws++rd))++D) c:Int):=λc g=>by
  rw [d3 c (by rw [t];exact g)]
  have hu:=B c g
  by_cases q:c∈ad (aP lm (ws++rd))
  .rw [if_pos q,if_pos (F3 _ q)]
  .rw [if_neg q,S.npr C g]
   by_cases e:c∈D
   .rw [if_pos e,if_pos (FF _ e)]
    have:ba (bc cps pre) (ad (aP lm (ws++rd))) c=0:=by
     rcases Nat.eq_zero_or_pos (ba (bc cps pre) (ad (aP lm (ws++rd))) c) with z | z
     .exact z
     .exact absurd e (v c z).2.1
    omega
   .rw [if_neg e,if_neg (c:=c∈ad (aP lm (ws++rd))++D) (λz=>(GB.mp z).elim q e)]
    by_cases f:c∈ad (ws++rd)
    .rw [if_pos f,if_pos (gY.mpr ⟨f,λz=>q (dc.mpr ⟨f,z⟩)⟩)]
     have:ba (bc cps pre) (ad (aP lm (ws++rd))) c=0:=by
      rcases Nat.eq_zero_or_pos (ba (bc cps pre) (ad (aP lm (ws++rd))) c) with z | z
      .exact z
      .exact absurd f (v c z).2.2
     omega
    .rw [if_neg f,if_neg (λz=>f (gY.mp z).1)]
     omega
 have gt:(ad (bA lm (ws++rd)++u)).Nodup:=by
  unfold ad
  rw [Fd,Gk]
  exact ⟨Bi S.nd,IG,λm l y N z=>by subst z;exact ((w m).mp N).2.2.1 l⟩
 have R:(ad (aP lm (ws++rd))++D).Nodup:=by
  rw [Gk]
  exact ⟨O,S.dnd,λm l y N z=>by subst z;exact rw m l N⟩
 have T:∀c∈ad (aP lm (ws++rd))++D,c∈cps:=λc g=>by
  rcases GB.mp g with q | q
  .exact (S.both C (dc.mp q).1).1
  .exact S.dsub c q
 have Iu:∀c∈ad (bA lm (ws++rd)),c∈cps/\c∉ad (aP lm (ws++rd))++D:=λc g=>by
  have q:=gY.mp g
  have b:=S.both C q.1
  exact ⟨b.1,λz=>(GB.mp z).elim (λz=>q.2 (dc.mp z).2) b.2.1⟩
 have It:po+rd.length-(nf+(aP lm (ws++rd)).length)=(bA lm (ws++rd)).length:=by
  have:=S.pn
  rw [FU] at Ix
  omega
 rcases IC with ⟨o,⟨ID,W,G⟩,Z⟩ | ⟨o,G,Iy⟩
 .--a level
  subst G
  have M:bA lm (ws++rd)=ws++rd:=uW o
  have IB:u=[]:=by
   rw [o] at H
   exact H.2
  subst IB
  have hL:((LV++[ID]).length:Int)=LV.length+1:=by simp
  rw [M] at Z W
  have J:∀c∈ad (ws++rd),(LV.length:Int)< Fn cps pre h c:=λc g=>by
   have b:=S.both C g
   have:c∉ad (aP lm (ws++rd)):=by rw [o];simp [ad]
   have:¬aa lm c=0:=λz=>this (dc.mpr ⟨g,z⟩)
   omega
  obtain ⟨k1,k2⟩:=qQ Z S.nd λc g=>S.lkey c (S.both C g).1
  have Iz:∀c,c∈ad (ws++rd)<->c∈cps/\An cps pre h c<=LV.length/\(LV.length:Int)< Fn cps pre h c:=λc=>by
   constructor
   .intro g
    have b:=S.both C g
    exact ⟨b.1,b.2.2.2.1,J c g⟩
   .rintro ⟨i,k,F⟩
    by_cases z:c∈ad (ws++rd)
    .exact z
    .exfalso
     have hD:c∉D:=λy=>by have:=(S.dok c y).2;omega
     refine (S.disj i hD z).2.2 (jG.mpr λp hp=> ?_)
     have:=kY (cps:=cps) (pre:=pre) (h:=h) c hp
     exact S.ended C o p (C.g.ord c i p hp).1 (by omega)
  refine ⟨⟨P.trans t,Q,T,R,Iu,gt,w,io, ?_, ?_,(λc g=>nomatch g), ?_,It, ?_, ?_, ?_, ?_⟩, .inl ⟨o,by simp⟩⟩
  .intro d s
   rw [o] at s
   have s:d∈D:=s
   have:=S.dok d s
   refine ⟨λp hp=>FF _ (this.1 p hp),by omega⟩
  .intro c g
   rw [M] at g
   have b:=S.both C g
   have:=J c g
   refine ⟨λp hp=>FF _ (b.2.2.1 p hp),by omega,by omega, ?_⟩
   rw [k2 c,if_pos g]
   omega
  .intro c g i k
   rw [M] at k
   rw [k2 c,if_neg k]
   rw [gZ,not_or] at k
   exact S.lok c g (λz=>i (FF _ z)) k.1
  .intro j m l
   by_cases hj:j< LV.length
   .rw [List.getElem?_append_left hj] at l
    exact S.lvs j m l
   .rw [List.getElem?_append_right (by omega)] at l
    have Iw:j=LV.length:=by
     have:=(E8.mp l).1
     simp at this
     omega
    subst Iw
    simp at l
    subst l
    exact ⟨ad (ws++rd),S.nd,by rw [W];unfold ad;rw [GS];rfl,Iz⟩
  .right
   obtain ⟨m,l⟩:=List.exists_mem_of_ne_nil _ ne
   have ac:m.1∈ad (ws++rd):=Fa l
   have:=J _ ac
   exact ⟨m.1,(S.both C ac).1,by omega⟩
  .intro c g;rw [k1];exact S.lkey c g
  .have:(ak A).length=(ak lm).length:=by rw [k1]
   unfold ak at this
   simp at this
   have:=S.llen
   omega
 .subst G;subst Iy
  refine ⟨⟨P.trans t,Q,T,R,Iu,gt,w,io, ?_, ?_, ?_, ?_,It,S.lvs,S.top,S.lkey,S.llen⟩, .inr ⟨o,rfl⟩⟩
  .intro d s
   rcases GB.mp s with q | q
   .obtain ⟨q1,q2⟩:=dc.mp q
    have b:=S.both C q1
    exact ⟨λp hp=>FF _ (b.2.2.1 p hp),by omega⟩
   .have:=S.dok d q
    exact ⟨λp hp=>FF _ (this.1 p hp),this.2⟩
  .intro c g
   have b:=S.both C (gY.mp g).1
   exact ⟨λp hp=>FF _ (b.2.2.1 p hp),b.2.2.2⟩
  .intro c g
   obtain ⟨i,k,F,U⟩:=(w c).mp g
   have r:=((X c).mp g).1
   obtain ⟨_,p,hp,IA⟩:=mX.mp r
   have b:=dc.mp hp
   have b':=S.both C b.1
   have l1:=kY (cps:=cps) (pre:=pre) (h:=h) c IA
   have l2:An cps pre h c<=L.length:=fQ (λm l=>by
    obtain ⟨q,hq,rfl⟩:=Gj.mp l
    have:=jG.mp U q hq
    rcases GB.mp this with z | z
    .obtain ⟨z1,z2⟩:=dc.mp z
     have:=S.both C z1
     omega
    .exact (S.dok q z).2) (by omega)
   omega
  .intro c g i k
   rw [GB,not_or] at i
   refine S.lok c g i.2 λz=> ?_
   have z':=gZ (rd:=rd).mpr (.inl z)
   by_cases q:aa A c=0
   .exact i.1 (dc.mpr ⟨z',q⟩)
   .exact k (gY.mpr ⟨z',q⟩)
end
def cA (b:List Nat) (pre:Nat->List Nat) (h:Nat->Int) (d:MI) (L:List Lv):Prop:=(L.length:Int)=mx (b.map (Fn b pre h))/\pU b pre h d L
section
variable (w:E7) (fr lc it:Nat) (k:Nat×Nat×Nat×Nat×Nat) (cps:List Nat) (t nd hr ha S sd n2i:Nat) (ks:Nat×Nat×Nat×Nat) (V:Nat) (sl:SL) (Lf ld lde eh:Nat) (hm:MI) (pre:Nat->List Nat) (h:Nat->Int)
theorem bL.kM {l:MI} {ws r:List (Nat×Nat)} {I:List ai} {L:List Lv} {D:List Nat} {p n:Int} (S:bL cps pre h hm l ws r I L D p n):(L.length:Int)<=mx (cps.map (Fn cps pre h)):=by
 rcases S.top with q | ⟨c,b,q⟩
 .have:=gV (cps.map (Fn cps pre h));omega
 .have:=gh (Fa (f:=Fn cps pre h) b);omega
theorem tC {d:Type} {l:List d} {a b:Int} (h:a-b=(l.length:Int)) (k:a<=b):l=[]:=GJ.mp (by omega)
theorem tB {a b:Int} (h:a-b=0) (k:b< a):False:=by omega
theorem xO (C:eX cps pre h hm):∀(n:Nat) (q:Option ((Int×Nat)×Nat×Option Nat)) (v m:Int) (N O P M u:Nat) (p e:Int×Nat) (j:KA) (B:Nat×Nat) (W A y i l E:Nat) (o:MI) (ws r:List (Nat×Nat)) (I:List ai) (L:List Lv) (D:List Nat),
 bL cps pre h hm o ws r I L D p.1 e.1->(mx (cps.map (Fn cps pre h))-L.length).toNat+(cps.length-D.length)<=n->(n:Int)< m->
 ab (env w) (iL w fr lc it v m N O P k cps t nd hr ha S sd n2i ks M u p e j B W A V y q i sl Lf ld l lde o hm eh ws r I E L (cA cps pre h hm)):=by
 intro n
 induction n with
 | zero=>
  intro q v m N O P M u p e j B W A y i l E o ws r I L D Z Y X
  have few:=Z.few C
  have hk:=Z.kM
  have J:r.length<=6:=by rw [FU] at few;omega
  cases b:(decide (e.1< p.1) || !r.isEmpty) with
  | false=>
   refine q7 w fr lc it k cps t nd hr ha S sd n2i ks V sl Lf ld lde eh hm _ q J b (by omega) ?_
   rw [Bool.or_eq_false_iff] at b
   have hr:r=[]:=by simpa using b.2
   have H:ws=[]:=by
    have g:=b.1
    have d:=Z.pn
    simp at g
    exact tC d g
   exact ⟨Z.fin C H hr,Z.lvs⟩
  | true=>
   exfalso
   have s:ws++r≠[]:=λz=>by
    obtain ⟨rfl,rfl⟩:=List.append_eq_nil_iff.mp z
    have d:=Z.pn
    simp at b d
    exact tB d b
   obtain ⟨x,hx⟩:=List.exists_mem_of_ne_nil _ s
   have Q:=Z.both C (Fa (f:=(·.1)) hx:x.1∈ad (ws++r))
   have gt:∀c∈x.1::D,c∈cps:=λc F=>by
    rcases GP.mp F with rfl | F
    .exact Q.1
    .exact Z.dsub c F
   have:=iA (GO.mpr ⟨Q.2.1,Z.dnd⟩) gt
   rw [Fb] at this
   omega
 | succ n ih=>
  intro q v m N O P M u p e j B W A y i l E o ws r I L D Z Y X
  have few:=Z.few C
  have hk:=Z.kM
  have J:r.length<=6:=by rw [FU] at few;omega
  cases b:(decide (e.1< p.1) || !r.isEmpty) with
  | false=>
   refine q7 w fr lc it k cps t nd hr ha S sd n2i ks V sl Lf ld lde eh hm _ q J b (by omega) ?_
   rw [Bool.or_eq_false_iff] at b
   have hr:r=[]:=by simpa using b.2
   have H:ws=[]:=by
    have g:=b.1
    have d:=Z.pn
    simp at g
    exact tC d g
   exact ⟨Z.fin C H hr,Z.lvs⟩
  | true=>
   have s:ws++r≠[]:=λz=>by
    obtain ⟨rfl,rfl⟩:=List.append_eq_nil_iff.mp z
    have d:=Z.pn
    simp at b d
    exact tB d b
   refine xN w fr lc it k cps t nd hr ha S sd n2i ks V sl Lf ld lde eh hm _ q (Z.stepC C s) b (by omega) λj B W A u pu y l i rw Ix lv Iv Iu io I' Iw U ac=> ?_
   obtain ⟨f,G⟩:=Z.next C s U
   rw [<-ac] at f
   have It:=f.kM
   have R:=iA f.dnd f.dsub
   refine ih _ _ _ _ _ _ _ _ _ _ _ _ _ _ _ _ _ _ _ _ _ _ _ _ f ?_ (by omega)
   rw [FU] at R⊢
   rw [eV] at R⊢
   rcases G with ⟨T,G⟩ | ⟨T,G⟩
   .omega
   .have:=Hc.mpr T
    omega
end
theorem uT {I:List ai} {c p:Nat} {f:ai->ai} (h:ie f):(aJ c f I).find? (λi=>i.node.1==p)=(I.find? λi=>i.node.1==p).map λi=>if i.node.1=c then f i else i:=by
 unfold aJ
 rw [List.find?_map]
 have hp:((λi:ai=>i.node.1==p)∘λi=>if i.node.1=c then f i else i)=λi=>i.node.1==p:=by
  funext i
  show ((if i.node.1=c then f i else i).node.1==p)=_
  split
  .rw [(h i).2]
  .rfl
 rw [hp]
theorem Dp {I:List ai} {p:Nat} (h:p∈am I):∃i,(I.find? λi=>i.node.1==p)=some i/\i.node.1=p:=by
 obtain ⟨i,d,e⟩:=Gj.mp h
 cases b:I.find? λi=>i.node.1==p with
 | none=>
  have:=List.find?_eq_none.mp b i d
  simp at this
  exact absurd e this
 | some j=>exact ⟨j,rfl,by simpa using List.find?_some b⟩
theorem Do {I:List ai} {p:Nat} (h:p∉am I):(I.find? λi=>i.node.1==p)=none:=
 List.find?_eq_none.mpr λi b z=>h (Gj.mpr ⟨i,b,by simpa using z⟩)
theorem xG {x:Nat×Nat} {I:List ai} {q p:Nat} (f:q∈am I):bj (aJ q (dr x) I) p=if q=p then bj I p++[x] else bj I p:=by
 unfold bj
 rw [uT (gB x)]
 by_cases e:q=p
 .subst e
  obtain ⟨i,b,h⟩:=Dp f
  rw [b,if_pos rfl,GA,if_pos h]
  rfl
 .rw [if_neg e]
  cases d:I.find? λi=>i.node.1==p with
  | none=>rfl
  | some i=>
   have h:i.node.1=p:=by simpa using List.find?_some d
   rw [GA,if_neg (λz=>e (z.symm.trans h))]
theorem A8 {x:Nat×Nat} {I:List ai} {q p:Nat}:az (aJ q (dr x) I) p=az I p:=by
 unfold az
 rw [uT (gB x)]
 cases h:I.find? λi=>i.node.1==p with
 | none=>rfl
 | some i=>
  rw [GA]
  show (if i.node.1=q then dr x i else i).np.1=i.np.1
  split<;>rfl
theorem qS (x:Nat×Nat) (p:Nat):∀(b:List (Nat×Nat)) (I:List ai),(∀q∈b,q.1∈am I)->ad (bj (cm x b I) p)=ad (bj I p)++FV ((ad b).count p) x.1
 | [],I,_=>by simp [cm,ad]
 | q::b,I,h=>by
  have i:=qS x p b (aJ q.1 (dr x) I) λr d=>by rw [dg (gB x)];exact h r (E2 _ d)
  show ad (bj (cm x b (aJ q.1 (dr x) I)) p)=ad (bj I p)++FV ((q.1::ad b).count p) x.1
  rw [i,xG (h q EZ),List.count_cons]
  by_cases e:q.1=p
  .rw [if_pos e]
   simp [e,ad,List.replicate_succ]
  .rw [if_neg e]
   simp [e]
theorem tv (x:Nat×Nat) (p:Nat):∀(b:List (Nat×Nat)) (I:List ai),az (cm x b I) p=az I p
 | [],I=>rfl
 | q::b,I=>(tv x p b _).trans A8
theorem xH {I:List ai} {n:ai} (h:n.su=[]) (p:Nat):bj (I++[n]) p=bj I p:=by
 unfold bj
 rw [HB]
 cases d:I.find? λi=>i.node.1==p with
 | some i=>rfl
 | none=>
  rw [Option.none_or,List.find?_cons]
  cases b:(n.node.1==p) with
  | true=>simp [h]
  | false=>simp
theorem A9 {I:List ai} {n:ai} {p:Nat} (h:n.node.1∉am I):az (I++[n]) p=if n.node.1=p then n.np.1 else az I p:=by
 unfold az
 rw [HB]
 by_cases e:n.node.1=p
 .rw [Do (e▸h),Option.none_or]
  simp [e]
 .rw [if_neg e]
  cases b:I.find? λi=>i.node.1==p with
  | some i=>rfl
  | none=>simp [e]
theorem vV {N:List NL}:∀{b:List Nat} {I d:List ai},d8 N b I->ed N b I d->
 am d=am I++b/\(∀p,az d p=if p∈b then ((au N p).length:Int) else az I p)/\∀p,ad (bj d p)=ad (bj I p)++bc b (λc=>ad (au N c)) p
 | [],I,d,C,h=>by
  have h:d=I:=h
  subst h
  exact ⟨by simp,λp=>by simp,λp=>by simp [bc]⟩
 | c::b,I,d,C,⟨t,u,v,f,g,o,j,h⟩=>by
  obtain ⟨k,hk⟩:=C.next f g j
  obtain ⟨l,m,n⟩:=vV k h
  have s:∀q∈au N c,q.1∈am I:=λq i=>(C.pre [] c b rfl q i).resolve_right (λz=>nomatch z)
  have r:u.node.1∉am I:=by rw [g];exact C.dis c EZ
  have w:=GO.mp C.ndr
  refine ⟨by rw [l,hk,Fm];rfl,λp=> ?_,λp=> ?_⟩
  .rw [m p]
   by_cases q:p∈b
   .rw [if_pos q,if_pos (E2 _ q)]
   .rw [if_neg q,f,tv,A9 r,g]
    by_cases e:c=p
    .subst e
     rw [if_pos rfl,if_pos EZ,o]
    .rw [if_neg (c:=(c,t).1=p) e,if_neg (λz=>(GP.mp z).elim (λz=>e z.symm) q)]
  .rw [n p,f,qS _ _ _ _ (λq i=>by
    unfold am
    rw [Fd]
    exact F3 _ (s q i)),xH j,Fm]
   rfl
structure bE (N:List NL) (cps:List Nat) (mh hm:MI):Prop where
 gc:eX cps (λc=>ad (au N c)) (aa mh) hm
 ne:cps≠[]
 mem:∀c∈cps,c∈aU N
 ndN:(aU N).Nodup
 few:∀x∈N,x.ps.length<=8
 mhl:mh.length<=8
 mhn:(ak mh).Nodup
 mhk:∀c∈cps,c∈ak mh
section
variable {N:List NL} {cps:List Nat} {mh hm:MI}
theorem bE.la (C:bE N cps mh hm):d8 N cps []:=by
 refine ⟨Gt,C.gc.g.nd,(λ_ _ z=>nomatch z),C.mem,C.ndN,(λa c b e p hp=> .inr ?_),C.few, ?_,(λ_ z=>nomatch z)⟩
 .have f:c∈cps:=by rw [e];simp
  obtain ⟨i,h⟩:=C.gc.g.ord c f p.1 (Fa hp)
  have d:=C.gc.g.nd
  rw [e] at h d
  by_cases q:p.1∈a
  .exact q
  .exfalso
   have g:c∉a:=λz=>(Gk.mp d).2.2 c z c EZ rfl
   rw [List.idxOf_append,List.idxOf_append,if_neg q,if_neg g,List.idxOf_cons_self] at h
   omega
 .have:=C.gc.five
  simp;omega
theorem bE.facts (C:bE N cps mh hm) {I:List ai} (h:ed N cps [] I):am I=cps/\(∀c∈cps,az I c=(au N c).length)/\∀i∈I,ad i.su=bc cps (λc=>ad (au N c)) i.node.1:=by
 obtain ⟨a,b,c⟩:=vV C.la h
 have hk:am I=cps:=a
 refine ⟨hk,λp hp=>by rw [b p,if_pos hp],λi d=> ?_⟩
 have:=c i.node.1
 rw [jM (by rw [hk];exact C.gc.g.nd) d] at this
 exact this
theorem bE.acy (C:bE N cps mh hm) {I:List ai} (h:ed N cps [] I):fH (λc=>cps.idxOf c) I:=by
 obtain ⟨a,b,c⟩:=C.facts h
 intro i g s j
 have e:s.1∈bc cps (λc=>ad (au N c)) i.node.1:=by rw [<-c i g];exact Fa j
 obtain ⟨d,f⟩:=iG.mp e
 exact ⟨(C.gc.g.ord s.1 d i.node.1 f).2,by rw [a];exact d⟩
theorem bE.nd (C:bE N cps mh hm) {I:List ai} (h:ed N cps [] I):(am I).Nodup:=by rw [(C.facts h).1];exact C.gc.g.nd
theorem bE.len (C:bE N cps mh hm) {I:List ai} (h:ed N cps [] I):I.length<=800:=by
 have b:=congrArg Fl (C.facts h).1
 have d:=C.gc.five
 unfold am at b
 rw [Fo] at b
 omega
theorem bE.nil (C:bE N cps mh hm) {I:List ai} (h:ed N cps [] I):I≠[]:=λz=>by
 have b:=(C.facts h).1
 rw [z] at b
 exact C.ne b.symm
theorem bE.zero (C:bE N cps mh hm) {I:List ai} (h:ed N cps [] I):(∀c,c∈ad (co I)<->c∈cps/\au N c=[])/\(ad (co I)).Nodup:=by
 obtain ⟨a,b,_⟩:=C.facts h
 have j:=C.nd h
 unfold ad co
 rw [GS]
 constructor
 .intro c
  constructor
  .intro m
   obtain ⟨i,f,rfl⟩:=Gj.mp m
   obtain ⟨d,g⟩:=Ia.mp f
   have k:i.node.1∈cps:=by rw [<-a];exact Fa (f:=λi:ai=>i.node.1) d
   have e:=b i.node.1 k
   rw [ku j d,show i.np.1=0 by simpa using g] at e
   have l:(au N i.node.1).length=0:=by omega
   exact ⟨k,GJ.mp l⟩
  .rintro ⟨d,g⟩
   rw [<-a] at d
   obtain ⟨i,f,rfl⟩:=Gj.mp d
   have e:=b i.node.1 (a▸d)
   rw [ku j f,g] at e
   exact Gj.mpr ⟨i,Ia.mpr ⟨f,by simpa using e⟩,rfl⟩
 .exact j.sublist (List.filter_sublist.map _)
theorem bE.inv (C:bE N cps mh hm) {I:List ai} (h:ed N cps [] I):bL cps (λc=>ad (au N c)) (aa mh) hm mh [] (co I) I [] [] 0 0:=by
 obtain ⟨a,b,c⟩:=C.facts h
 obtain ⟨e,g⟩:=C.zero h
 have u:∀c,cC (λc=>ad (au N c)) [] c=(au N c).length:=λc=>by unfold cC ad;rw [List.filter_eq_self.mpr (λ_ _=>by simp),Fo]
 refine ⟨a,c,λ_ z=>(nomatch z),Gt,λ_ z=>(nomatch z),g,λc=> ?_,λc d=> ?_,λ_ z=>(nomatch z),λ_ z=>(nomatch z),λc d=> ?_,λ_ _ _ _=>rfl,rfl,λj l f=> ?_, .inl rfl,C.mhk,C.mhl⟩
 .rw [e c,u]
  simp [ad]
 .rw [b c d,u]
  simp [ad]
 .show An cps (λc=>ad (au N c)) (aa mh) c=0
  have:(λc=>ad (au N c)) c=[]:=by show ad (au N c)=[];rw [((e c).mp d).2];rfl
  unfold An
  rw [this]
  rfl
 .simp at f
end
theorem DF (P:E6) (f l:Nat) (o:Obj) (h:o.isFreed=false):cn (b9 P f l,f,o):=⟨rfl,(by
 show (cW (kp P)).scope.kind≠ .module
 have:(cW (kp P)).scope.kind= .function:=(by kernel_rfl)
 rw [this];exact λz=>nomatch z),h⟩
def br:Obj:={cls:= .type "cell",data:= .cell none}
def nC (w:E7) (S s:Nat) (j:Nat×Nat×Nat×Nat) (n:Nat) (p o:Int×Nat) (m:Nat) (I:List ai) (e l:Nat) (k:Nat×Nat×Nat×Nat×Nat) (d:List Nat) (t nd g h:Nat) (i:Nat) (r:Nat×Nat) (f:Nat) (u:SL) (L:List aF) (b:List (Env×Addr×Obj)):af:={d:=100,α:=Nat×Nat×SL×List aF,c:= .call (.ref 1168) ⟨[.ref S],[]⟩,need:=[(S,bd s),(s,be w.params j n .none p o),(n,dO w.params (.type "dict") none .ref (ay I) m),(e,eS w.params k d t nd g h S (bP w.params i r) f u),(l,br)],r:=λx=> .ok (.ret .none),put:=λq=>[bd s,be w.params j n (.ref q.1) p o,dO w.params (.type "dict") none .ref (ay I) m,eS w.params k d t nd g h S (bP w.params i r) f q.2.2.1,br],new:=λx=>[(x.1,ae ((co I).map cv) x.2.1)],post:=λq=>aC q.2.2.2=b,needB:=[aB I,a8 L],putB:=λq=>[aB I,a8 q.2.2.2],outer:=some (b9 w.params e l::b.map (·.1))}
def jr (P:E6) (k:Nat×Nat×Nat×Nat×Nat) (b:List Nat) (t nd d h S:Nat) (e:Nat) (x:Nat×Nat):List E4:=[es P [110,97,109,101,115] k.1 (.str ⟨⟨b⟩⟩ t),es P [110,101,101,100,115] k.2.1 (.ref nd),es P [104,111,117,114,115] k.2.2.1 (.ref d),es P [104,97,110,100,115] k.2.2.2.1 (.ref h),es P [115,111,114,116,101,114] k.2.2.2.2 (.ref S)]++bP P e x
def z6 {w:E7} {S y:Nat} {n:Nat×Nat×Nat×Nat} {o:Nat} {u r:Int×Nat} {q:Nat} {I:List ai} {f l:Nat} {k:Nat×Nat×Nat×Nat×Nat} {b:List Nat} {t nd g e:Nat} {i:Nat} {j:Nat×Nat} {d:Nat} {s:SL} {L:List aF} {m:List (Env×Addr×Obj)} (C:aC (⟨b9 w.params f l,f,bD (jr w.params k b t nd g e S i j) d,s⟩::L)=(b9 w.params f l,f,bD (jr w.params k b t nd g e S i j) d)::m) (v:Nat->Nat) (D:(am I).Nodup) (bo:∀x∈(b9 w.params f l,f,bD (jr w.params k b t nd g e S i j) d)::m,cn x) (A:fH v I) (B:I.length<=800) (E:I≠[]):PP (env w) (nC w S y n o u r q I f l k b t nd g e i j d s L m):=λ_ F=>
 .view [3] [1] _ _ _ _ (qb (ev:=b9 w.params f l) (a:=f) (es:=jr w.params k b t nd g e S i j) (ep:=d) (sl:=s) (L:=L)) (.use _ (zR w S y n o u r q I (⟨b9 w.params f l,f,bD (jr w.params k b t nd g e S i j) d,s⟩::L) ((b9 w.params f l,f,bD (jr w.params k b t nd g e S i j) d)::m) C v D bo A B E) [0,0,0] [1,0] λx h=>
 .pick _ _ (iB h) λp hp=> .view [] [1] _ _ _ _ (ip hp.1) (F (x.1,x.2.1,p.1,p.2) hp.2 [1,1,1,0,1] [0] [1,0]))
theorem zV {N:List NL} {p j:MI} (w:E7) (S v:Nat) (n:Nat×Nat×Nat×Nat) (q:Nat) (u s:Int×Nat) (r:Nat) (I:List ai) (e o:Nat) (k:Nat×Nat×Nat×Nat×Nat) (d:List Nat) (t nd l i:Nat) (m:Nat) (A:Nat×Nat) (f:Nat) (y:SL) (L:List aF) (b:List (Env×Addr×Obj)) (g:aC L=b) (bo:∀x∈b,cn x) (C:bE N d p j) (h:ed N d [] I):ab (env w) (nC w S v n q u s r I e o k d t nd l i m A f y L b):=
 av (z6 (by show _::aC L=_;rw [g]) _ (C.nd h) (n4 (DF _ _ _ _ rfl) bo) (C.acy h) (C.len h) (C.nil h))
theorem B1 (w:E7) (g l j:Nat) (q o r s u:Nat) (b:List Nat) (t nd i h S v n:Nat) (k:Nat×Nat×Nat×Nat) (p m:Int×Nat) (x:SL) (N:List NL) (e:Nat) (f d:Nat) (y:b≠[]) (C:d8 N b []):ab (env w) {eJ w.params g l j 0 (q,o,r,s,u) b t nd i h S v n k p m [] f x N e b [] d with needB:=[bh N]}:=
 B3 w g l j (q,o,r,s,u) b t nd i h S v n k p m x N e f [] d y C
theorem xP {N:List NL} {m:MI} (w:E7) (i q l:Nat) (v y A B D:Nat) (b:List Nat) (t nd k j S G u:Nat) (p:Nat×Nat×Nat×Nat) (V:Nat) (H:SL) (L ld r e:Nat) (d:MI) (J M O E F u1 u2 n:Nat) (o:Nat×Nat) (R:Nat×Nat) (W Q P g s f:Nat) (I:List ai) (C:bE N b m d) (h:ed N b [] I):
 ab (env w) {iL w i q l 0 30 J M O (v,y,A,B,D) b t nd k j S G u p E F (0,u1) (0,u2) (n,o,(0,0),0) R W Q V P none g H L ld s r m d e [] (co I) I f [] (cA b (λc=>ad (au N c)) (aa m) d) with needB:=[aB I]}:=
 xO w i q l (v,y,A,B,D) b t nd k j S G u p V H L ld r e d (λc=>ad (au N c)) (aa m) C.gc 29 none 0 30 J M O E F (0,u1) (0,u2) (n,o,(0,0),0) R W Q P g s f m [] (co I) I [] [] (C.inv h) (by
  have X:mx (b.map (Fn b (λc=>ad (au N c)) (aa m)))<=20:=fQ (λx U=>by
   obtain ⟨c,T,rfl⟩:=Gj.mp U
   exact C.gc.top c T) (by omega)
  have Y:=C.gc.five
  show (_-((0:Nat):Int)).toNat+(_-0)<=29
  omega) (by omega)
theorem zT {N:List NL} {F E:MI} (w:E7) (S y:Nat) (j:Nat×Nat×Nat×Nat) (n:Nat) (p o:Int×Nat) (m:Nat) (I:List ai) (e l:Nat) (q r s u v:Nat) (d:List Nat) (t nd i g:Nat) (k:Nat) (B:Nat×Nat) (f:Nat) (A:SL) (L:List aF) (b:List (Env×Addr×Obj)) (D:aC L=b) (bo:∀x∈b,cn x) (C:bE N d F E) (h:ed N d [] I):ab (env w) (nC w S y j n p o m I e l (q,r,s,u,v) d t nd i g k B f A L b):=zV w S y j n p o m I e l (q,r,s,u,v) d t nd i g k B f A L b D bo C h
def r3 (w:E7) (nd i g:Nat) (b:List Nat) (t:Nat) (N:List NL) (e:Nat) (m:MI) (f:Nat) (h:MI) (d:Nat) (L:List aF) (S:List (Env×Addr×Obj)):af:={d:=115,α:=Nat×Nat×List Lv×List aF,c:= .call (.ref 1222) ⟨[.str ⟨⟨b⟩⟩ t, .ref nd, .ref i, .ref g],[]⟩,need:=[(nd,dO w.params (.type "dict") none .ref (aM N) e),(i,dO w.params (.type "dict") none iv m f),(g,dO w.params (.type "dict") none iv h d)],r:=λx=> .ok (.ret (.ref x.1)),put:=λq=>[dO w.params (.type "dict") none .ref (aM N) e,dO w.params (.type "dict") none iv m f,dO w.params (.type "dict") none iv h d],new:=λx=>[(x.1,ae ((aD x.2.2.1).map .ref) x.2.1)],post:=λq=>cA b (λc=>ad (au N c)) (aa m) h q.2.2.1/\aC q.2.2.2=S,needB:=[bh N,a8 L],putB:=λq=>[bh N,bq w.params q.2.2.1,a8 q.2.2.2],outer:=some (S.map (·.1))}
theorem BP (w:E7) (nd k l:Nat) (b:List Nat) (t:Nat) (N:List NL) (H:Nat) (m:MI) (M:Nat) (j:MI) (J:Nat) (L:List aF) (i:List (Env×Addr×Obj)) (C:bE N b m j) (X:aC L=i) (bo:∀gt∈i,cn gt) (U:∀c∈b,c< 128):ab (env w) (r3 w nd k l b t N H m M j J L i):=av (λ_ τ=> .seg 0x2002002002002002002002000000001 λO=> .seg 1 λO2=> .use _ (xU w) [] [] λx h3=> .seg 68803383301 λo=> .use _ (fL w b t U) [] [] λx5 h5=> .seg 1 λO6=> .use _ (B1 w (O 0) (O 1) x5 (O 2) (O 3) (O 4) (O 5) (o 0) b t nd k l (x.1.1) (x.1.2.1) (x.1.2.2) (x.2.1) (0,x.2.2.1) (0,x.2.2.2) (#[]) N H 5 0 C.ne C.la) [0,4,0,0,0,1] [0] λd Q=> .seg 0x3002000000000000002000000000002000000000002001 λO8=> .use _ ((λS E r u po nf ne I q s v y A B D k5 G p F h=>zT w S E r u po nf ne I q s v y A B D b t nd k l k5 G p F L i X bo C h) (x.1.1) (x.1.2.1) (x.2.1) (x.1.2.2) (0,x.2.2.1) (0,x.2.2.2) (d.2.1) (d.1) (O 0) (O 1) (O 2) (O 3) (O 4) (O 5) (o 0) (d.2.2.1) (d.2.2.2.1) (d.2.2.2.2) (#[]) Q) [1,1,1,0,1] [0,1] λg h9=> .seg 16384 λio=> .use _ (pv w k m M C.mhl C.mhn) [7] [] λn It=> .seg 0x1001001001001001001001001001001001001001001001001001001000000009009008008008008 λe=> .use _ ((λq s Y v y A B D S E u r V F R ld ac t1 t2 t3 rl rn u1 u2 Z k2 G W wn vn p le T I h=>xP w q s Y v y A B D b t nd k l S E u r V F R ld ac J j t1 t2 t3 rl rn u1 u2 Z k2 G W wn vn p le T I C h) (O 0) (O 1) (e 8) (O 2) (O 3) (O 4) (O 5) (o 0) (x.1.1) (x.1.2.1) (x.1.2.2) (x.2.1) (e 2) (g.2.2.1) (n.1) (n.2.1) (n.2.2.2) 0 0 0 (g.1) (g.2.1) (x.2.2.1) (x.2.2.2) (d.2.2.1) (e 1,e 3) (d.2.2.2.1) (e 0) 0 0 (d.2.2.2.2+1+1) (n.2.2.1) (d.2.1) (d.1) Q) [0,9,6,6,6,7,6,4,4,2,1,3] [0] λf P=>have Iu:(↑(Fl f.1):Int)=mx (Gv (Fn b (λ(c:Nat)=>ad (au N c)) (aa m)) b):=(Fv P);have Iv:pU b (λ(c:Nat)=>ad (au N c)) (aa m) j f.1:=(Fe P); .seg 0 λrw=>τ (e 2,f.2,f.1,g.2.2.2) (show cA b (λ(c:Nat)=>ad (au N c)) (aa m) j (e 2,f.2,f.1,g.2.2.2).2.2.1/\aC (e 2,f.2,f.1,g.2.2.2).2.2.2=i from (by trivial)) [4,3,1] [0] [2,0,0])
def rY (d l i n:Nat) (b:List (Int×Nat)) (x:Int×Nat):af:={d:=5,α:=Unit,need:=[(d,aW "list_iterator" l i),(l,ae (b.map iv) n)],r:=λu=> .ok (.ret (iv x)),put:=λu=>[aW "list_iterator" l (i+1),ae (b.map iv) n]}
def rZ (b l i n:Nat) (x:List (Int×Nat)):af:={d:=5,α:=Unit,need:=[(b,aW "list_iterator" l i),(l,ae (x.map iv) n)],r:=λu=> .ok .brk,put:=λu=>[iF "list_iterator" i,ae (x.map iv) n]}
theorem BJ {w:E7} {b l i n:Nat} {g:List (Int×Nat)} {x:Int×Nat} {d:Nat} {t:Ctx} (H:bt (env w) d t) (C:5<=d) (h:g[i]? =some x) {o s:Fc} {own:List Addr} {A r:List ao} {p:Pos} (m:List Nat) (G:Go (env w).kt o own s A.flatten) (D:take m (bg (rY b l i n g x).need++[]) A (· =r))
 {Q:Option E9->Pos->Fc->Prop} {E:E9->Pos->Fc->Prop} (B:∀e p,Go (env w).kt o own e ([(b,aW "list_iterator" l (i+1))]::[(l,ae (g.map iv) n)]::r).flatten->Q (some (iv x)) p e):wp (FQ pq w) t (pyNext (.ref b)) Q E p s:=by
 have q:=uK (t:=tN b) m (tk _ (λ_ I=> .seg 16781313 λO=> .use _ (cr w b l i n iv g x h) [0,0] [] λM L=> .seg 0 λJ=>I () trivial [0,0] [] []:PP (env w) (rY b l i n g x))) H C rfl G D (v0:=λu=> .ret (iv x)) (λ_=>rfl) (p:=p) (Q:=λf p e=>f= .ret (iv x)/\Q (some (iv x)) p e) (E:=λ_ _ _=>False) λu e p _ v=>⟨rfl,B e p v⟩
 unfold tN at q
 rw [E5] at q
 refine Fs _ _ _ (λr p F k=> ?_) (λ_ _ _ h=>h.elim) _ _ q
 cases r with
 | none=>obtain ⟨j,_⟩:Flow.brk= .ret (iv x)/\_:=k;cases j
 | some y=>
  obtain ⟨j,h⟩:Flow.ret y= .ret (iv x)/\Q (some (iv x)) p F:=k
  cases j
  exact h
theorem BS {w:E7} {b l i n:Nat} {x:List (Int×Nat)} {d:Nat} {m:Ctx} (H:bt (env w) d m) (v:5<=d) (h:x[i]? =none) {k s:Fc} {own:List Addr} {A r:List ao} {p:Pos} (j:List Nat) (G:Go (env w).kt k own s A.flatten) (B:take j (bg (rZ b l i n x).need++[]) A (· =r))
 {Q:Option E9->Pos->Fc->Prop} {E:E9->Pos->Fc->Prop} (t:∀e p,Go (env w).kt k own e ([(b,iF "list_iterator" i)]::[(l,ae (x.map iv) n)]::r).flatten->Q none p e):wp (FQ pq w) m (pyNext (.ref b)) Q E p s:=by
 have q:=uK (t:=tN b) j (tk _ (λ_ D=> .seg 16781313 λO=> .use _ (ch w b l i n iv x h) [0,0] [] λL I=> .seg 3 λF=>D () trivial [0,0] [] []:PP (env w) (rZ b l i n x))) H v rfl G B (v0:=λu=> .brk) (λ_=>rfl) (p:=p) (Q:=λf p e=>f= .brk/\Q none p e) (E:=λ_ _ _=>False) λu e p _ o=>⟨rfl,t e p o⟩
 unfold tN at q
 rw [E5] at q
 refine Fs _ _ _ (λr p J g=> ?_) (λ_ _ _ h=>h.elim) _ _ q
 cases r with
 | none=>exact g.2
 | some y=>obtain ⟨C,_⟩:Flow.ret y= .brk/\_:=g;cases C
def eI (d l i n S c:Nat) (x r:List (Int×Nat)) (b:Int×Nat) (s:Int):af:={d:=20,α:=Nat,c:= .builtin "sum.loop" ⟨[.ref d, .ref S,FT s,FT 0],[]⟩,need:=[(d,aW "list_iterator" l i),(l,ae (x.map iv) n),(S,ae [iv b] c)],r:=λu=> .ok (.ret (.int (b.1+(r.map (·.1)).sum) u)),new:=λ_=>[(l,ae (x.map iv) n)]}
theorem xy (w:E7) (d l n S:Nat) (f:List (Int×Nat)):∀(j:List (Int×Nat)) (i c:Nat) (b:Int×Nat) (k:Int),(k=0\/k=2)->f.drop i=j->ab (env w) (eI d l i n S c f j b k):=by
 intro j
 induction j with
 | nil=>
  intro i c b k R M h L q hE B p s F P I
  have q:h.handled=none:=q.resolve_left (λz=>nomatch z)
  have H:bt (env w) 20 h:=⟨q,B⟩
  have G:=Go.eq (Go.start P) (ic _)
  have J:s.heap.get? S=some (ae [iv b] c):=P.has (S,_) (E2 _ (E2 _ EZ))
  rw [F1]
  show wp _ _ (FK table h.code) _ _ p s
  rw [show h.code= .builtin "sum.loop" ⟨[.ref d, .ref S,FT k,FT 0],[]⟩ from L,aE _ _ PySem.F.entry_sum_loop]
  show wp _ _ (seqItems? (.ref S)>>=_) _ _ p s
  rw [E5]
  refine aL (FL J rfl λp=> ?_)
  show wp _ _ (MonadExcept.tryCatch (pyNext (.ref d)) _>>=_) _ _ p s
  rw [E5,Sem.wp_tryCatch']
  refine BS H (by omega) (aV M) [0,0] G ⟨rfl,rfl,rfl⟩ λg p E=> ?_
  show F (.ok (.ret (.int b.1 b.2))) g
  have e:=I b.2 g trivial (Go.sub (kt:=(env w).kt) (r:=([[(d,iF "list_iterator" i)],[(S,ae [iv b] c)]]:List ao).flatten) (Go.perm E ((nW (A:=[[(d,iF "list_iterator" i)],[(l,ae (f.map iv) n)],[(S,ae [iv b] c)]]) (B:=[[(l,ae (f.map iv) n)],[(d,iF "list_iterator" i)],[(S,ae [iv b] c)]]) [1,0,0] ⟨rfl,rfl,rfl,rfl⟩).flatten))).after
  simpa [eI] using e
 | cons x j ih=>
  intro i c b k R M h L q hE B p s F P I
  have q:h.handled=none:=q.resolve_left (λz=>nomatch z)
  have H:bt (env w) 20 h:=⟨q,B⟩
  have G:=Go.eq (Go.start P) (ic _)
  have J:s.heap.get? S=some (ae [iv b] c):=P.has (S,_) (E2 _ (E2 _ EZ))
  obtain ⟨Y,Z⟩:=aQ M
  rw [F1]
  show wp _ _ (FK table h.code) _ _ p s
  rw [show h.code= .builtin "sum.loop" ⟨[.ref d, .ref S,FT k,FT 0],[]⟩ from L,aE _ _ PySem.F.entry_sum_loop]
  show wp _ _ (seqItems? (.ref S)>>=_) _ _ p s
  rw [E5]
  refine aL (FL J rfl λp=> ?_)
  show wp _ _ (MonadExcept.tryCatch (pyNext (.ref d)) _>>=_) _ _ p s
  rw [E5,Sem.wp_tryCatch']
  refine BJ H (by omega) Y [0,0] G ⟨rfl,rfl,rfl⟩ λg p E=> ?_
  have D:Go (env w).kt s (eI d l i n S c f (x::j) b k).own g [(S,ae [iv b] c),(d,aW "list_iterator" l (i+1)),(l,ae (f.map iv) n)]:=Go.perm E ((nW (A:=[[(d,aW "list_iterator" l (i+1))],[(l,ae (f.map iv) n)],[(S,ae [iv b] c)]]) (B:=[[(S,ae [iv b] c)],[(d,aW "list_iterator" l (i+1))],[(l,ae (f.map iv) n)]]) [2,0,0] ⟨rfl,rfl,rfl,rfl⟩).flatten)
  have ac:g.heap.get? S=some (ae [iv b] c):=D.inv.has (S,_) EZ
  have X:∀(v:Int×Nat) (m:Int) (tk y:Nat) (C:Fc) (p:Pos),(m=0\/m=2)->v.1=b.1+x.1->Go (env w).kt s (eI d l i n S c f (x::j) b k).own C [(S,ae [iv v] y),(d,aW "list_iterator" l (i+1)),(l,ae (f.map iv) n)]->finPost (FQ pq w) h F (.again (.builtin "sum.loop" ⟨[.ref d, .ref S,FT m,FT 0],[]⟩)) p C:=by
   intro v m tk y C p N O t
   have Q:Go (env w).kt s (eI d l i n S c f (x::j) b k).own C ((eI d l (i+1) n S y f j v m).all++[]):=Go.eq (Go.perm t ((nW (A:=[[(S,ae [iv v] y)],[(d,aW "list_iterator" l (i+1))],[(l,ae (f.map iv) n)]]) (B:=[[(d,aW "list_iterator" l (i+1))],[(l,ae (f.map iv) n)],[(S,ae [iv v] y)]]) [1,1,0] ⟨rfl,rfl,rfl,rfl⟩).flatten)) rfl
   have hn:=ih (i+1) y v m N Z (h.goto (.builtin "sum.loop" ⟨[.ref d, .ref S,FT m,FT 0],[]⟩)) rfl (.inr q) (λes he=>nomatch he) ⟨B.cnt,B.units⟩ p C F Q.sub.pre (λrw s4 hy V=> ?_)
   .exact ⟨plainId_quiet PySem.F.plain_sum_loop _,hn⟩
   .have e:=I rw s4 hy ((Q.stepR V).perm (.refl _)).sub.after
    have W:b.1+((x::j).map (·.1)).sum=v.1+(j.map (·.1)).sum:=by rw [O,Fu,List.sum_cons];omega
    simp only [eI] at e⊢
    rw [W] at e
    exact e
  have upd:∀(o:Fc) (u v:Int×Nat) (tk:Nat),Go (env w).kt s (eI d l i n S c f (x::j) b k).own o [(S,ae [iv u] c),(d,aW "list_iterator" l (i+1)),(l,ae (f.map iv) n)]->
   Go (env w).kt s (eI d l i n S c f (x::j) b k).own {o with toks:=tk,heap:=o.heap.update S (FH λ_=> #[iv v])} [(S,ae [iv v] c),(d,aW "list_iterator" l (i+1)),(l,ae (f.map iv) n)]:=by
   intro o u v tk t
   have e:FH (λ_=> #[iv v]) (ae [iv u] c)=ae [iv v] c:=e9 (vs':=[iv v]) rfl
   have A:=((ap.start t.pre).toks tk).set (FH λ_=> #[iv v]) (by exact EZ) (by rw [e];rfl)
   rw [e] at A
   exact Go.step t A
  have T:∀(o:Fc) (u v:Int×Nat) (m:Int) (p:Pos),(m=0\/m=2)->v.1=b.1+x.1->Go (env w).kt s (eI d l i n S c f (x::j) b k).own o [(S,ae [iv u] c),(d,aW "list_iterator" l (i+1)),(l,ae (f.map iv) n)]->
   wp (FQ pq w) h (updateSeq S (λ_=> #[iv v])>>=λ_=>again (.builtin "sum.loop" ⟨[.ref d, .ref S,FT m,FT 0],[]⟩)) (finPost (FQ pq w) h F) (λx _ s=>F (.error x) s) p o:=by
   intro o u v m p N O t
   have gt:o.heap.get? S=some (ae [iv u] c):=t.inv.has (S,_) EZ
   rw [E5]
   refine aL (GT gt rfl (λp=> ?_) (by simp [Gu]) (by simp [Gu]))
   exact X v m 0 c _ p N O (upd o u v o.toks t)
  have U:∀p,wp (FQ pq w) h ((holding [iv x] (binaryOp .Add (iv b) (iv x))).attempt>>=λio=>match io with
   | .ok r=>do updateSeq S λ_=> #[r];letGo [iv b,iv x];(updateSeq S (λ_=> #[r])>>=λ_=>again (.builtin "sum.loop" ⟨[.ref d, .ref S,FT 2,FT 0],[]⟩))
   | .error e=>do updateSeq S λ_=> #[];letGo [iv b,iv x] [e];throw e) (finPost (FQ pq w) h F) (λx _ s=>F (.error x) s) p g:=by
   intro p
   rw [E5]
   refine aL (wpAny_attempt (Gh (wpAny_add_int λp=> ?_)))
   show wp _ _ (updateSeq S (λ_=> #[iv (b.1+x.1,g.toks)])>>=_) _ _ p _
   rw [E5]
   refine aL (GT (s:={g with toks:=g.toks+1}) ac rfl (λp=> ?_) (by simp [Gu]) (by simp [Gu]))
   rw [E5]
   refine aL (H7 λp=> ?_)
   exact T _ (b.1+x.1,g.toks) (b.1+x.1,g.toks) 2 p (.inr rfl) rfl (upd g b (b.1+x.1,g.toks) (g.toks+1) D)
  rcases R with rfl | rfl
  .show wp _ _ (if (_:Bool)=true then (mkInt (b.1+x.1)>>=_) else _) _ _ p g
   split
   .rw [E5]
    refine aL (wpAny_mkInt λp=> ?_)
    exact T {g with toks:=g.toks+1} b (b.1+x.1,g.toks) 0 p (.inl rfl) rfl (Go.step D ((ap.start D.pre).toks _))
   .rw [E5]
    refine aL (GX λp=> ?_)
    exact U p
  .exact U p
def yj (i l n S c t:Nat) (x:List (Int×Nat)) (z:Int):af:={d:=20,α:=Nat,c:= .builtin "sum.loop" ⟨[.ref i, .ref S,FT 0,FT 0],[]⟩,need:=[(i,aW "list_iterator" l 0),(l,ae (x.map iv) n),(S,ae [.int 0 t] c)],r:=λu=> .ok (.ret (.int z u)),new:=λ_=>[(l,ae (x.map iv) n)]}
theorem jL (w:E7) (i l n S c t:Nat) (x:List (Int×Nat)) (z:Int) (h:(x.map (·.1)).sum=z):ab (env w) (yj i l n S c t x z):=by
 have q:=xy w i l n S x x 0 c (0,t) 0 (.inl rfl) rfl
 have e:(0:Int)+(x.map (·.1)).sum=z:=by omega
 unfold eI at q
 simp only at q
 rw [e] at q
 exact q
def pH (o:Option (Int×Nat)):List E9:=match o with | none=>[] | some x=>[iv x,iv x]
def iK (b l i n B c:Nat) (x:List (Int×Nat)) (o:Option (Int×Nat)) (r:Int):af:={d:=10,α:=Nat,c:= .builtin "max.loop" ⟨[.ref b, .none, .ref B],[]⟩,need:=[(b,aW "list_iterator" l i),(l,ae (x.map iv) n),(B,ae (pH o) c)],r:=λu=> .ok (.ret (.int r u)),new:=λ_=>[(l,ae (x.map iv) n)]}
def cU:List (Int×Nat)->Int
 | []=>0
 | x::b=>b.foldl (λa y=>max a y.1) x.1
theorem Bt (w:E7) (e l n B:Nat) (b:List (Int×Nat)):∀(r:List (Int×Nat)) (i c:Nat) (y:Int×Nat),b.drop i=r->ab (env w) (iK e l i n B c b (some y) (r.foldl (λa y=>max a y.1) y.1)):=by
 intro r
 induction r with
 | nil=>
  intro i c y j
  exact ct (λ_ g=> .seg 281543712976897 λO=> .use _ (ch w e l i n iv b (aV j)) [0,0] [] λA f=> .seg 343681290243 λo=>g (y.2) trivial [] [1] [])
 | cons x r m=>
  intro i c y j
  obtain ⟨t,f⟩:=aQ j
  have q:y.1< x.1->∀(c:Nat),ab (env w) (iK e l (i+1) n B c b (some (x.1,x.2)) (r.foldl (λa y=>max a y.1) (max y.1 x.1))):=λh c=>by
   have:=m (i+1) c (x.1,x.2) f
   rw [show max y.1 x.1=x.1 by omega]
   exact this
  have s:¬y.1< x.1->∀(c:Nat),ab (env w) (iK e l (i+1) n B c b (some (y.1,y.2)) (r.foldl (λa y=>max a y.1) (max y.1 x.1))):=λh c=>by
   have:=m (i+1) c (y.1,y.2) f
   rw [show max y.1 x.1=y.1 by omega]
   exact this
  exact av (λ_ g=> .seg 281543712976897 λO=> .use _ (cr w e l i n iv b x t) [0,0] [] λA f=> .seg 1 λo=> .or (y.1< x.1) (¬(y.1< x.1)) (FI _) (λd=> .use _ (dx w (x.1) (y.1) (x.2) (y.2) d) [] [] λC u=> .seg 50343939 λp=> .use _ (q d c) [0,0,0] [] λk v=>g (k) trivial [] [0] []) (λd=> .use _ (dy w (x.1) (y.1) (x.2) (y.2) d) [] [] λC u=> .seg 0 λp=> .use _ (s d c) [0,0,0] [] λk v=>g (k) trivial [] [0] []))
theorem i7 (w:E7) (i l n B c:Nat) (d:List (Int×Nat)) (r:Int) (f:d≠[]) (h:cU d=r):ab (env w) (iK i l 0 n B c d none r):=by
 subst h
 obtain ⟨x,b,rfl⟩:=Fy f
 have e:∀(c:Nat),ab (env w) (iK i l (0+1) n B c (x::b) (some (x.1,x.2)) (b.foldl (λa y=>max a y.1) x.1)):=λc=>Bt w i l n B (x::b) b 1 c (x.1,x.2) rfl
 show ab (env w) (iK i l 0 n B c (x::b) none (b.foldl (λ(a:Int) (y:Int×Nat)=>max a y.1) x.1))
 exact ct (λ_ j=> .seg 281543712976897 λO=> .use _ (cr w i l 0 n iv (x::b) x rfl) [0,0] [] λp m=> .seg 50343939 λk=> .use _ (e (if (Array.size ((λ(q:Array E9)=> #[iv x,iv x]) (List.toArray (pH none)))==Array.size (List.toArray (pH none)))=HL then c else c+1)) [0,0,0] [] λg o=>j (g) trivial [] [0] [])
theorem Bu:∀{b:List (Int×Nat)},(∀x∈b,0<=x.1)->cU b=mx (b.map (·.1))
 | [],_=>rfl
 | x::b,h=>by
  have k:∀(l:List (Int×Nat)) (a:Int),0<=a->l.foldl (λa y=>max a y.1) a=max a (mx (l.map (·.1))):=by
   intro l
   induction l with
   | nil=>intro a d;show a=max a 0;omega
   | cons y l i=>
    intro a d
    rw [HW,i _ (by omega)]
    have e:mx ((y::l).map (·.1))=max y.1 (mx (l.map (·.1))):=rfl
    rw [e]
    omega
  exact k b x.1 (h x EZ)
section
variable {w:E7} {T:af} {d:Nat} {Γ:Ctx} {p:Pos} {s0 s:Fc} {own:List Addr} {A r:List ao}
theorem EX (i:List Nat) {st:List Stmt} {e:Env} (h:ax (env w) T (Dn (.block st e))) (H:bt (env w) d Γ) (g:T.d<=d) (j:T.outer=none) (G:Go (env w).kt s0 own s A.flatten) (l:take i (bg T.need++T.needB) A (· =r)) {f0:Flow} (k:∀x,T.r x= .ok f0)
 {Q:Flow->Pos->Fc->Prop} {E:E9->Pos->Fc->Prop} (f:∀x b p,T.post x->Go (env w).kt s0 own b (bp T x r).flatten->Q f0 p b):wp (FQ pq w) Γ (Hb st e) Q E p s:=
 Fs _ _ _ (λ_ _ _ h=>h) (λx p s h=>absurd h (mL _ p s)) _ _ (Dh (F:=λ_ _=>False) i h H g j G l k f)
end
def nQ (lo h:Int) (t b d:Nat):Obj:={cls:= .type "range",data:= .fields #[.int lo t, .int h b, .int 1 d]}
def nA (r:Nat) (lo h:Int) (t b d:Nat) (l:Int):af:={d:=1,α:=Nat,c:= .builtin "range.__iter__" ⟨[.ref r],[]⟩,need:=[(r,nQ lo h t b d)],r:=λx=> .ok (.ret (.ref x)),put:=λ_=>[nQ lo h t b d],new:=λx=>[(x,bG lo l 1 0 0 0)]}
theorem pI {w:E7} {A:Around} {i:Int} {t:Nat} {Q:Option Int->Fc->Prop} {E:E9->Fc->Prop} {s:Fc} (h:Q (some i) s):Fp (FQ pq w) A (asInt? (.int i t)) Q E s:=E3 h
theorem sS (w:E7) (r:Nat) (lo b:Int) (t e f:Nat) (l:Int) (j: -1000000000<=lo/\lo<=1000000000) (k: -1000000000<=b/\b<=1000000000) (h:(if lo< b then b-lo else 0)=l):ab (env w) (nA r lo b t e f l):=by
 subst h
 refine aN λA s G m n P i=> ?_
 have d:s.heap.get? r=some (nQ lo b t e f):=P.has (r,_) EZ
 show Fp _ _ (FK table (.builtin "range.__iter__" ⟨[.ref r],[]⟩)) _ _ s
 rw [aE _ _ F.entry_range_iter]
 show Fp _ _ (Builtin.Range.rangeFields (.ref r)>>=_) _ _ s
 refine E1 ?_
 unfold Builtin.Range.rangeFields
 refine E1 (FY d rfl (x:= .int lo t) rfl ?_)
 refine E1 (pI ?_)
 refine E1 (FY d rfl (x:= .int b e) rfl ?_)
 refine E1 (pI ?_)
 refine E1 (FY d rfl (x:= .int 1 f) rfl ?_)
 refine E1 (pI ?_)
 refine E3 ?_
 have g:Builtin.Range.small lo b 1=true:=small_one (by omega) (by omega) (by omega) (by omega)
 show Fp _ _ (if (!Builtin.Range.small lo b 1)=true then _ else _) _ _ s
 rw [g,if_neg (by simp)]
 show Fp _ _ (HT (if Builtin.Range.small lo b 1=true then "range_iterator" else "longrange_iterator") [FT lo,FT (Builtin.Range.rangeSize lo b 1),FT 1]>>=_) _ _ s
 rw [g,if_pos rfl,rangeSize_one]
 refine E1 ?_
 unfold HT
 refine Ge (E3 ?_)
 exact i s.heap.objs.size _ trivial ((((ap.start P).push (bG lo (if lo< b then b-lo else 0) 1 0 0 0) rfl)).perm (List.Perm.swap ..))
theorem lM (w:E7) (r:Nat) (lo b:Int) (t d e:Nat) (l:Int) (f: -1000000000<=lo/\lo<=b/\b<=1000000000) (h:b-lo=l):ab (env w) (nA r lo b t d e l):=
 sS w r lo b t d e l (by omega) (by omega) (by split<;>omega)
structure Lw where
 (E FA G H Jn Mt SD Sp Spd T V W bk c1 c10 c11 c12 c2 c3 c4 c5 c6 c7 c8 c9 ee el en er fan fe fr hl hn it k1 k10 k11 k12 k2 k3 k5 k6 k7 k8 k9 n0 n2 nd sa se spe tN ta tl tn vn wn y yn:Nat)
 (sl:SL)
 (v1 v2 v3 v5:E9)
 (cps:List Nat)
 (me mh ml mp ms:MI)
 (a lg nn:Int)
 (ws:List (List Nat×Nat))
 (hs xs ys:List (Int×Nat))
 (LV:List Lv)
 (N:List NL)
def Lw.z:Lw:={E:=0,FA:=0,G:=0,H:=0,Jn:=0,Mt:=0,SD:=0,Sp:=0,Spd:=0,T:=0,V:=0,W:=0,bk:=0,c1:=0,c10:=0,c11:=0,c12:=0,c2:=0,c3:=0,c4:=0,c5:=0,c6:=0,c7:=0,c8:=0,c9:=0,ee:=0,el:=0,en:=0,er:=0,fan:=0,fe:=0,fr:=0,hl:=0,hn:=0,it:=0,k1:=0,k10:=0,k11:=0,k12:=0,k2:=0,k3:=0,k5:=0,k6:=0,k7:=0,k8:=0,k9:=0,n0:=0,n2:=0,nd:=0,sa:=0,se:=0,spe:=0,tN:=0,ta:=0,tl:=0,tn:=0,vn:=0,wn:=0,y:=0,yn:=0,sl:= #[],v1:= .none,v2:= .none,v3:= .none,v5:= .none,cps:=[],me:=[],mh:=[],ml:=[],mp:=[],ms:=[],a:=0,lg:=0,nn:=0,ws:=[],hs:=[],xs:=[],ys:=[],LV:=[],N:=[]}
def aq (P:E6) (Y:Lw):Env:={dY (kj P) 1227 Y.fr with cells:=[(⟨⟨[115,112,97,114,101]⟩⟩,Y.c12),(⟨⟨[115,108,97,99,107]⟩⟩,Y.c11),(⟨⟨[102,114,111,110,116]⟩⟩,Y.c10),(⟨⟨[104,101,97,118,121]⟩⟩,Y.c9),(⟨⟨[119,97,121,115]⟩⟩,Y.c8),(⟨⟨[110,97,109,101]⟩⟩,Y.c7),(⟨⟨[114,111,119]⟩⟩,Y.c6),(⟨⟨[110,101,101,100,115]⟩⟩,Y.c5),(⟨⟨[108,97,116,101]⟩⟩,Y.c4),(⟨⟨[101,97,114,108,121]⟩⟩,Y.c3),(⟨⟨[104,111,117,114,115]⟩⟩,Y.c2),(⟨⟨[110,97,109,101,115]⟩⟩,Y.c1)]}
def aI (P:E6):List Stmt:=cX (kj P)
def aK (v:E9):Obj:={cls:= .type "cell",data:= .cell (some v)}
def iO (w:E7) (Y:Lw) (e:Nat) (l:Nat):af:={d:=40,α:=(Nat×Nat×Nat×Nat×Nat)×Nat×List (Int×Nat)×Nat,c:= .block ((aI w.params).take 3) (aq w.params Y),need:=[(Y.fr,bv [es w.params [115,99,114,105,112,116] Y.k1 (.ref Y.sa)] e Y.sl),(Y.c1,br),(Y.sa,ae (Y.xs.map iv) Y.n0)],new:=λx=>[(Y.fr,bv [es w.params [115,99,114,105,112,116] Y.k1 (.ref Y.sa),es w.params [115,105,122,101] x.1.1 (.int Y.nn x.1.2.1),es w.params [99,101,108,108,115] x.1.2.2.1 (.ref x.2.1)] x.1.2.2.2.1 Y.sl),(Y.c1,aK (.str ⟨⟨Y.cps⟩⟩ x.1.2.2.2.2)),(Y.sa,ae (Y.xs.map iv) Y.n0),(x.2.1,ae (x.2.2.1.map iv) x.2.2.2)],post:=λx=>x.2.2.1.length=l}
def nP (w:E7) (Y:Lw) (L:Nat) (i:Int) (l:Int) (t d e:Nat) (k:Nat) (b:Int) (kt:Nat) (f y:Nat) (g:List (Int×Nat)):af:={d:=15,α:=(Nat×Int×Nat)×Nat×List (Int×Nat)×Nat,c:=bR (aA (aI w.params) 3) (.ref Y.it) (aq w.params Y),need:=[(Y.it,bG i l 1 t d e),(Y.fr,bv [es w.params [115,99,114,105,112,116] Y.k1 (.ref Y.sa),es w.params [115,105,122,101] Y.k2 (.int Y.nn Y.tn),es w.params [99,101,108,108,115] Y.k3 (.ref Y.y),es w.params [107] k (.int b kt)] f Y.sl),(Y.sa,ae (Y.xs.map iv) Y.n0),(Y.y,ae (g.map iv) y)],new:=λx=>[(Y.fr,bv [es w.params [115,99,114,105,112,116] Y.k1 (.ref Y.sa),es w.params [115,105,122,101] Y.k2 (.int Y.nn Y.tn),es w.params [99,101,108,108,115] Y.k3 (.ref Y.y),es w.params [107] x.1.1 (.int x.1.2.1 x.1.2.2)] x.2.1 Y.sl),(Y.sa,ae (Y.xs.map iv) Y.n0),(Y.y,ae (x.2.2.1.map iv) x.2.2.2)],post:=λx=>x.2.2.1.length=L}
def y7 (w:E7) (Y:Lw) (L:Nat) (i:Int) (l:Int) (t b d:Nat) (f y:Nat):af:={d:=15,α:=(Nat×Int×Nat)×Nat×List (Int×Nat)×Nat,c:=bR (aA (aI w.params) 3) (.ref Y.it) (aq w.params Y),need:=[(Y.it,bG i l 1 t b d),(Y.fr,bv [es w.params [115,99,114,105,112,116] Y.k1 (.ref Y.sa),es w.params [115,105,122,101] Y.k2 (.int Y.nn Y.tn),es w.params [99,101,108,108,115] Y.k3 (.ref Y.y)] f Y.sl),(Y.sa,ae (Y.xs.map iv) Y.n0),(Y.y,ae (Y.ys.map iv) y)],new:=λx=>[(Y.fr,bv [es w.params [115,99,114,105,112,116] Y.k1 (.ref Y.sa),es w.params [115,105,122,101] Y.k2 (.int Y.nn Y.tn),es w.params [99,101,108,108,115] Y.k3 (.ref Y.y),es w.params [107] x.1.1 (.int x.1.2.1 x.1.2.2)] x.2.1 Y.sl),(Y.sa,ae (Y.xs.map iv) Y.n0),(Y.y,ae (x.2.2.1.map iv) x.2.2.2)],post:=λx=>x.2.2.1.length=L}
theorem uR (i L:Nat):((i:Nat):Int).fmod ((L:Nat):Int)=((i %L:Nat):Int):=by
 rw [GL _ (by omega)];rfl
theorem Ev (w:E7) (Y:Lw) (L:Nat) (q:L≠0) (gt:L<=20) (ac:Y.xs.length<=63):∀(r:List (Int×Nat)) (i:Nat) (l:Int) (e g t k:Nat) (m:Int) (kt f b:Nat) (y:List (Int×Nat)),Y.xs.drop i=r->l=(r.length:Nat)->y.length=L->ab (env w) (nP w Y L ((i:Nat):Int) l e g t k m kt f b y):=by
 intro r
 induction r with
 | nil=>
  intro i l e g t k m kt f b y s j h
  exact ct (λ_ o=> .seg 68736258049 λO=> .use _ (cg w Y.it ((i:Nat):Int) l 1 e g t (by rw [j];simp:¬0< l)) [0] [] λn p=> .seg 4098 λC=>o (((k,m,kt),f,y,b)) h [] [3,3,3] [])
 | cons x r I=>
  intro i l e g t k m kt f b y s j h
  obtain ⟨D,p⟩:=aQ s
  have v:i %L< y.length:=by rw [h];exact Nat.mod_lt _ (by omega)
  exact av (have F:0< l:=(by rw [j,Fb];omega);have q:((L:Nat):Int)≠0:=(by omega);have G:((i:Nat):Int).fmod ((L:Nat):Int)=(((i %L):Nat):Int):=(uR i L);have H:y[(i %L)]? =some (y[i %L]):=(Ff v);have Z:y.length<=20:=(by omega);have J:∀(k kt f b u:Nat),ab (env w) (nP w Y L (((i:Nat):Int)+1) (l-1) 0 0 t k ((i:Nat):Int) kt f b (y.set (i %L) ((y[i %L]:Int×Nat).1+x.1,u))):=(λk kt f b u=>I (i+1) (l-1) 0 0 t k ((i:Nat):Int) kt f b _ p (by rw [j];simp) (by rw [List.length_set];exact h));λ_ o=> .seg 68736258049 λO=> .use _ (bY w Y.it (↑i:Int) l 1 e g t ((↑i:Int)+1) (l-1) F rfl rfl) [0] [] λn X=> .seg 0x1002000000002002002002 λC=> .use _ (dv iv w Y.y b y L h (by omega)) [3] [] λM h4=> .seg 1 λR=> .use _ (eO w (↑i:Int) (↑L:Int) n M (↑(i %L):Int) q G) [] [] λB h6=> .seg 68736258049 λS=> .use _ (bH iv w Y.y b B (↑(i %L):Int) (i %L) y (y[i %L]) rfl H (by omega)) [0] [] λx8 h8=> .seg 0x4001004004004003003 λT=> .use _ (bH iv w Y.sa Y.n0 n (↑i:Int) i Y.xs x rfl D (by omega)) [3] [] λio U=> .seg 1 λN=> .use _ (b8 w ((y[i %L]:Int×Nat).1) (x.1) ((y[i %L]:Int×Nat).2) (x.2) ((y[i %L]:Int×Nat).1+x.1) rfl) [] [] λA V=> .seg 137455738882 λP=> .use _ (tX iv w Y.y b B (↑(i %L):Int) (i %L) y ((y[i %L]:Int×Nat).1+x.1,A) rfl v (by omega)) [1] [] λrw W=> .seg 0 λQ=> .use _ (J k n f b A) [2,2,1,0] [] λd E=>o (((d.1.1,d.1.2.1,d.1.2.2),d.2.1,d.2.2.1,d.2.2.2)) E [] [0,0,0] [])
theorem Eu (w:E7) (Y:Lw) (L:Nat) (A:L≠0) (C:L<=20) (v:Y.xs.length<=63) (F:Y.xs≠[]) (l:Int) (j m t f y:Nat) (g:l=(Y.xs.length:Nat)) (h:Y.ys.length=L):ab (env w) (y7 w Y L 0 l j m t f y):=by
 obtain ⟨x,r,e⟩:=Fy F
 have p:Y.xs[0]? =some x:=by rw [e];rfl
 have s:Y.xs.drop 1=r:=by rw [e];rfl
 have i:0 %L< Y.ys.length:=by rw [h];exact Nat.mod_lt _ (by omega)
 exact av (have D:0< l:=(by rw [g,e,Fb];omega);have B:((L:Nat):Int)≠0:=(by omega);have E:((0:Nat):Int).fmod ((L:Nat):Int)=(((0 %L):Nat):Int):=(uR 0 L);have G:Y.ys[(0 %L)]? =some (Y.ys[0 %L]):=(Ff i);have Z:Y.ys.length<=20:=(by omega);have H:∀(k kt f y u:Nat),ab (env w) (nP w Y L (((0:Nat):Int)+1) (l-1) 0 0 t k ((0:Nat):Int) kt f y (Y.ys.set (0 %L) ((Y.ys[0 %L]:Int×Nat).1+x.1,u))):=(λk kt f y u=>Ev w Y L A C v r 1 (l-1) 0 0 t k ((0:Nat):Int) kt f y _ s (by rw [g,e];simp) (by rw [List.length_set];exact h));λ_ J=> .seg 68736258049 λM=> .use _ (bY w Y.it (↑0:Int) l 1 j m t ((↑0:Int)+1) (l-1) D rfl rfl) [0] [] λd X=> .seg 0x1002000000002002002002 λO=> .use _ (dv iv w Y.y y Y.ys L h (by omega)) [3] [] λI h4=> .seg 1 λR=> .use _ (eO w (↑0:Int) (↑L:Int) d I (↑(0 %L):Int) B E) [] [] λo h6=> .seg 68736258049 λS=> .use _ (bH iv w Y.y y o (↑(0 %L):Int) (0 %L) Y.ys (Y.ys[0 %L]) rfl G (by omega)) [0] [] λx8 h8=> .seg 0x4001004004004003003 λT=> .use _ (bH iv w Y.sa Y.n0 d (↑0:Int) 0 Y.xs x rfl p (by omega)) [3] [] λac U=> .seg 1 λN=> .use _ (b8 w ((Y.ys[0 %L]:Int×Nat).1) (x.1) ((Y.ys[0 %L]:Int×Nat).2) (x.2) ((Y.ys[0 %L]:Int×Nat).1+x.1) rfl) [] [] λn V=> .seg 137455738882 λP=> .use _ (tX iv w Y.y y o (↑(0 %L):Int) (0 %L) Y.ys ((Y.ys[0 %L]:Int×Nat).1+x.1,n) rfl i (by omega)) [1] [] λgt W=> .seg 0 λQ=> .use _ (H (O 0) d (f+1) y n) [2,2,1,0] [] λb q=>J (((b.1.1,b.1.2.1,b.1.2.2),b.2.1,b.2.2.1,b.2.2.2)) q [] [0,0,0] [])
def EW (w:E7) (Y:Lw) (L:Nat):af:={d:=25,α:=(Nat×Int×Nat)×Nat×List (Int×Nat)×Nat,c:= .block [aA (aI w.params) 3] (aq w.params Y),need:=[(Y.fr,bv [es w.params [115,99,114,105,112,116] Y.k1 (.ref Y.sa),es w.params [115,105,122,101] Y.k2 (.int Y.nn Y.tn),es w.params [99,101,108,108,115] Y.k3 (.ref Y.y)] Y.fe Y.sl),(Y.sa,ae (Y.xs.map iv) Y.n0),(Y.y,ae (Y.ys.map iv) Y.yn)],new:=λx=>[(Y.fr,bv [es w.params [115,99,114,105,112,116] Y.k1 (.ref Y.sa),es w.params [115,105,122,101] Y.k2 (.int Y.nn Y.tn),es w.params [99,101,108,108,115] Y.k3 (.ref Y.y),es w.params [107] x.1.1 (.int x.1.2.1 x.1.2.2)] x.2.1 Y.sl),(Y.sa,ae (Y.xs.map iv) Y.n0),(Y.y,ae (x.2.2.1.map iv) x.2.2.2)],post:=λx=>x.2.2.1.length=L}
def EV (w:E7) (Y:Lw) (L:Nat):af:={d:=25,α:=Unit,c:= .block [aA (aI w.params) 3] (aq w.params Y),need:=[(Y.fr,bv [es w.params [115,99,114,105,112,116] Y.k1 (.ref Y.sa),es w.params [115,105,122,101] Y.k2 (.int Y.nn Y.tn),es w.params [99,101,108,108,115] Y.k3 (.ref Y.y)] Y.fe Y.sl),(Y.sa,ae (Y.xs.map iv) Y.n0),(Y.y,ae (Y.ys.map iv) Y.yn)],put:=λ_=>[bv [es w.params [115,99,114,105,112,116] Y.k1 (.ref Y.sa),es w.params [115,105,122,101] Y.k2 (.int Y.nn Y.tn),es w.params [99,101,108,108,115] Y.k3 (.ref Y.y)] Y.fe Y.sl,ae (Y.xs.map iv) Y.n0,ae (Y.ys.map iv) Y.yn]}
def nc (lo h:E9):Obj:={cls:= .type "slice",data:= .fields #[lo,h, .none]}
theorem xV {vs:List E9} {a b:Nat} (n:a<=b) (o:b<=vs.length):slicePick vs.toArray (some (a:Int)) (some (b:Int)) none=((vs.drop a).take (b-a)).toArray:=by
 have f:sliceBounds (some (a:Int)) (some (b:Int)) none vs.length=((a:Int),(b:Int),1):=by
  simp only [sliceBounds,Option.getD_none,show (1:Int)>0 by decide,if_true]
  rw [if_neg (by omega),if_neg (by omega)]
  refine Prod.ext ?_ (Prod.ext ?_ rfl)
  .show max 0 (min (a:Int) vs.length)=a
   omega
  .show max 0 (min (b:Int) vs.length)=b
   omega
 unfold slicePick
 rw [List.size_toArray,f]
 congr 1
 have g:sliceRange (a:Int) (b:Int) 1=(List.range (b-a)).map (λi=>a+i):=by
  unfold sliceRange
  simp only [show (1:Int)>0 by decide,if_true]
  by_cases h:(a:Int)< b
  .rw [if_pos h]
   have:(((b:Int)-a+1-1)/1).toNat=b-a:=by rw [Int.ediv_one];omega
   rw [this]
   refine Gx λi _=> ?_
   omega
  .rw [if_neg h]
   have:b-a=0:=by omega
   rw [this];rfl
 rw [g]
 have m:∀(k:Nat) (a:Nat),a+k<=vs.length->((List.range k).map λi=>a+i).filterMap (λx=>vs.toArray[x]?)=(vs.drop a).take k:=by
  intro k
  induction k with
  | zero=>intro a _;rfl
  | succ k l=>
   intro a h
   have d:a< vs.length:=by omega
   rw [List.range_succ_eq_map,Fu,GS,List.filterMap_cons]
   have j:vs.toArray[a+0]? =some vs[a]:=by simp [d]
   rw [j]
   rw [Hv d,List.take_succ_cons]
   have e:Gv ((λi=>a+i)∘Nat.succ) (List.range k)=(List.range k).map λi=>a+1+i:=Gx λi _=>by
    show a+(i+1)=a+1+i
    omega
   rw [e]
   show vs[a]::_=_
   rw [l (a+1) (by omega)]
 exact m (b-a) a (by omega)
section
variable {γ:Type}
def yP (g:γ->E9) (l n s:Nat) (b:List γ) (lo h:Int) (t u:Nat) (y:List γ):af:={d:=1,α:=Nat,c:= .builtin "list.__getitem__" ⟨[.ref l, .ref s],[]⟩,need:=[(l,ae (b.map g) n),(s,nc (.int lo t) (.int h u))],r:=λx=> .ok (.ret (.ref x)),put:=λ_=>[ae (b.map g) n,nc (.int lo t) (.int h u)],new:=λx=>[(x,ae (y.map g) 0)]}
theorem BK (g:γ->E9) (w:E7) (l n d:Nat) (x:List γ) (lo m:Int) (t u:Nat) (y:List γ) (a b:Nat) (j:lo=(a:Nat)) (v:m=(b:Nat)) (k:a<=b/\b<=x.length) (D:x.length<=100000) (h:(x.drop a).take (b-a)=y):ab (env w) (yP g l n d x lo m t u y):=by
 subst j;subst v;subst h
 refine aN λA s G j C P r=> ?_
 have B:s.heap.get? l=some (ae (x.map g) n):=P.has (l,_) EZ
 have f:s.heap.get? d=some (nc (.int a t) (.int b u)):=P.has (d,_) (E2 _ EZ)
 have i:s.TypeIs (.ref d) "slice":=⟨_,f,rfl⟩
 show Fp _ _ (FK table (.builtin "list.__getitem__" ⟨[.ref l, .ref d],[]⟩)) _ _ s
 rw [aE _ _ F.entry_list_getitem]
 show Fp _ _ (GF (.ref d)>>=_) _ _ s
 refine E1 ?_
 unfold GF
 refine E1 (wpAny_specialOf i slice_no_index ?_)
 simp only [Option.isNone_none,if_true]
 refine E3 ?_
 show Fp _ _ (typeOf (.ref d)>>=_) _ _ s
 refine E1 (wpAny_typeOf i ?_)
 rw [if_neg (by decide)]
 rw [listSliceParts_eq]
 refine E1 (E1 (FY f rfl (x:= .none) rfl (E1 (wpAny_listPart .none ?_))))
 rw [if_neg (show ¬((rawPart none==FT 0)=true) from Fg)]
 refine E1 (FY f rfl (x:= .int a t) rfl (E1 (wpAny_listPart (.int _ _) ?_)))
 refine E1 (FY f rfl (x:= .int b u) rfl (E1 (wpAny_listPart (.int _ _) (E3 ?_))))
 refine E1 (m:=Fw (.ref l)) ?_
 unfold Fw
 refine E1 (FL B rfl (E3 ?_))
 refine E1 (wpAny_of_eq (sliceIndices_raw (some (a:Int)) (some (b:Int)) none _ (by simp)) ?_)
 have e:=xV (vs:=x.map g) (a:=a) (b:=b) k.1 (by rw [Fo];exact k.2)
 refine E1 (Ge (E3 ?_) (FZ (slicePick_size_le (x.map g).toArray (some (a:Int)) (some (b:Int)) none) (by simp [Gu];omega)))
 have o:({cls:= .type "list",data:= .seq (slicePick (x.map g).toArray (some (a:Int)) (some (b:Int)) none)}:Obj)=ae ((((x.drop a).take (b-a))).map g) 0:=by
  rw [e,<-List.map_drop,<-List.map_take];rfl
 have q:=(ap.start P).push (ae ((((x.drop a).take (b-a))).map g) 0) rfl
 have p:=r s.heap.objs.size {s with heap:=s.heap.push (ae ((((x.drop a).take (b-a))).map g) 0)} trivial (q.perm (FD (l₁:=[_]) (l₂:=[_,_])))
 rw [<-o] at p
 exact p
end
theorem gQ (w:E7) (r:Nat) (lo b:Int) (t d e:Nat) (l:Int) (f: -1000000000<=lo/\lo<=1000000000) (g: -1000000000<=b/\b<=1000000000) (h:(if lo< b then b-lo else 0)=l):ab (env w) (nA r lo b t d e l):=sS w r lo b t d e l f g h
def gU (P:E6):Expr:=bI (aA (aY (aA (aI P) 8)) 4)
def kX (P:E6) (x:List E4):Prop:=x=[]\/(∃k v,x=[es P [105] k v])\/∃k v b d,x=[es P [105] k v,es P [97,103,97,105,110] b d]
def fE (P:E6) (x:List E4):Prop:=x=[]\/∃k v,x=[es P [97,103,97,105,110] k v]
def f9 (w:E7) (Y:Lw) (d e b:Nat) (i k t:Nat) (Q:List (Nat×Nat)->Prop) (v l:Int) (m n o g:Nat) (f:List E4) (j:Nat) (h:List (Nat×Nat)):af:={d:=20,α:=List (Nat×Nat)×Nat×List E4×Nat,c:=dE (gU w.params) 1 e b (aq w.params Y) d [(⟨⟨[114,111,119]⟩⟩,Y.c6),(⟨⟨[110,97,109,101,115]⟩⟩,Y.c1)],need:=[(e,bG v l 1 m n o),(d,oD (es w.params [105] k (.int ((i:Nat):Int) t)::f) j),(b,ae (h.map cv) g),(Y.c1,aK (.str ⟨⟨Y.cps⟩⟩ Y.tN))],new:=λx=>[(d,oD (es w.params [105] k (.int ((i:Nat):Int) t)::x.2.2.1) x.2.2.2),(b,ae (x.1.map cv) x.2.1),(Y.c1,aK (.str ⟨⟨Y.cps⟩⟩ Y.tN))],post:=λx=>Q x.1/\fE w.params x.2.2.1}
theorem Be (w:E7) (Y:Lw) (q f m:Nat) (i r p:Nat) (Q:List (Nat×Nat)->Prop) (c:Nat) (A:Y.cps[i]? =some c) (E:Y.cps.length<=10):∀(n:Nat) (v l:Int) (g h t b e:Nat) (y:List E4) (d:List (Nat×Nat)),l=(n:Nat)->d.length+n<=1000->fE w.params y->(∀o,ad o=ad d++FV n c->Q o)->ab (env w) (f9 w Y q f m i r p Q v l g h t b y e d):=by
 let T:∀{w:E7} {lo:List E4} {Y:Lw} {q f m:Nat} {i r p:Nat} {Q:List (Nat×Nat)->Prop} {v l:Int} {g h t b:Nat} {e:Nat} {d:List (Nat×Nat)} (c:Nat) (B:0< l) (A:Y.cps[i]? =some c) (E:Y.cps.length<=10) (I:d.length<=1000) (D:∀(k:Nat) (j:E9) (b e u:Nat),ab (env w) (f9 w Y q f m i r p Q (v+1) (l-1) 0 0 t b [es w.params [97,103,97,105,110] k j] e (d++[(c,u)]))),PP (env w) (f9 w Y q f m i r p Q v l g h t b lo e d):= @λw lo Y q f m i r p Q v l g h t b e d c B A E I D _ s=>
  .seg 68736258049 λL=> .use _ (bY w f v l 1 g h t (v+1) (l-1) B rfl rfl) [0] [] λJ M=> .seg 281612482781186 λO=> .use _ (gG w Y.cps Y.tN (↑i:Int) p i c rfl A (by omega)) [] [] λP W=> .seg 12289 λU=> .use _ (dw w m b d (c,P) (by omega)) [2] [] λx6 X=> .seg 0 λV=> .use _ (D (kT lo (O 0)) (Gf v J) (b+1) (kE lo e) P) [1,1,0,0] [] λx F=>have Z:Q x.1:=(Fv F);have ac:fE w.params x.2.2.1:=(Fe F);s (x.1,x.2.1,x.2.2.1,x.2.2.2) F [] [0,0,0] []
 intro n
 induction n with
 | zero=>
  intro v l g h t b e y d B I H G
  have C:¬0< l:=by omega
  have N:Q d:=G d (by simp)
  rcases H with rfl | ⟨k,j,rfl⟩
  .exact ct (λ_ s=> .seg 68736258049 λL=> .use _ (cg w f v l 1 g h t C) [0] [] λJ M=> .seg 2 λO=>s (d,b,[],e) ⟨N, .inl rfl⟩ [] [3,3,3] [])
  .exact ct (λ_ s=> .seg 68736258049 λL=> .use _ (cg w f v l 1 g h t C) [0] [] λJ M=> .seg 2 λO=>s (d,b,[es w.params [97,103,97,105,110] k j],e) ⟨N, .inr ⟨k,j,rfl⟩⟩ [] [3,3,3] [])
 | succ n D=>
  intro v l g h t b e y d B I H G
  have C:0< l:=by omega
  have S:∀(k:Nat) (j:E9) (b e u:Nat),ab (env w) (f9 w Y q f m i r p Q (v+1) (l-1) 0 0 t b [es w.params [97,103,97,105,110] k j] e (d++[(c,u)])):=λk j b e u=>D (v+1) (l-1) 0 0 t b e _ _ (by omega) (by simp;omega) (.inr ⟨k,j,rfl⟩) λo R=>G o (by
   rw [R]
   simp [ad,List.replicate_succ])
  rcases H with rfl | ⟨k,j,rfl⟩<;>exact av (T c C A E (by omega) S)
theorem Bd (w:E7) (Y:Lw) (f g d:Nat) (i m p:Nat) (Q:List (Nat×Nat)->Prop) (c:Nat) (u:Y.cps[i]? =some c) (q:Y.cps.length<=10) (l:Int) (t h j k n:Nat) (e:List E4) (b:List (Nat×Nat)) (x:0<=l) (v:b.length+l.toNat<=1000) (s:fE w.params e) (r:∀o,ad o=ad b++FV l.toNat c->Q o):ab (env w) {f9 w Y f g d i m p Q 0 l t h j k e n b with c:=bB (gU w.params) 1 g d (aq w.params Y) f [(⟨⟨[114,111,119]⟩⟩,Y.c6),(⟨⟨[110,97,109,101,115]⟩⟩,Y.c1)]}:=
 dq jQ (o:=bG 0 l 1 t h j) rfl (by simp [f9]) (by kernel_rfl) (by kernel_rfl) rfl (Be w Y f g d i m p Q c u q l.toNat 0 l t h j k n e b (by omega) v s r)
def jW (w:E7) (Y:Lw) (d e b R r:Nat) (f:List (Int×Nat)) (Q:List (Nat×Nat)->Prop) (i:Nat) (l:Int) (t k m g:Nat) (lo:List E4) (j:Nat) (h:List (Nat×Nat)):af:={d:=30,α:=List (Nat×Nat)×Nat×List E4×Nat,c:=dE (gU w.params) 0 e b (aq w.params Y) d [(⟨⟨[114,111,119]⟩⟩,Y.c6),(⟨⟨[110,97,109,101,115]⟩⟩,Y.c1)],need:=[(e,bG ((i:Nat):Int) l 1 t k m),(d,oD lo j),(b,ae (h.map cv) g),(Y.c1,aK (.str ⟨⟨Y.cps⟩⟩ Y.tN)),(Y.c6,aj R),(R,ae (f.map iv) r)],new:=λx=>[(d,oD x.2.2.1 x.2.2.2),(b,ae (x.1.map cv) x.2.1),(Y.c1,aK (.str ⟨⟨Y.cps⟩⟩ Y.tN)),(Y.c6,aj R),(R,ae (f.map iv) r)],post:=λx=>Q x.1/\kX w.params x.2.2.1}
def cQ (x:Int):Int:=if 0< x.fmod 4-1 then x.fmod 4-1-0 else 0
theorem ox (x:Int): -1<=x.fmod 4-1/\x.fmod 4-1<=2/\0<=cQ x/\cQ x<=2:=by
 have h:x.fmod 4=x %4:=GL _ (by omega)
 unfold cQ
 rw [h]
 refine ⟨by omega,by omega, ?_, ?_⟩<;>split<;>omega
def dp (b:List Nat) (r:List (Int×Nat)):Nat->Nat->List Nat
 | _,0=>[]
 | i,n+1=>FV (cQ (r.getD i (0,0)).1).toNat (b.getD i 0)++dp b r (i+1) n
theorem Bc (w:E7) (Y:Lw) (B u A R P:Nat) (r:List (Int×Nat)) (h5:Y.cps.length<=10) (Iz:r.length<=20):∀(n:Nat) (Q:List (Nat×Nat)->Prop) (i:Nat) (f:Int) (p q t e l:Nat) (lo:List E4) (b:List (Nat×Nat)),f=(n:Nat)->i+n<=r.length->i+n<=Y.cps.length->b.length+2*n<=900->(lo=[]\/∃k G g,fE w.params g/\lo=es w.params [105] k G::g)->
 (∀o,ad o=ad b++dp Y.cps r i n->Q o)->ab (env w) (jW w Y B u A R P r Q i f p q t e lo l b):=by
 intro n
 induction n with
 | zero=>
  intro Q i f p q t e l lo b hl h1 C hz gt Z
  have E:¬0< f:=by omega
  have hq:Q b:=Z b (by simp [dp])
  rcases gt with rfl | ⟨k,G,g,D,rfl⟩
  .exact ct (λ_ m=> .seg 68736258049 λH=> .use _ (cg w u (↑i:Int) f 1 p q t E) [0] [] λh C=> .seg 2 λy=>m (b,e,[],l) ⟨hq, .inl rfl⟩ [] [3,3,3,3,3] [])
  .rcases D with rfl | ⟨N,S,rfl⟩
   .exact ct (λ_ m=> .seg 68736258049 λH=> .use _ (cg w u (↑i:Int) f 1 p q t E) [0] [] λh C=> .seg 2 λy=>m (b,e,[es w.params [105] k G],l) ⟨hq, .inr (.inl ⟨k,G,rfl⟩)⟩ [] [3,3,3,3,3] [])
   .exact ct (λ_ m=> .seg 68736258049 λH=> .use _ (cg w u (↑i:Int) f 1 p q t E) [0] [] λh C=> .seg 2 λy=>m (b,e,[es w.params [105] k G,es w.params [97,103,97,105,110] N S],l) ⟨hq, .inr (.inr ⟨k,G,N,S,rfl⟩)⟩ [] [3,3,3,3,3] [])
 | succ n ih=>
  intro Q i f p q t e l lo b hl h1 C hz gt Z
  have E:0< f:=by omega
  have hi:i< r.length:=by omega
  have hc:i< Y.cps.length:=by omega
  have W:r[i]? =some r[i]:=Ff hi
  have Iw:Y.cps[i]? =some Y.cps[i]:=Ff hc
  obtain ⟨b1,X,b3,b4⟩:=ox r[i].1
  have ac:∀(g:List E4),fE w.params g->∀(F u1 u2 u3 k v e l:Nat),ab (env w) {f9 w Y B F A i k v (λo=>ad o=ad b++FV (cQ r[i].1).toNat Y.cps[i]) 0 (cQ r[i].1) u1 u2 u3 e g l b with c:=bB (gU w.params) 1 F A (aq w.params Y) B [(⟨⟨[114,111,119]⟩⟩,Y.c6),(⟨⟨[110,97,109,101,115]⟩⟩,Y.c1)]}:=λg D F u1 u2 u3 k v e l=>
   Bd w Y B F A i k v _ Y.cps[i] Iw h5 (cQ r[i].1) u1 u2 u3 e l g b b3 (by omega) D λo Ix=>Ix
  have nx:∀(k v e l:Nat) (g:List E4) (o:List (Nat×Nat)),(ad o=ad b++FV (cQ r[i].1).toNat Y.cps[i])->fE w.params g->ab (env w) (jW w Y B u A R P r Q (i+1) (f-1) 0 0 t e (es w.params [105] k (.int ((i:Nat):Int) v)::g) l o):=λk v e l g o ho D=>by
   have IA:o.length=b.length+(cQ r[i].1).toNat:=by
    have:=congrArg Fl ho
    simpa [ad] using this
   refine ih Q (i+1) (f-1) 0 0 t e l _ o (by omega) (by omega) (by omega) (by omega) (.inr ⟨k,_,g,D,rfl⟩) λo' Iy=>Z o' ?_
   rw [Iy,ho,Fm]
   congr 1
   show _=FV (cQ (r.getD i (0,0)).1).toNat (Y.cps.getD i 0)++dp Y.cps r (i+1) n
   rw [GK,GK,W,Iw]
   rfl
  rcases gt with rfl | ⟨k,G,g,D,rfl⟩
  .exact av (have he: -1<=(((r[i]:Int×Nat).1.fmod 4)-1)/\(((r[i]:Int×Nat).1.fmod 4)-1)<=2:=⟨b1,X⟩;λ_ m=> .seg 68736258049 λH=> .use _ (bY w u (↑i:Int) f 1 p q t ((↑i:Int)+1) (f-1) E rfl rfl) [0] [] λh C=> .seg 0x6001006006006002005000000002002 λy=> .use _ (bH iv w R P h (↑i:Int) i r (r[i]) rfl W (by omega)) [5] [] λx4 h4=> .seg 1 λI=> .use _ (eO w ((r[i]:Int×Nat).1) 4 ((r[i]:Int×Nat).2) (I 0) ((r[i]:Int×Nat).1.fmod 4) (by trivial) rfl) [] [] λU h6=> .seg 1 λJ=> .use _ (bx w ((r[i]:Int×Nat).1.fmod 4) 1 U (J 0) (((r[i]:Int×Nat).1.fmod 4)-1) rfl) [] [] λV h8=> .seg 0x1001001001001001001001001001001001001001 λO=> .use _ (gQ w (O 2) 0 (((r[i]:Int×Nat).1.fmod 4)-1) (O 0) V (O 1) (cQ r[i].1) (by trivial) (by omega) rfl) [0] [] λT It=> .seg 2 λio=> .use _ ((ac [] (.inl rfl)) T 0 0 0 (y 0) h e (l+1)) [1,3,3,3] [] λx s=>have L:(λ(o:List (Nat×Nat))=>ad o=ad b++FV (Int.toNat (cQ r[i].1)) (Y.cps[i])) x.1:=(Fv s);have M:fE w.params x.2.2.1:=(Fe s); .seg 0 λrw=> .use _ (nx (y 0) h (x.2.1) (x.2.2.2) (x.2.2.1) (x.1) L M) [5,0,0,0,2,1] [] λd j=>have Iu:Q d.1:=(Fv j);have Iv:kX w.params d.2.2.1:=(Fe j);m (d.1,d.2.1,d.2.2.1,d.2.2.2) j [] [0,0,0,0,0] [])
  .rcases D with rfl | ⟨N,S,rfl⟩
   .exact av (have he: -1<=(((r[i]:Int×Nat).1.fmod 4)-1)/\(((r[i]:Int×Nat).1.fmod 4)-1)<=2:=⟨b1,X⟩;λ_ m=> .seg 68736258049 λH=> .use _ (bY w u (↑i:Int) f 1 p q t ((↑i:Int)+1) (f-1) E rfl rfl) [0] [] λh C=> .seg 0x6001006006006002005000000002002 λy=> .use _ (bH iv w R P h (↑i:Int) i r (r[i]) rfl W (by omega)) [5] [] λx4 h4=> .seg 1 λI=> .use _ (eO w ((r[i]:Int×Nat).1) 4 ((r[i]:Int×Nat).2) (I 0) ((r[i]:Int×Nat).1.fmod 4) (by trivial) rfl) [] [] λU h6=> .seg 1 λJ=> .use _ (bx w ((r[i]:Int×Nat).1.fmod 4) 1 U (J 0) (((r[i]:Int×Nat).1.fmod 4)-1) rfl) [] [] λV h8=> .seg 0x1001001001001001001001001001001001001001 λO=> .use _ (gQ w (O 2) 0 (((r[i]:Int×Nat).1.fmod 4)-1) (O 0) V (O 1) (cQ r[i].1) (by trivial) (by omega) rfl) [0] [] λT It=> .seg 2 λio=> .use _ ((ac [] (.inl rfl)) T 0 0 0 k h e l) [1,3,3,3] [] λx s=>have L:(λ(o:List (Nat×Nat))=>ad o=ad b++FV (Int.toNat (cQ r[i].1)) (Y.cps[i])) x.1:=(Fv s);have M:fE w.params x.2.2.1:=(Fe s); .seg 0 λrw=> .use _ (nx k h (x.2.1) (x.2.2.2) (x.2.2.1) (x.1) L M) [5,0,0,0,2,1] [] λd j=>have Iu:Q d.1:=(Fv j);have Iv:kX w.params d.2.2.1:=(Fe j);m (d.1,d.2.1,d.2.2.1,d.2.2.2) j [] [0,0,0,0,0] [])
   .exact av (have he: -1<=(((r[i]:Int×Nat).1.fmod 4)-1)/\(((r[i]:Int×Nat).1.fmod 4)-1)<=2:=⟨b1,X⟩;λ_ m=> .seg 68736258049 λH=> .use _ (bY w u (↑i:Int) f 1 p q t ((↑i:Int)+1) (f-1) E rfl rfl) [0] [] λh C=> .seg 0x6001006006006002005000000002002 λy=> .use _ (bH iv w R P h (↑i:Int) i r (r[i]) rfl W (by omega)) [5] [] λx4 h4=> .seg 1 λI=> .use _ (eO w ((r[i]:Int×Nat).1) 4 ((r[i]:Int×Nat).2) (I 0) ((r[i]:Int×Nat).1.fmod 4) (by trivial) rfl) [] [] λU h6=> .seg 1 λJ=> .use _ (bx w ((r[i]:Int×Nat).1.fmod 4) 1 U (J 0) (((r[i]:Int×Nat).1.fmod 4)-1) rfl) [] [] λV h8=> .seg 0x1001001001001001001001001001001001001001 λO=> .use _ (gQ w (O 2) 0 (((r[i]:Int×Nat).1.fmod 4)-1) (O 0) V (O 1) (cQ r[i].1) (by trivial) (by omega) rfl) [0] [] λT It=> .seg 2 λio=> .use _ ((ac _ (.inr ⟨N,S,rfl⟩):∀(F u1 u2 u3 k v e l:Nat),ab (env w) {f9 w Y B F A i k v (λo=>ad o=ad b++FV (cQ r[i].1:Int).toNat (Y.cps[i])) 0 (cQ r[i].1) u1 u2 u3 e [es w.params [97,103,97,105,110] N S] l b with c:=bB (gU w.params) 1 F A (aq w.params Y) B [(⟨⟨[114,111,119]⟩⟩,Y.c6),(⟨⟨[110,97,109,101,115]⟩⟩,Y.c1)]}) T 0 0 0 k h e l) [1,3,3,3] [] λx s=>have L:(λ(o:List (Nat×Nat))=>ad o=ad b++FV (Int.toNat (cQ r[i].1)) (Y.cps[i])) x.1:=(Fv s);have M:fE w.params x.2.2.1:=(Fe s); .seg 0 λrw=> .use _ (nx k h (x.2.1) (x.2.2.2) (x.2.2.1) (x.1) L M) [5,0,0,0,2,1] [] λd j=>have Iu:Q d.1:=(Fv j);have Iv:kX w.params d.2.2.1:=(Fe j);m (d.1,d.2.1,d.2.2.1,d.2.2.2) j [] [0,0,0,0,0] [])
theorem Bb (w:E7) (Y:Lw) (d i b R k:Nat) (r:List (Int×Nat)) (p:Y.cps.length<=10) (m:r.length<=20) (l:Int) (t e f g j:Nat) (n:Nat) (q:l=(n:Nat)) (s:n<=r.length) (u:n<=Y.cps.length):ab (env w) {jW w Y d i b R k r (λo=>ad o=dp Y.cps r 0 n) 0 l t e f g [] j [] with c:=bB (gU w.params) 0 i b (aq w.params Y) d [(⟨⟨[114,111,119]⟩⟩,Y.c6),(⟨⟨[110,97,109,101,115]⟩⟩,Y.c1)]}:=
 dq jQ (o:=bG ((0:Nat):Int) l 1 t e f) rfl (by simp [jW]) (by kernel_rfl) (by kernel_rfl) rfl (Bc w Y d i b R k r p m n _ 0 l t e f g j [] [] q (by omega) (by omega) (by simp;omega) (.inl rfl) λo h=>by simpa [ad] using h)
theorem iZ (N:List NL) (x:NL):([(x.a,ae (x.ps.map cv) x.n)]++bh N).Perm (bh (N++[x])):=by
 unfold bh
 rw [HJ]
 simp only [GN,List.flatMap_nil,FJ]
 exact FD
def sJ (w:E7) (Y:Lw) (i h e la nd:Nat) (n:Int) (Q:MI->MI->MI->List NL->Prop) (k:List E4) (v:Int) (l:Int) (t u y j:Nat) (r:List E4) (s:Obj) (p o q:MI) (d b f:Nat) (m:List (Nat×Nat×Nat)) (g:Nat) (N:List NL):af:={d:=45,α:=(Nat×Int×Nat×Nat×Nat)×(MI×MI×MI×List NL)×(Nat×Nat×Nat×Nat),c:=bR (aA (aI w.params) 8) (.ref i) (aq w.params Y),need:=[(i,bG v l 1 t u y),(Y.fr,bv ([es w.params [115,99,114,105,112,116] Y.k1 (.ref Y.sa),es w.params [115,105,122,101] Y.k2 (.int n Y.tn),es w.params [99,101,108,108,115] Y.k3 (.ref Y.y)]++(k++r)) j Y.sl),(Y.y,ae (Y.ys.map iv) Y.yn),(Y.c1,aK (.str ⟨⟨Y.cps⟩⟩ Y.tN)),(Y.c2,aj h),(Y.c3,aj e),(Y.c4,aj la),(Y.c5,aj nd),(Y.c6,s),(h,dO w.params (.type "dict") none iv p d),(e,dO w.params (.type "dict") none iv o b),(la,dO w.params (.type "dict") none iv q f),(nd,dO w.params (.type "dict") none .ref m g)],new:=λx=>[(Y.fr,bv ([es w.params [115,99,114,105,112,116] Y.k1 (.ref Y.sa),es w.params [115,105,122,101] Y.k2 (.int n Y.tn),es w.params [99,101,108,108,115] Y.k3 (.ref Y.y)]++(k++[es w.params [106] x.1.1 (.int x.1.2.1 x.1.2.2.1)])) x.1.2.2.2.1 Y.sl),(Y.c1,aK (.str ⟨⟨Y.cps⟩⟩ Y.tN)),(Y.c2,aj h),(Y.c3,aj e),(Y.c4,aj la),(Y.c5,aj nd),(Y.c6,aj x.1.2.2.2.2),(h,dO w.params (.type "dict") none iv x.2.1.1 x.2.2.1),(e,dO w.params (.type "dict") none iv x.2.1.2.1 x.2.2.2.1),(la,dO w.params (.type "dict") none iv x.2.1.2.2.1 x.2.2.2.2.1),(nd,dO w.params (.type "dict") none .ref (aM x.2.1.2.2.2) x.2.2.2.2.2)],post:=λx=>Q x.2.1.1 x.2.1.2.1 x.2.1.2.2.1 x.2.1.2.2.2,needB:=[bh N],putB:=λx=>[bh x.2.1.2.2.2]}
theorem fi {d:Type} {m:List (Nat×Nat×d)} {c t:Nat} {v:d} (h:c∉ak m):aw m c t v=m++[(c,t,v)]:=by
 induction m with
 | nil=>rfl
 | cons x m i=>
  obtain ⟨k,u,y⟩:=x
  have b:c≠k/\c∉ak m:=by
   unfold ak at h
   rw [Fu,GP,not_or] at h
   exact h
  unfold aw
  rw [if_neg (λq=>b.1 q.symm),i b.2]
  rfl
theorem ou {b:List Nat} {r:List (Int×Nat)} {p:Nat}:∀{n i:Nat},p∈dp b r i n->∃k,i<=k/\k< i+n/\p=b.getD k 0
 | 0,i,h=>by cases h
 | n+1,i,h=>by
  rcases GB.mp h with q | q
  .exact ⟨i,FM _,by omega,(List.mem_replicate.mp q).2⟩
  .obtain ⟨k,e,f,d⟩:=ou q
   exact ⟨k,by omega,by omega,d⟩
theorem Dj {b:List Nat} (e:b.Nodup) {i k:Nat} (d:i< b.length) (hk:k< b.length) (h:b.getD i 0=b.getD k 0):i=k:=by
 rw [GK,GK,Ff d,Ff hk] at h
 exact (List.getElem_inj e).mp h
theorem tG {d:List Nat} {row:List (Int×Nat)} (e:d.Nodup) (p:Nat):∀{n i:Nat},i+n<=d.length->(dp d row i n).count p<=2
 | 0,i,_=>Gg _
 | n+1,i,h=>by
  have j:=tG (row:=row) e p (n:=n) (i:=i+1) (by omega)
  have b:=ox (row.getD i (0,0)).1
  unfold dp
  rw [List.count_append,List.count_replicate]
  by_cases q:d.getD i 0=p
  .have f:(dp d row (i+1) n).count p=0:=Hl.mpr λz=>by
    obtain ⟨k,l,m,g⟩:=ou z
    have:=Dj e (i:=i) (k:=k) (by omega) (by omega) (q.trans g)
    omega
   rw [f]
   split<;>omega
  .have:((d.getD i 0)==p)=false:=by simpa using q
   rw [this]
   simpa using j
theorem tE {cps:List Nat} {row:List (Int×Nat)}:∀{n i:Nat},(dp cps row i n).length<=2*n
 | 0,i=>FM _
 | n+1,i=>by
  have d:=tE (cps:=cps) (row:=row) (n:=n) (i:=i+1)
  have b:=ox (row.getD i (0,0)).1
  unfold dp
  rw [FU,HX]
  omega
structure dH (cps:List Nat) (j:Nat) (mh me ml:MI) (N:List NL):Prop where
 kh:ak mh=cps.take j
 ke:ak me=cps.take j
 kl:ak ml=cps.take j
 kn:aU N=cps.take j
 vh:∀x∈mh,0<=x.2.2.1/\x.2.2.1<=3
 ve:∀x∈me,1<=x.2.2.1/\x.2.2.1<=3
 vl:∀x∈ml,1<=x.2.2.1/\x.2.2.1<=3
 vn:∀i x,N[i]? =some x->(∀p∈ad x.ps,p∈cps.take i)/\(∀p,(ad x.ps).count p<=2)/\x.ps.length<=2*i
theorem f5 {b:List Nat} {j c:Nat} (h:b[j]? =some c):b.take (j+1)=b.take j++[c]:=by
 rw [List.take_add_one,h];rfl
theorem hY {b:List Nat} (f:b.Nodup) {j c:Nat} (h:b[j]? =some c):c∉b.take j:=λz=>by
 obtain ⟨k,hk,e⟩:=Is.mp z
 rw [FN] at hk
 rw [GM] at e
 obtain ⟨g,d⟩:=E8.mp h
 have:=(List.getElem_inj f).mp (e.trans d.symm)
 omega
theorem dH.next {d:List Nat} (r:d.Nodup) {j c:Nat} (f:d[j]? =some c) {w u A:MI} {N:List NL} (J:dH d j w u A N) {x:Int} {H:List (Int×Nat)} {uh ue ul un vh ve vl a n:Nat} {e:List (Nat×Nat)} (l:ad e=dp d H 0 j):
 dH d (j+1) (aw w c uh (x.fmod 4,vh)) (aw u c ue ((x.fdiv 4).fmod 3+1,ve)) (aw A c ul ((x.fdiv 12).fmod 3+1,vl)) (N++[NL.mk (c,un) a e n])/\aw (aM N) c un a=aM (N++[NL.mk (c,un) a e n]):=by
 have g:=hY r f
 have L:j< d.length:=(E8.mp f).1
 have G:∀x:Int,0<=x.fmod 4/\x.fmod 4<=3:=λx=>by
  rw [GL _ (by omega)];omega
 have s:∀x:Int,1<=x.fmod 3+1/\x.fmod 3+1<=3:=λx=>by
  rw [GL _ (by omega)];omega
 have o:∀{B:Type} {m:List (Nat×Nat×B)} {t:Nat} {v:B},ak m=d.take j->ak (m++[(c,t,v)])=d.take (j+1):=λh=>by
  rw [f5 f,<-h];unfold ak;rw [Fd];rfl
 have F:ak (aM N)=d.take j:=by
  rw [<-J.kn];unfold ak aM aU;rw [GS];rfl
 rw [fi (by rw [J.kh];exact g),fi (by rw [J.ke];exact g),fi (by rw [J.kl];exact g),fi (by rw [F];exact g)]
 refine ⟨⟨o J.kh,o J.ke,o J.kl, ?_, ?_, ?_, ?_, ?_⟩, ?_⟩
 .rw [f5 f,<-J.kn];unfold aU;rw [Fd];rfl
 .intro y b
  rcases GB.mp b with q | q
  .exact J.vh y q
  .rw [Gb.mp q];exact G x
 .intro y b
  rcases GB.mp b with q | q
  .exact J.ve y q
  .rw [Gb.mp q];exact s _
 .intro y b
  rcases GB.mp b with q | q
  .exact J.vl y q
  .rw [Gb.mp q];exact s _
 .intro i y b
  have E:N.length=j:=by
   have:=congrArg Fl J.kn
   unfold aU at this
   rw [Fo,FN] at this
   omega
  by_cases C:i< N.length
  .rw [List.getElem?_append_left C] at b
   exact J.vn i y b
  .rw [List.getElem?_append_right (by omega)] at b
   have D:i=j:=by
    have:=(E8.mp b).1
    simp at this
    omega
   subst D
   rw [E] at b
   simp at b
   subst b
   refine ⟨λp hp=> ?_,λp=> ?_, ?_⟩
   .have hp:p∈ad e:=hp
    rw [l] at hp
    obtain ⟨k,_,I,rfl⟩:=ou hp
    have hk:k< d.length:=by omega
    rw [GK,Ff hk]
    exact Is.mpr ⟨k,by rw [FN];omega,by rw [GM];rfl⟩
   .show (ad e).count p<=2
    rw [l];exact tG r p (by omega)
   .show e.length<=2*i
    rw [<-eV,l];exact tE
 .unfold aM;rw [Fd];rfl
theorem Cq:∀n,n< 6->∀j,j< n->((n:Nat):Int)+(((j:Nat):Int)*(((j:Nat):Int)-1)).fdiv 2=((n+j*(j-1)/2:Nat):Int)/\((n:Nat):Int)+(((j:Nat):Int)*(((j:Nat):Int)+1)).fdiv 2=((n+j*(j+1)/2:Nat):Int)/\n+j*(j-1)/2<=n+j*(j+1)/2/\n+j*(j+1)/2<=n+n*(n-1)/2/\n+j*(j+1)/2-(n+j*(j-1)/2)=j:=by decide+kernel
theorem Cp:∀n j:Nat,n<=5->j< n->∃a b:Nat,((n:Nat):Int)+(((j:Nat):Int)*(((j:Nat):Int)-1)).fdiv 2=((a:Nat):Int)/\((n:Nat):Int)+(((j:Nat):Int)*(((j:Nat):Int)+1)).fdiv 2=((b:Nat):Int)/\a<=b/\b<=n+n*(n-1)/2/\b-a=j:=λn j d h=>⟨_,_,Cq n (Nat.lt_succ_of_le d) j h⟩
theorem mY {m:MI} {l:List Nat} {j:Nat} (h:ak m=l.take j) (b:j<=5):m.length<=10:=by have:=congrArg Fl h;unfold ak at this;rw [Fo,FN] at this;omega
theorem uf (w:E7) (Y:Lw) (o F E la:Nat) (Q:MI->MI->MI->List NL->Prop) (B:List E4) (Jz:B=[]\/∃k4 kv kt,B=[es w.params [107] k4 (.int kv kt)]) (n:Nat) (Iu:n<=5) (hn:Y.cps.length=n) (JB:Y.cps.Nodup) (I8:Y.ys.length=n+n*(n-1)/2) (c:Nat) (I9:List Nat) (j:Nat) (t:Int) (C D u h:Nat) (II:List E4) (o6:Obj) (hm:(II=[]/\o6=br)\/∃A jv y R,II=[es w.params [106] A (.int jv y)]/\o6=aj R) (q p r:MI) (l k m g:Nat) (N:List NL) (hd:Y.cps.drop j=c::I9) (hl:t=((c::I9).length:Nat)) (J:dH Y.cps j q p r N)
 (T:∀(A y h R l k m g:Nat) (q p r:MI) (N:List NL),dH Y.cps (j+1) q p r N->ab (env w) (sJ w Y o F E la Y.nd ((n:Nat):Int) Q B (((j:Nat):Int)+1) (t-1) 0 0 u h [es w.params [106] A (.int ((j:Nat):Int) y)] (aj R) q p r l k m (aM N) g N)):
 ab (env w) (sJ w Y o F E la Y.nd ((n:Nat):Int) Q B ((j:Nat):Int) t C D u h II o6 q p r l k m (aM N) g N):=by
 let pJ:∀{w:E7} {lo:List E4} {B:List E4} {cR:Obj} {Y:Lw} {o F E la:Nat} {I:Int} {Q:MI->MI->MI->List NL->Prop} {i:Nat} {t:Int} {C D u h:Nat} {q p r:MI} {l k m:Nat} {H:List (Nat×Nat×Nat)} {g:Nat} {N:List NL} (c:Nat) (x:Int×Nat) (L:List (Int×Nat)) (a b:Nat) (Z V m1 X W m2 l1 jm p1 q1 G p2 q2:Int) (hl:0< t) (v:Y.cps[i]? =some c) (S:Y.ys[i]? =some x) (hh:x.1.fmod 4=Z) (IU:x.1.fdiv 4=V) (IZ:V.fmod 3=m1) (IW:m1+1=X) (IV:x.1.fdiv 12=W) (I0:W.fmod 3=m2) (IY:m2+1=l1) (IX:((i:Nat):Int)-1=jm) (I3:((i:Nat):Int)*jm=p1) (I5:p1.fdiv 2=q1) (ha:I+q1=((a:Nat):Int)) (ID:((i:Nat):Int)+1=G) (I4:((i:Nat):Int)*G=p2) (I6:p2.fdiv 2=q2) (hb:I+q2=((b:Nat):Int)) (io:a<=b/\b<=Y.ys.length) (I7:(Y.ys.drop a).take (b-a)=L) (IS:Y.ys.length<=20) (h5:Y.cps.length<=10) (Jw:i<=5) (JG:q.length<=10) (JH:p.length<=10) (JI:r.length<=10) (JJ:H.length<=10) (rw:∀(cl o gt R rn C D u an IG:Nat),ab (env w) {jW w Y cl o gt R rn L (λIJ=>ad IJ=dp Y.cps L 0 i) 0 ((i:Nat):Int) C D u an [] IG [] with c:=bB (gU w.params) 0 o gt (aq w.params Y) cl [(⟨⟨[114,111,119]⟩⟩,Y.c6),(⟨⟨[110,97,109,101,115]⟩⟩,Y.c1)]}) (T:∀(A y h R l k m g uh ue ul M vh ve vl a n:Nat) (U:List (Nat×Nat)),ad U=dp Y.cps L 0 i->ab (env w) (sJ w Y o F E la Y.nd I Q B G (t-1) 0 0 u h [es w.params [106] A (.int ((i:Nat):Int) y)] (aj R) (aw q c uh (Z,vh)) (aw p c ue (X,ve)) (aw r c ul (l1,vl)) l k m (aw H c M a) g (N++[NL.mk (c,M) a U n]))),PP (env w) (sJ w Y o F E la Y.nd I Q B ((i:Nat):Int) t C D u h lo cR q p r l k m H g N):= @λw lo B cR Y o F E la I Q i t C D u h q p r l k m H g N c x L a b Z V m1 X W m2 l1 jm p1 q1 G p2 q2 hl v S hh IU IZ IW IV I0 IY IX I3 I5 ha ID I4 I6 hb io I7 IS h5 Jw JG JH JI JJ rw T _ τ=>
  .seg 68736258049 λO1=> .use _ (bY w o (↑i:Int) t 1 C D u G (t-1) hl ID rfl) [0] [] λe h2=> .seg 0x3001003003003002002002002 λO3=> .use _ (bH iv w Y.y Y.yn e (↑i:Int) i Y.ys x rfl S (by omega)) [2] [] λx4 h4=> .seg 1 λO5=> .use _ (eO w (x.1) 4 (x.2) (O5 0) Z (by trivial) hh) [] [] λx6 h6=> .seg 68769824773 λO7=> .use _ (gG w Y.cps Y.tN (↑i:Int) e i c rfl v (by omega)) [] [] λx8 h8=> .seg 687211585546 λO9=> .use _ (f6 w F none l c x8 q Z x6 (by omega)) [9] [] λIM Kc=> .seg 0x2001002002002004004 λJW=> .use _ (bH iv w Y.y Y.yn e (↑i:Int) i Y.ys x rfl S (by omega)) [1] [] λKC Kd=> .seg 1 λJa=> .use _ (g9 w (x.1) 4 (x.2) (Ja 0) V (by trivial) (by trivial) IU) [] [] λJK Ke=> .seg 1 λJb=> .use _ (eO w V 3 JK (Jb 0) m1 (by trivial) IZ) [] [] λJL Kf=> .seg 1 λJc=> .use _ (b8 w m1 1 JL (Jc 0) X IW) [] [] λIv Kg=> .seg 68786606087 λJX=> .use _ (gG w Y.cps Y.tN (↑i:Int) e i c rfl v (by omega)) [] [] λIw IS=> .seg 755931066379 λJY=> .use _ (f6 w E none k c Iw p X Iv (by omega)) [10] [] λIN Kh=> .seg 0x2001002002002005005 λJZ=> .use _ (bH iv w Y.y Y.yn e (↑i:Int) i Y.ys x rfl S (by omega)) [1] [] λKD Ki=> .seg 1 λJe=> .use _ (g9 w (x.1) 12 (x.2) (Je 0) W (by trivial) (by trivial) IV) [] [] λx26 Kj=> .seg 1 λJf=> .use _ (eO w W 3 x26 (Jf 0) m2 (by trivial) I0) [] [] λx28 Kk=> .seg 1 λJg=> .use _ (b8 w m2 1 x28 (Jg 0) l1 IY) [] [] λIx Kl=> .seg 68803387401 λJ3=> .use _ (gG w Y.cps Y.tN (↑i:Int) e i c rfl v (by omega)) [] [] λIy Km=> .seg 824650547212 λJ4=> .use _ (f6 w la none m c Iy r l1 Ix (by omega)) [11] [] λIP Kn=> .seg 281887394258950 λJh=> .use _ (bx w (↑i:Int) 1 e (Jh 0) jm IX) [] [] λJM Ko=> .seg 1 λJ5=> .use _ (gp w (↑i:Int) jm e JM p1 (by omega) I3) [] [] λJN Kp=> .seg 1 λJi=> .use _ (g9 w p1 2 JN (Ji 0) q1 (by trivial) (by trivial) I5) [] [] λJO Kq=> .seg 1 λJ6=> .use _ (b8 w I q1 Y.tn JO (↑a:Int) ha) [] [] λJP Kr=> .seg 68820164614 λJj=> .use _ (b8 w (↑i:Int) 1 e (Jj 0) G ID) [] [] λJQ Ks=> .seg 1 λJ7=> .use _ (gp w (↑i:Int) G e JQ p2 (by omega) I4) [] [] λJR Kt=> .seg 1 λJk=> .use _ (g9 w p2 2 JR (Jk 0) q2 (by trivial) (by trivial) I6) [] [] λJS Ku=> .seg 1 λJ8=> .use _ (b8 w I q2 Y.tn JS (↑b:Int) hb) [] [] λJT Kv=> .seg 844493699952643 λJl=> .use _ (BK iv w Y.y Y.yn (Jl 0) Y.ys (↑a:Int) (↑b:Int) JP JT L a b rfl rfl io (by omega) I7) [2,0] [] λIz Kw=> .seg 0x100100100100100100100100100100100100100100800000000e00e λIA=> .use _ (lM w (IA 2) 0 (↑i:Int) (IA 0) e (IA 1) ((↑i:Int)-0) (by omega) rfl) [0] [] λJU Kx=> .seg 2 λO=> .use _ (rw (O 1) JU (O 0) Iz 0 0 0 0 0 0) [3,0,0,9,13,3] [] λf IT=>have IB:(λ(IJ:List (Nat×Nat))=>ad IJ=dp Y.cps L 0 i) f.1:=(Fv IT);have Jr:kX w.params f.2.2.1:=(Fe IT); .or _ _ (Jr) (λIK=> .view [0] [] _ _ _ _ ((bC (a:=O 1) (congrArg (λac=>oD ac f.2.2.2) IK))) (.seg 0x100d003011001001 λJ9=> .use _ (gG w Y.cps Y.tN (↑i:Int) e i c rfl v (by omega)) [] [] λIQ Ky=> .seg 1236967432210 λKa=> .use _ (gH w Y.nd none g c IQ H (O 0) (by omega)) [17] [] λJV Kz=> .seg 0 λKb=> .view [2] [0] _ _ _ _ ((aX (iZ N ⟨(c,IQ),O 0,f.1,f.2.1⟩))) (.use _ (T (kT lo (O3 0)) e (kE lo h) Iz IM IN IP JV x8 Iw Iy IQ x6 Iv Ix (O 0) (f.2.1) (f.1) IB) [11,11,6,2,9,9,9,9,2,7,6,5,0] [0] λs Ju=>τ (((s.1.1,s.1.2.1,s.1.2.2.1,s.1.2.2.2.1,s.1.2.2.2.2),(s.2.1.1,s.2.1.2.1,s.2.1.2.2.1,s.2.1.2.2.2),s.2.2.1,s.2.2.2.1,s.2.2.2.2.1,s.2.2.2.2.2)) Ju [] [0,0,0,0,0,0,0,0,0,0,0] [0]))) (λIK=> .or _ _ (IK) (λIL=> .pick _ _ (IL) λki IE=> .pick _ _ (IE) λvi IF=> .view [0] [] _ _ _ _ ((bC (a:=O 1) (congrArg (λac=>oD ac f.2.2.2) IF))) (.seg 0x100d003011001001001001 λJm=> .use _ (gG w Y.cps Y.tN (↑i:Int) e i c rfl v (by omega)) [] [] λP Js=> .seg 1236967432210 λJo=> .use _ (gH w Y.nd none g c P H (O 0) (by omega)) [17] [] λIR Jt=> .seg 0 λJp=> .view [2] [0] _ _ _ _ ((aX (iZ N ⟨(c,P),O 0,f.1,f.2.1⟩))) (.use _ (T (kT lo (O3 0)) e (kE lo h) Iz IM IN IP IR x8 Iw Iy P x6 Iv Ix (O 0) (f.2.1) (f.1) IB) [11,11,6,2,9,9,9,9,2,7,6,5,0] [0] λd IC=>τ (((d.1.1,d.1.2.1,d.1.2.2.1,d.1.2.2.2.1,d.1.2.2.2.2),(d.2.1.1,d.2.1.2.1,d.2.1.2.2.1,d.2.1.2.2.2),d.2.2.1,d.2.2.2.1,d.2.2.2.2.1,d.2.2.2.2.2)) IC [] [0,0,0,0,0,0,0,0,0,0,0] [0]))) (λIL=> .pick _ _ (IL) λki IE=> .pick _ _ (IE) λvi IF=> .pick _ _ (IF) λka Jy=> .pick _ _ (Jy) λva JE=> .view [0] [] _ _ _ _ ((bC (a:=O 1) (congrArg (λac=>oD ac f.2.2.2) JE))) (.seg 0x100d003011001001001001001001 λJm=> .use _ (gG w Y.cps Y.tN (↑i:Int) e i c rfl v (by omega)) [] [] λP Js=> .seg 1236967432210 λJo=> .use _ (gH w Y.nd none g c P H (O 0) (by omega)) [17] [] λIR Jt=> .seg 0 λJp=> .view [2] [0] _ _ _ _ ((aX (iZ N ⟨(c,P),O 0,f.1,f.2.1⟩))) (.use _ (T (kT lo (O3 0)) e (kE lo h) Iz IM IN IP IR x8 Iw Iy P x6 Iv Ix (O 0) (f.2.1) (f.1) IB) [11,11,6,2,9,9,9,9,2,7,6,5,0] [0] λd IC=>τ (((d.1.1,d.1.2.1,d.1.2.2.1,d.1.2.2.2.1,d.1.2.2.2.2),(d.2.1.1,d.2.1.2.1,d.2.1.2.2.1,d.2.1.2.2.2),d.2.2.1,d.2.2.2.1,d.2.2.2.2.1,d.2.2.2.2.2)) IC [] [0,0,0,0,0,0,0,0,0,0,0] [0]))))
 obtain ⟨v,h2⟩:=aQ hd
 have hj:j< Y.cps.length:=(E8.mp v).1
 have JA:0< t:=by rw [hl,Fb];omega
 obtain ⟨a,b,ha,hb,io,Jv,KB⟩:=Cp n j Iu (hn▸hj)
 have Jx:j< Y.ys.length:=by omega
 have S:Y.ys[j]? =some Y.ys[j]:=Ff Jx
 have JF:Y.ys.length<=20:=by
  rw [I8]
  exact FZ (Nat.add_le_add Iu (Nat.div_le_div_right (c:=2) (Nat.mul_le_mul Iu (Nat.sub_le_sub_right Iu 1)))) (by decide)
 have It:j<=5:=by omega
 have z1:q.length<=10:=mY J.kh It
 have z2:p.length<=10:=mY J.ke It
 have z3:r.length<=10:=mY J.kl It
 have z4:(aM N).length<=10:=by have:=congrArg Fl J.kn;unfold aU at this;rw [Fo,FN] at this;unfold aM;rw [Fo];omega
 have JD:((Y.ys.drop a).take (b-a)).length=j:=by rw [FN,G7];omega
 have rw:=λ(cl o gt R rn C D u an IG:Nat)=>Bb w Y cl o gt R rn ((Y.ys.drop a).take (b-a)) (by omega) (by omega) ((j:Nat):Int) C D u an IG j rfl (Nat.le_of_eq JD.symm) (Nat.le_of_lt hj)
 have nx:∀(A y h R l k m g uh ue ul M vh ve vl a1 n1:Nat) (U:List (Nat×Nat)),ad U=dp Y.cps ((Y.ys.drop a).take (b-a)) 0 j->ab (env w) (sJ w Y o F E la Y.nd ((n:Nat):Int) Q B (((j:Nat):Int)+1) (t-1) 0 0 u h [es w.params [106] A (.int ((j:Nat):Int) y)] (aj R) (aw q c uh ((Y.ys[j].1).fmod 4,vh)) (aw p c ue (((Y.ys[j].1).fdiv 4).fmod 3+1,ve)) (aw r c ul (((Y.ys[j].1).fdiv 12).fmod 3+1,vl)) l k m (aw (aM N) c M a1) g (N++[NL.mk (c,M) a1 U n1])):=λA y h R l k m g uh ue ul M vh ve vl a1 n1 U JC=>by
  obtain ⟨J',Jq⟩:=J.next JB v (x:=Y.ys[j].1) (uh:=uh) (ue:=ue) (ul:=ul) (un:=M) (vh:=vh) (ve:=ve) (vl:=vl) (a:=a1) (n:=n1) JC
  rw [Jq]
  exact T A y h R l k m g _ _ _ _ J'
 rcases Jz with rfl | ⟨k4,kv,kt,rfl⟩<;>rcases hm with ⟨rfl,rfl⟩ | ⟨A,jv,y,R,rfl,rfl⟩<;>exact av (pJ c Y.ys[j] ((Y.ys.drop a).take (b-a)) a b _ _ _ _ _ _ _ _ _ _ _ _ _ JA v S rfl rfl rfl rfl rfl rfl rfl rfl rfl rfl ha rfl rfl rfl hb ⟨io,I8▸Jv⟩ rfl JF (by omega) It z1 z2 z3 z4 rw nx)
theorem Co (w:E7) (Y:Lw) (A E B la:Nat) (Q:MI->MI->MI->List NL->Prop) (x:List E4) (D:x=[]\/∃F G kt,x=[es w.params [107] F (.int G kt)]) (n:Nat) (M:n<=5) (y:Y.cps.length=n) (O:Y.cps.Nodup) (P:Y.ys.length=n+n*(n-1)/2) (I:∀b m d N,dH Y.cps n b m d N->Q b m d N):∀(r:List Nat) (j:Nat) (l:Int) (s u t i o k R:Nat) (q:Int) (b m d:MI) (f e g h:Nat) (N:List NL),Y.cps.drop j=r->j<=Y.cps.length->l=(r.length:Nat)->dH Y.cps j b m d N->ab (env w) (sJ w Y A E B la Y.nd ((n:Nat):Int) Q x ((j:Nat):Int) l s u t i [es w.params [106] o (.int q k)] (aj R) b m d f e g (aM N) h N):=by
 intro r
 induction r with
 | nil=>
  intro j l s u t i o k R q b m d f e g h N p C v J
  have L:j=n:=Nat.le_antisymm (y▸C) (y▸List.drop_eq_nil_iff.mp p)
  rcases D with rfl | ⟨F,G,kt,rfl⟩<;>exact ct (λ_ T=> .seg 68736258049 λU=> .use _ (cg w A ((j:Nat):Int) l 1 s u t (by rw [v];simp:¬0< l)) [0] [] λX W=> .seg 4098 λV=>T (((o,q,k,i,R),(b,m,d,N),f,e,g,h)) (I _ _ _ _ (L▸J):Q b m d N) [] [3,4,4,4,4,4,4,4,4,4,4] [0])
 | cons c r S=>
  intro j l s u t i o k R q b m d f e g h N p C v J
  exact uf w Y A E B la Q x D n M y O P c r j l s u t i _ _ (.inr ⟨o,q,k,R,rfl,rfl⟩) b m d f e g h N p v J λo k i R f e g h b m d N H=>S (j+1) (l-1) 0 0 t i o k R ((j:Nat):Int) b m d f e g h N (aQ p).2 (E8.mp (aQ p).1).1 (by rw [v,Fb];omega) H
theorem Cm (w:E7) (Y:Lw) (s r p la:Nat) (Q:MI->MI->MI->List NL->Prop) (k:List E4) (v:k=[]\/∃L O kt,k=[es w.params [107] L (.int O kt)]) (n:Nat) (A:n<=5) (h:Y.cps.length=n) (B:Y.cps.Nodup) (C:Y.ys.length=n+n*(n-1)/2) (G:∀j m o N,dH Y.cps n j m o N->Q j m o N) (P:0< n) (l:Int) (D E u g b e d f:Nat) (H:l=(n:Nat)):ab (env w) (sJ w Y s r p la Y.nd ((n:Nat):Int) Q k 0 l D E u g [] br [] [] [] b e d [] f []):=by
 obtain ⟨c,t,q⟩:=Fy (l:=Y.cps) (λz=>by rw [z] at h;simp at h;omega)
 have F:dH Y.cps 0 [] [] [] []:=⟨rfl,rfl,rfl,rfl,λ_ z=>(nomatch z),λ_ z=>(nomatch z),λ_ z=>(nomatch z),λi x z=>by simp at z⟩
 have y:l=((c::t).length:Nat):=by rw [H,<-h,q]
 exact uf w Y s r p la Q k v n A h B C c t 0 l D E u g [] br (.inl ⟨rfl,rfl⟩) [] [] [] b e d f [] q y F λM I g R b e d f j m o N J=>Co w Y s r p la Q k v n A h B C G t 1 (l-1) 0 0 u g M I R 0 j m o b e d f N (aQ (i:=0) q).2 (by omega) (by rw [y,Fb];omega) J
def rI (w:E7) (Y:Lw) (n:Nat) (k:List E4) (f:Nat):af:={d:=55,α:=(Nat×Int×Nat×Nat×Nat)×(MI×MI×MI×List NL)×(Nat×Nat×Nat×Nat)×(Nat×Nat×Nat×Nat),c:= .block (((aI w.params).drop 4).take 5) (aq w.params Y),need:=[(Y.fr,bv ([es w.params [115,99,114,105,112,116] Y.k1 (.ref Y.sa),es w.params [115,105,122,101] Y.k2 (.int ((n:Nat):Int) Y.tn),es w.params [99,101,108,108,115] Y.k3 (.ref Y.y)]++(k++[])) f Y.sl),(Y.y,ae (Y.ys.map iv) Y.yn),(Y.c1,aK (.str ⟨⟨Y.cps⟩⟩ Y.tN)),(Y.c2,br),(Y.c3,br),(Y.c4,br),(Y.c5,br),(Y.c6,br)],new:=λx=>[(Y.fr,bv ([es w.params [115,99,114,105,112,116] Y.k1 (.ref Y.sa),es w.params [115,105,122,101] Y.k2 (.int ((n:Nat):Int) Y.tn),es w.params [99,101,108,108,115] Y.k3 (.ref Y.y)]++(k++[es w.params [106] x.1.1 (.int x.1.2.1 x.1.2.2.1)])) x.1.2.2.2.1 Y.sl),(Y.c1,aK (.str ⟨⟨Y.cps⟩⟩ Y.tN)),(Y.c2,aj x.2.2.2.1),(Y.c3,aj x.2.2.2.2.1),(Y.c4,aj x.2.2.2.2.2.1),(Y.c5,aj x.2.2.2.2.2.2),(Y.c6,aj x.1.2.2.2.2),(x.2.2.2.1,dO w.params (.type "dict") none iv x.2.1.1 x.2.2.1.1),(x.2.2.2.2.1,dO w.params (.type "dict") none iv x.2.1.2.1 x.2.2.1.2.1),(x.2.2.2.2.2.1,dO w.params (.type "dict") none iv x.2.1.2.2.1 x.2.2.1.2.2.1),(x.2.2.2.2.2.2,dO w.params (.type "dict") none .ref (aM x.2.1.2.2.2) x.2.2.1.2.2.2)],post:=λx=>dH Y.cps n x.2.1.1 x.2.1.2.1 x.2.1.2.2.1 x.2.1.2.2.2,needB:=[],putB:=λx=>[bh x.2.1.2.2.2]}
def gD (P:E6):Expr:=bI (aA (aY (aA (aI P) 10)) 0)
def fV (P:E6) (x:List E4):Prop:=x=[]\/∃k v,x=[es P [111,110,101] k v]
def ff (w:E7) (Y:Lw) (d e b a n f t k:Nat) (o:Nat×Nat) (p m:List (Nat×Nat)) (i g:Nat) (j:List E4) (l:Nat) (h:List (Nat×Nat)):af:={d:=20,α:=Nat×List E4×Nat,c:=dE (gD w.params) 1 e b (aq w.params Y) d [(⟨⟨[110,101,101,100,115]⟩⟩,Y.c5),(⟨⟨[110,97,109,101]⟩⟩,Y.c7)],need:=[(e,aW "list_iterator" a i),(d,oD (es w.params [111,116,104,101,114] k (cv o)::j) l),(b,ae (h.map cv) g),(a,ae (p.map cv) n),(Y.c7,aK (.str ⟨⟨[f]⟩⟩ t))],new:=λx=>[(d,oD (es w.params [111,116,104,101,114] k (cv o)::x.2.1) x.2.2),(b,ae (m.map cv) x.1),(a,ae (p.map cv) n),(Y.c7,aK (.str ⟨⟨[f]⟩⟩ t))],post:=λx=>fV w.params x.2.1}
theorem xr (w:E7) (Y:Lw) (j f g a n d t m:Nat) (o:Nat×Nat) (p:List (Nat×Nat)):∀(r:List (Nat×Nat)) (i b l:Nat) (F:List E4) (e:List (Nat×Nat)),p.drop i=r->e.length+r.length<=900->fV w.params F->ab (env w) (ff w Y j f g a n d t m o p (e++FV ((ad r).count d) o) i b F l e):=by
 let S:∀{w:E7} {lo:List E4} {Y:Lw} {j f g a n d t m:Nat} {o:Nat×Nat} {p G:List (Nat×Nat)} {i b:Nat} {l:Nat} {e:List (Nat×Nat)} (x:Nat×Nat) (h:p[i]? =some x) (C:e.length<=1000) (E:x.1=d->∀(k:Nat) (v:E9) (b l:Nat),ab (env w) (ff w Y j f g a n d t m o p G (i+1) b [es w.params [111,110,101] k v] l (e++[(o.1,o.2)]))) (D:¬x.1=d->∀(k:Nat) (v:E9) (b l:Nat),ab (env w) (ff w Y j f g a n d t m o p G (i+1) b [es w.params [111,110,101] k v] l e)),PP (env w) (ff w Y j f g a n d t m o p G i b lo l e):= @λw lo Y j f g a n d t m o p G i b l e x h C E D _ u=>
  .seg 68736258049 λJ=> .use _ (cr w f a i n cv p x h) [0,2] [] λM y=> .seg 281818624438275 λO=> .or (x.1=d) (¬(x.1=d)) (FI _) (λA=> .use _ (vG w (x.1) d (x.2) t A) [] [] λT Q=> .seg 67112963 λN=> .use _ (dw w g b e (o.1,o.2) (by omega)) [3] [] λq R=> .seg 0 λU=> .use _ (E A (kT lo (O 0)) (GR (Str.mk (Array.mk [x.1])) x.2) (b+1) (kE lo l)) [1,2,0,0,0] [] λs V=>u (s.1,s.2.1,s.2.2) (show fV w.params (s.1,s.2.1,s.2.2).2.1 from (by trivial)) [] [0,0,0,0] []) (λA=> .use _ (Ey w (x.1) d (x.2) t A) [] [] λT Q=> .seg 0 λN=> .use _ (D A (kT lo (O 0)) (GR (Str.mk (Array.mk [x.1])) x.2) b (kE lo l)) [0,1,1,0,0] [] λq R=>u (q.1,q.2.1,q.2.2) (show fV w.params (q.1,q.2.1,q.2.2).2.1 from (by trivial)) [] [0,0,0,0] [])
 intro r
 induction r with
 | nil=>
  intro i b l F e B C H
  rw [show FV ((ad []).count d) o=[] from rfl,FJ]
  rcases H with rfl | ⟨k,v,rfl⟩
  .exact ct (λ_ u=> .seg 68736258049 λJ=> .use _ (ch w f a i n cv p (aV B)) [0,2] [] λM y=> .seg 3 λO=>u (b,[],l) (show fV w.params (b,[],l).2.1 from (.inl rfl)) [] [4,4,1,3] [])
  .exact ct (λ_ u=> .seg 68736258049 λJ=> .use _ (ch w f a i n cv p (aV B)) [0,2] [] λM y=> .seg 3 λO=>u (b,[es w.params [111,110,101] k v],l) (show fV w.params (b,[es w.params [111,110,101] k v],l).2.1 from (.inr ⟨k,v,rfl⟩)) [] [4,4,1,3] [])
 | cons x r L=>
  intro i b l F e B C H
  obtain ⟨P,y⟩:=aQ B
  rw [Fb] at C
  have ct:(ad (x::r)).count d=(ad r).count d+if x.1=d then 1 else 0:=by
   show (x.1::ad r).count d=_
   rw [List.count_cons]
   simp
  have E:x.1=d->∀(k:Nat) (v:E9) (b l:Nat),ab (env w) (ff w Y j f g a n d t m o p (e++FV ((ad (x::r)).count d) o) (i+1) b [es w.params [111,110,101] k v] l (e++[(o.1,o.2)])):=λI k v b l=>by
   have:=L (i+1) b l [es w.params [111,110,101] k v] (e++[o]) y (by simp;omega) (.inr ⟨k,v,rfl⟩)
   rw [ct,if_pos I,List.replicate_succ]
   rw [Fm] at this
   exact this
  have D:¬x.1=d->∀(k:Nat) (v:E9) (b l:Nat),ab (env w) (ff w Y j f g a n d t m o p (e++FV ((ad (x::r)).count d) o) (i+1) b [es w.params [111,110,101] k v] l e):=λI k v b l=>by
   have:=L (i+1) b l [es w.params [111,110,101] k v] e y (by omega) (.inr ⟨k,v,rfl⟩)
   rw [ct,if_neg I,Nat.add_zero]
   exact this
  rcases H with rfl | ⟨k,v,rfl⟩<;>exact av (S x P (by omega) E D)
theorem xq (w:E7) (Y:Lw) (e i d a n f t k:Nat) (o:Nat×Nat) (p:List (Nat×Nat)) (h l:Nat) (g:List E4) (b:List (Nat×Nat)) (m:b.length+p.length<=900) (j:fV w.params g):ab (env w) {ff w Y e i d a n f t k o p (b++FV ((ad p).count f) o) 0 h g l b with c:=bB (gD w.params) 1 i d (aq w.params Y) e [(⟨⟨[110,101,101,100,115]⟩⟩,Y.c5),(⟨⟨[110,97,109,101]⟩⟩,Y.c7)]}:=
 dq gI (o:=aW "list_iterator" a 0) rfl (by simp [ff]) (by kernel_rfl) (by kernel_rfl) rfl (xr w Y e i d a n f t k o p p 0 h l g b rfl m j)
def jz (P:E6) (x:List E4):Prop:=x=[]\/(∃k v,x=[es P [111,116,104,101,114] k v])\/∃k v b d,x=[es P [111,116,104,101,114] k v,es P [111,110,101] b d]
def jT (w:E7) (Y:Lw) (d e b n t:Nat) (N:List NL) (Q:List (Nat×Nat)->Prop) (i f:Nat) (lo:List E4) (l:Nat) (g:List (Nat×Nat)):af:={d:=30,α:=List (Nat×Nat)×Nat×List E4×Nat,c:=dE (gD w.params) 0 e b (aq w.params Y) d [(⟨⟨[110,101,101,100,115]⟩⟩,Y.c5),(⟨⟨[110,97,109,101]⟩⟩,Y.c7)],need:=[(e,cq Y.cps Y.tN i),(d,oD lo l),(b,ae (g.map cv) f),(Y.c5,aj Y.nd),(Y.nd,dO w.params (.type "dict") none .ref (aM N) Y.en),(Y.c7,aK (.str ⟨⟨[n]⟩⟩ t))],new:=λx=>[(d,oD x.2.2.1 x.2.2.2),(b,ae (x.1.map cv) x.2.1),(Y.c5,aj Y.nd),(Y.nd,dO w.params (.type "dict") none .ref (aM N) Y.en),(Y.c7,aK (.str ⟨⟨[n]⟩⟩ t))],post:=λx=>Q x.1/\jz w.params x.2.2.1,needB:=[bh N],putB:=λ_=>[bh N]}
theorem yh (pre:Nat->List Nat) (p c:Nat) (b:List Nat):bc (c::b) pre p=FV ((pre c).count p) c++bc b pre p:=rfl
theorem xn (w:E7) (Y:Lw) (s p r n G:Nat) (N:List NL) (Q:List (Nat×Nat)->Prop) (ac:(aU N).Nodup) (hk:∀c∈Y.cps,c∈aU N) (h:∀x∈N,x.ps.length<=10):∀(C:List Nat) (i d l:Nat) (lo:List E4) (e:List (Nat×Nat)),Y.cps.drop i=C->e.length+10*C.length<=800->jz w.params lo->(∀o,ad o=ad e++bc C (λc=>ad (au N c)) n->Q o)->ab (env w) (jT w Y s p r n G N Q i d lo l e):=by
 intro C
 induction C with
 | nil=>
  intro i d l lo e F Z M I
  have R:Q e:=I e (by simp [bc])
  rcases M with rfl | ⟨k,A,rfl⟩ | ⟨k,A,v,y,rfl⟩
  .exact ct (λ_ m=> .seg 68736258049 λD=> .use _ (cJ w p Y.tN i Y.cps (aV F)) [0] [] λf t=> .seg 2 λO=>m (e,d,[],l) ⟨R, .inl rfl⟩ [] [3,3,3,3,3] [0])
  .exact ct (λ_ m=> .seg 68736258049 λD=> .use _ (cJ w p Y.tN i Y.cps (aV F)) [0] [] λf t=> .seg 2 λO=>m (e,d,[es w.params [111,116,104,101,114] k A],l) ⟨R, .inr (.inl ⟨k,A,rfl⟩)⟩ [] [3,3,3,3,3] [0])
  .exact ct (λ_ m=> .seg 68736258049 λD=> .use _ (cJ w p Y.tN i Y.cps (aV F)) [0] [] λf t=> .seg 2 λO=>m (e,d,[es w.params [111,116,104,101,114] k A,es w.params [111,110,101] v y],l) ⟨R, .inr (.inr ⟨k,A,v,y,rfl⟩)⟩ [] [3,3,3,3,3] [0])
 | cons c C ih=>
  intro i d l lo e F Z M I
  obtain ⟨H,t⟩:=aQ F
  rw [Fb] at Z
  have hc:c∈Y.cps:=Fz H
  obtain ⟨x,rw,hx,Iu,L,hp,B⟩:=iY ac (hk c hc)
  have io:=h x hx
  have It:(ad x.ps).count n<=10:=FZ List.count_le_length (by rw [eV];exact io)
  have J:∀(q:List E4),fV w.params q->∀(u k g d l:Nat),ab (env w) {ff w Y s u r x.a x.n n G k (c,g) x.ps (e++FV ((ad x.ps).count n) (c,g)) 0 d q l e with c:=bB (gD w.params) 1 u r (aq w.params Y) s [(⟨⟨[110,101,101,100,115]⟩⟩,Y.c5),(⟨⟨[110,97,109,101]⟩⟩,Y.c7)]}:=λq P u k g d l=>xq w Y s u r x.a x.n n G k (c,g) x.ps d l q e (by omega) P
  have S:∀(k g d l:Nat) (q:List E4),fV w.params q->ab (env w) (jT w Y s p r n G N Q (i+1) d (es w.params [111,116,104,101,114] k (cv (c,g))::q) l (e++FV ((ad x.ps).count n) (c,g))):=λk g d l q P=>by
   refine ih (i+1) d l _ _ t (by rw [FU,HX];omega) ?_ λo gt=>I o ?_
   .rcases P with rfl | ⟨v,y,rfl⟩
    .exact .inr (.inl ⟨k,_,rfl⟩)
    .exact .inr (.inr ⟨k,_,v,y,rfl⟩)
   .rw [gt,yh,hp]
    unfold ad
    rw [Fd,List.map_replicate,Fm]
  rcases M with rfl | ⟨k,A,rfl⟩ | ⟨k,A,v,y,rfl⟩
  .exact av (λ_ m=> .view [] [0] _ _ _ _ (bw B) (.seg 137455738881 λD=> .use _ (eH w p Y.tN i Y.cps c H) [1] [] λf t=> .seg 0x6001006006006003005003003 λO=> .use _ (dW w Y.nd (Fx "dict") none Y.en c f (aM N) x.a L) [5] [] λx4 U=> .seg 0x1001003001003003 λE=> .use _ ((J [] (.inl rfl)) (E 0) (O 0) f d (l+1)) [0,3,3,2,3] [] λj V=> .seg 0 λT=> .view [2] [0] _ _ _ _ (aX B.symm) (.use _ (S (O 0) f (j.1) (j.2.2) (j.2.1) (by trivial)) [4,0,0,2,1,0] [0] λb h=>have W:Q b.1:=(Fv h);have X:jz w.params b.2.2.1:=(Fe h);m (b.1,b.2.1,b.2.2.1,b.2.2.2) h [] [0,0,0,0,0] [0])))
  .exact av (λ_ m=> .view [] [0] _ _ _ _ (bw B) (.seg 137455738881 λD=> .use _ (eH w p Y.tN i Y.cps c H) [1] [] λf t=> .seg 0x6001006006006003005003003 λO=> .use _ (dW w Y.nd (Fx "dict") none Y.en c f (aM N) x.a L) [5] [] λx4 U=> .seg 0x1001003001003003 λE=> .use _ ((J [] (.inl rfl)) (E 0) k f d l) [0,3,3,2,3] [] λj V=> .seg 0 λT=> .view [2] [0] _ _ _ _ (aX B.symm) (.use _ (S k f (j.1) (j.2.2) (j.2.1) (by trivial)) [4,0,0,2,1,0] [0] λb h=>have W:Q b.1:=(Fv h);have X:jz w.params b.2.2.1:=(Fe h);m (b.1,b.2.1,b.2.2.1,b.2.2.2) h [] [0,0,0,0,0] [0])))
  .exact av (λ_ m=> .view [] [0] _ _ _ _ (bw B) (.seg 137455738881 λD=> .use _ (eH w p Y.tN i Y.cps c H) [1] [] λf t=> .seg 0x6001006006006003005003003 λO=> .use _ (dW w Y.nd (Fx "dict") none Y.en c f (aM N) x.a L) [5] [] λx4 U=> .seg 0x1001003001003003 λE=> .use _ ((J _ (.inr ⟨v,y,rfl⟩):∀(u k g d l:Nat),ab (env w) {ff w Y s u r x.a x.n n G k (c,g) x.ps (e++FV ((ad x.ps).count n) (c,g)) 0 d [es w.params [111,110,101] v y] l e with c:=bB (gD w.params) 1 u r (aq w.params Y) s [(⟨⟨[110,101,101,100,115]⟩⟩,Y.c5),(⟨⟨[110,97,109,101]⟩⟩,Y.c7)]}) (E 0) k f d l) [0,3,3,2,3] [] λj V=> .seg 0 λT=> .view [2] [0] _ _ _ _ (aX B.symm) (.use _ (S k f (j.1) (j.2.2) (j.2.1) (by trivial)) [4,0,0,2,1,0] [0] λb h=>have W:Q b.1:=(Fv h);have X:jz w.params b.2.2.1:=(Fe h);m (b.1,b.2.1,b.2.2.1,b.2.2.2) h [] [0,0,0,0,0] [0])))
theorem lu (w:E7) (Y:Lw) (d i b n t:Nat) (N:List NL) (g:(aU N).Nodup) (hk:∀c∈Y.cps,c∈aU N) (f:∀x∈N,x.ps.length<=10) (j:Y.cps.length<=10) (e l:Nat):ab (env w) {jT w Y d i b n t N (λo=>ad o=bc Y.cps (λc=>ad (au N c)) n) 0 e [] l [] with c:=bB (gD w.params) 0 i b (aq w.params Y) d [(⟨⟨[110,101,101,100,115]⟩⟩,Y.c5),(⟨⟨[110,97,109,101]⟩⟩,Y.c7)]}:=
 dq nj (o:=cq Y.cps Y.tN 0) rfl (by simp [jT]) (by kernel_rfl) (by kernel_rfl) rfl (xn w Y d i b n t N _ g hk f Y.cps 0 e l [] [] rfl (by simp;omega) (.inl rfl) λo h=>by simpa [ad] using h)
def fc (w:E7) (Y:Lw) (b j:Nat) (d:Int) (N:List NL) (Q:List NL->Prop) (k:List E4) (i:Nat) (o:Obj) (m:List (Nat×Nat×Nat)) (f:Nat) (e:List NL):af:={d:=45,α:=List NL×Nat×Nat×Nat,c:=bR (aA (aI w.params) 10) (.ref b) (aq w.params Y),need:=[(b,cq Y.cps Y.tN i),(Y.fr,bv ([es w.params [115,99,114,105,112,116] Y.k1 (.ref Y.sa),es w.params [115,105,122,101] Y.k2 (.int Y.nn Y.tn),es w.params [99,101,108,108,115] Y.k3 (.ref Y.y)]++(k++[es w.params [106] Y.k5 (.int d j),es w.params [116,117,114,110,101,100] Y.k6 (.ref Y.T)])) Y.fe Y.sl),(Y.c1,aK (.str ⟨⟨Y.cps⟩⟩ Y.tN)),(Y.c5,aj Y.nd),(Y.c7,o),(Y.nd,dO w.params (.type "dict") none .ref (aM N) Y.en),(Y.T,dO w.params (.type "dict") none .ref m f)],new:=λx=>[(Y.fr,bv ([es w.params [115,99,114,105,112,116] Y.k1 (.ref Y.sa),es w.params [115,105,122,101] Y.k2 (.int Y.nn Y.tn),es w.params [99,101,108,108,115] Y.k3 (.ref Y.y)]++(k++[es w.params [106] Y.k5 (.int d j),es w.params [116,117,114,110,101,100] Y.k6 (.ref Y.T)])) Y.fe Y.sl),(Y.c1,aK (.str ⟨⟨Y.cps⟩⟩ Y.tN)),(Y.c5,aj Y.nd),(Y.c7,aK (.str ⟨⟨[x.2.2.1]⟩⟩ x.2.2.2)),(Y.nd,dO w.params (.type "dict") none .ref (aM N) Y.en),(Y.T,dO w.params (.type "dict") none .ref (aM x.1) x.2.1)],post:=λx=>Q x.1,needB:=[bh N,bh e],putB:=λx=>[bh N,bh x.1]}
def lP {w:E7} {E:List E4} {L:Obj} {Y:Lw} {f C:Nat} {D:Int} {N:List NL} {Q:List NL->Prop} {i:Nat} {m:List (Nat×Nat×Nat)} {e:Nat} {g:List NL} (c:Nat) (T:Y.cps[i]? =some c) (R:∀c∈Y.cps,c< 128) (hz:m.length<=10) (U:∀(A f y tm J Z:Nat),ab (env w) {jT w Y A f y c tm N (λo=>ad o=bc Y.cps (λc=>ad (au N c)) c) 0 J [] Z [] with c:=bB (gD w.params) 0 f y (aq w.params Y) A [(⟨⟨[110,101,101,100,115]⟩⟩,Y.c5),(⟨⟨[110,97,109,101]⟩⟩,Y.c7)]}) (r:∀(ac e G a n:Nat) (F:List (Nat×Nat)),ad F=bc Y.cps (λc=>ad (au N c)) c->ab (env w) (fc w Y f C D N Q E (i+1) (aK (.str ⟨⟨[c]⟩⟩ ac)) (aw m c G a) e (g++[NL.mk (c,G) a F n]))):PP (env w) (fc w Y f C D N Q E i L m e g):=λ_ v=>
 .seg 68736258049 λO1=>
 .use _ (eH w f Y.tN i Y.cps c T) [0] [] λb h2=>
 .seg 68769828869 λO3=>
 .use _ (fL w Y.cps Y.tN R) [] [] λx4 h4=>
 .seg 1 λO=>
 .use _ (U (O 1) x4 (O 0) b 0 0) [2,0,0,3,4,3] [0] λx B=>have k:(λ(o:List (Nat×Nat))=>ad o=bc Y.cps (λ(c:Nat)=>ad (au N c)) c) x.1:=(Fv B);have S:jz w.params x.2.2.1:=(Fe B);
 .or _ _ (S)
 (λs=> .view [0] [] _ _ _ _ ((bC (a:=O 1) (congrArg (λl=>oD l x.2.2.2) s)))
 (.seg 0x9001009009005007001001 λO8=>
 .use _ (gH w Y.T none e c b m (O 0) (by omega)) [8] [] λx9 h9=>
 .seg 0 λgt=>
 .view [2] [1] _ _ _ _ ((aX (iZ g ⟨(c,b),O 0,x.1,x.2.1⟩)))
 (.use _ (r b x9 b (O 0) (x.2.1) (x.1) k) [5,5,5,2,3,2,0] [1,0] λh P=>
 v (h.1,h.2.1,h.2.2.1,h.2.2.2) P [] [0,0,0,0,0,0] [0,0])))
 (λs=> .or _ _ (s)
 (λt=> .pick _ _ (t) λX p=>
 .pick _ _ (p) λvi q=>
 .view [0] [] _ _ _ _ ((bC (a:=O 1) (congrArg (λl=>oD l x.2.2.2) q)))
 (.seg 0x9001009009005007001001001001 λI=>
 .use _ (gH w Y.T none e c b m (O 0) (by omega)) [8] [] λu M=>
 .seg 0 λH=>
 .view [2] [1] _ _ _ _ ((aX (iZ g ⟨(c,b),O 0,x.1,x.2.1⟩)))
 (.use _ (r b u b (O 0) (x.2.1) (x.1) k) [5,5,5,2,3,2,0] [1,0] λd j=>
 v (d.1,d.2.1,d.2.2.1,d.2.2.2) j [] [0,0,0,0,0,0] [0,0])))
 (λt=> .pick _ _ (t) λX p=>
 .pick _ _ (p) λvi q=>
 .pick _ _ (q) λka V=>
 .pick _ _ (V) λva W=>
 .view [0] [] _ _ _ _ ((bC (a:=O 1) (congrArg (λl=>oD l x.2.2.2) W)))
 (.seg 0x9001009009005007001001001001001001 λI=>
 .use _ (gH w Y.T none e c b m (O 0) (by omega)) [8] [] λu M=>
 .seg 0 λH=>
 .view [2] [1] _ _ _ _ ((aX (iZ g ⟨(c,b),O 0,x.1,x.2.1⟩)))
 (.use _ (r b u b (O 0) (x.2.1) (x.1) k) [5,5,5,2,3,2,0] [1,0] λd j=>
 v (d.1,d.2.1,d.2.2.1,d.2.2.2) j [] [0,0,0,0,0,0] [0,0]))))
structure cY (cps:List Nat) (N:List NL) (i:Nat) (NT:List NL):Prop where
 kt:aU NT=cps.take i
 vt:∀x∈NT,ad x.ps=bc cps (λc=>ad (au N c)) x.c.1
theorem cY.next {b:List Nat} (f:b.Nodup) {N:List NL} {i c:Nat} (h:b[i]? =some c) {d:List NL} (J:cY b N i d) {un a n:Nat} {p:List (Nat×Nat)} (g:ad p=bc b (λc=>ad (au N c)) c):cY b N (i+1) (d++[NL.mk (c,un) a p n])/\aw (aM d) c un a=aM (d++[NL.mk (c,un) a p n]):=by
 have e:=hY f h
 have k:ak (aM d)=b.take i:=by
  rw [<-J.kt];unfold ak aM aU;rw [GS];rfl
 rw [fi (by rw [k];exact e)]
 refine ⟨⟨?_, ?_⟩, ?_⟩
 .rw [f5 h,<-J.kt];unfold aU;rw [Fd];rfl
 .intro l j
  rcases GB.mp j with q | q
  .exact J.vt l q
  .rw [Gb.mp q];exact g
 .unfold aM;rw [Fd];rfl
theorem w5 (w:E7) (Y:Lw) (j E:Nat) (F:Int) (N:List NL) (Q:List NL->Prop) (G kt:Nat) (H:Int) (B:Y.cps.Nodup) (T:Y.cps.length<=5) (q:∀c∈Y.cps,c< 128) (A:(aU N).Nodup) (hk:∀c∈Y.cps,c∈aU N) (s:∀x∈N,x.ps.length<=10) (v:∀b,cY Y.cps N Y.cps.length b->Q b):∀(r:List Nat) (i f t d:Nat) (b:List NL),Y.cps.drop i=r->i<=Y.cps.length->cY Y.cps N i b->ab (env w) (fc w Y j E F N Q [es w.params [107] G (.int H kt)] i (aK (.str ⟨⟨[f]⟩⟩ t)) (aM b) d b):=by
 intro r
 induction r with
 | nil=>
  intro i f t d b g y J
  have e:i=Y.cps.length:=by have:=congrArg Fl g;rw [G7] at this;simp at this;omega
  exact ct (λ_ O=> .seg 68736258049 λP=> .use _ (cJ w j Y.tN i Y.cps (aV g)) [0] [] λW k=> .seg 2 λR=> .seg 1 λS=>O (b,d,f,t) (v b (e▸J)) [] [3,3,3,3,3,3] [0,0])
 | cons c r D=>
  intro i f t d b g y J
  obtain ⟨h,k⟩:=aQ g
  have U:i< Y.cps.length:=(E8.mp h).1
  exact av (lP c h q (by have:=congrArg Fl J.kt;unfold aU at this;rw [Fo,FN] at this;unfold aM;rw [Fo];omega) (λp j m L o I=>lu w Y p j m c L N A (λc h=>hk c h) s (by omega) o I) (λu d M a n V C=>by
   obtain ⟨l,e⟩:=J.next B h (un:=M) (a:=a) (n:=n) C
   rw [e]
   exact D (i+1) c u d _ k (by omega) l))
theorem w3 (w:E7) (Y:Lw) (d j:Nat) (k:Int) (N:List NL) (Q:List NL->Prop) (l kt:Nat) (m:Int) (t:Y.cps.Nodup) (E:Y.cps.length<=5) (p:∀c∈Y.cps,c< 128) (s:(aU N).Nodup) (hk:∀c∈Y.cps,c∈aU N) (r:∀x∈N,x.ps.length<=10) (I:Y.cps≠[]) (F:∀b,cY Y.cps N Y.cps.length b->Q b) (f:Nat):ab (env w) (fc w Y d j k N Q [es w.params [107] l (.int m kt)] 0 br [] f []):=by
 obtain ⟨c,v,G⟩:=Fy I
 obtain ⟨i,g⟩:∃i:Nat,i=0:=⟨0,rfl⟩
 obtain ⟨b,o⟩:∃N:List NL,N=[]:=⟨[],rfl⟩
 have H:Y.cps.drop i=c::v:=by rw [g];exact G
 obtain ⟨h,D⟩:=aQ H
 have R:i< Y.cps.length:=(E8.mp h).1
 have J:cY Y.cps N i b:=by subst g;subst o;exact ⟨rfl,λ_ z=>(nomatch z)⟩
 have q:ab (env w) (fc w Y d j k N Q [es w.params [107] l (.int m kt)] i br (aM b) f b):=av (lP c h p (by have:=congrArg Fl J.kt;unfold aU at this;rw [Fo,FN] at this;unfold aM;rw [Fo];omega) (λC d A O B M=>lu w Y C d A c O N s (λc h=>hk c h) r (by omega) B M) (λu f P a n S L=>by
  obtain ⟨y,e⟩:=J.next t h (un:=P) (a:=a) (n:=n) L
  rw [e]
  exact w5 w Y d j k N Q l kt m t E p s hk r F v (i+1) c u f _ D (by omega) y))
 subst g;subst o
 exact q
theorem w4 (w:E7) (Y:Lw) (j E:Nat) (F:Int) (N:List NL) (Q:List NL->Prop) (B:Y.cps.Nodup) (R:Y.cps.length<=5) (q:∀c∈Y.cps,c< 128) (A:(aU N).Nodup) (hk:∀c∈Y.cps,c∈aU N) (s:∀x∈N,x.ps.length<=10) (v:∀b,cY Y.cps N Y.cps.length b->Q b):∀(r:List Nat) (i f t d:Nat) (b:List NL),Y.cps.drop i=r->i<=Y.cps.length->cY Y.cps N i b->ab (env w) (fc w Y j E F N Q [] i (aK (.str ⟨⟨[f]⟩⟩ t)) (aM b) d b):=by
 intro r
 induction r with
 | nil=>
  intro i f t d b g y J
  have e:i=Y.cps.length:=by have:=congrArg Fl g;rw [G7] at this;simp at this;omega
  exact ct (λ_ L=> .seg 68736258049 λO=> .use _ (cJ w j Y.tN i Y.cps (aV g)) [0] [] λU k=> .seg 2 λM=> .seg 1 λP=>L (b,d,f,t) (v b (e▸J)) [] [3,3,3,3,3,3] [0,0])
 | cons c r D=>
  intro i f t d b g y J
  obtain ⟨h,k⟩:=aQ g
  have S:i< Y.cps.length:=(E8.mp h).1
  exact av (lP c h q (by have:=congrArg Fl J.kt;unfold aU at this;rw [Fo,FN] at this;unfold aM;rw [Fo];omega) (λp j m H o G=>lu w Y p j m c H N A (λc h=>hk c h) s (by omega) o G) (λu d I a n T C=>by
   obtain ⟨l,e⟩:=J.next B h (un:=I) (a:=a) (n:=n) C
   rw [e]
   exact D (i+1) c u d _ k (by omega) l))
theorem w2 (w:E7) (Y:Lw) (d j:Nat) (k:Int) (N:List NL) (Q:List NL->Prop) (r:Y.cps.Nodup) (C:Y.cps.length<=5) (m:∀c∈Y.cps,c< 128) (p:(aU N).Nodup) (hk:∀c∈Y.cps,c∈aU N) (o:∀x∈N,x.ps.length<=10) (G:Y.cps≠[]) (D:∀b,cY Y.cps N Y.cps.length b->Q b) (f:Nat):ab (env w) (fc w Y d j k N Q [] 0 br [] f []):=by
 obtain ⟨c,s,E⟩:=Fy G
 obtain ⟨i,g⟩:∃i:Nat,i=0:=⟨0,rfl⟩
 obtain ⟨b,l⟩:∃N:List NL,N=[]:=⟨[],rfl⟩
 have F:Y.cps.drop i=c::s:=by rw [g];exact E
 obtain ⟨h,B⟩:=aQ F
 have O:i< Y.cps.length:=(E8.mp h).1
 have J:cY Y.cps N i b:=by subst g;subst l;exact ⟨rfl,λ_ z=>(nomatch z)⟩
 have q:ab (env w) (fc w Y d j k N Q [] i br (aM b) f b):=av (lP c h m (by have:=congrArg Fl J.kt;unfold aU at this;rw [Fo,FN] at this;unfold aM;rw [Fo];omega) (λA d v L y I=>lu w Y A d v c L N p (λc h=>hk c h) o (by omega) y I) (λu f M a n P H=>by
  obtain ⟨t,e⟩:=J.next r h (un:=M) (a:=a) (n:=n) H
  rw [e]
  exact w4 w Y d j k N Q r C m p hk o D s (i+1) c u f _ B (by omega) t))
 subst g;subst l
 exact q
def yu (w:E7) (Y:Lw) (j:Nat) (b:Int) (k:List E4):af:={d:=55,α:=List NL×Nat×(Nat×Nat)×Nat×Nat×Nat,c:= .block (((aI w.params).drop 9).take 2) (aq w.params Y),need:=[(Y.fr,bv ([es w.params [115,99,114,105,112,116] Y.k1 (.ref Y.sa),es w.params [115,105,122,101] Y.k2 (.int Y.nn Y.tn),es w.params [99,101,108,108,115] Y.k3 (.ref Y.y)]++(k++[es w.params [106] Y.k5 (.int b j)])) Y.fe Y.sl),(Y.c1,aK (.str ⟨⟨Y.cps⟩⟩ Y.tN)),(Y.c5,aj Y.nd),(Y.c7,br),(Y.nd,dO w.params (.type "dict") none .ref (aM Y.N) Y.en)],new:=λx=>[(Y.fr,bv ([es w.params [115,99,114,105,112,116] Y.k1 (.ref Y.sa),es w.params [115,105,122,101] Y.k2 (.int Y.nn Y.tn),es w.params [99,101,108,108,115] Y.k3 (.ref Y.y)]++(k++[es w.params [106] Y.k5 (.int b j),es w.params [116,117,114,110,101,100] x.2.2.2.2.1 (.ref x.2.2.2.2.2)])) x.2.2.2.1 Y.sl),(Y.c1,aK (.str ⟨⟨Y.cps⟩⟩ Y.tN)),(Y.c5,aj Y.nd),(Y.c7,aK (.str ⟨⟨[x.2.2.1.1]⟩⟩ x.2.2.1.2)),(Y.nd,dO w.params (.type "dict") none .ref (aM Y.N) Y.en),(x.2.2.2.2.2,dO w.params (.type "dict") none .ref (aM x.1) x.2.1)],post:=λx=>cY Y.cps Y.N Y.cps.length x.1,needB:=[bh Y.N],putB:=λx=>[bh Y.N,bh x.1]}
def sm (l n c t:Nat) (x:List (Nat×Nat)) (i:Nat) (b:Bool):af:={d:=10,α:=Unit,c:= .builtin "list.__contains__.loop" ⟨[.ref l, .str ⟨⟨[c]⟩⟩ t,FT ((i:Nat):Int)],[]⟩,need:=[(l,ae (x.map cv) n)],r:=λ_=> .ok (.ret (.bool b)),put:=λ_=>[ae (x.map cv) n]}
theorem C9 (w:E7) (l n c t:Nat) (f:List (Nat×Nat)):∀(r:List (Nat×Nat)) (i:Nat) (b:Bool),f.drop i=r->decide (c∈ad r)=b->ab (env w) (sm l n c t f i b):=by
 intro r
 induction r with
 | nil=>
  intro i b v g d u j C y p s F P h
  have m:s.heap.get? l=some (ae (f.map cv) n):=P.has (l,_) EZ
  rw [F1]
  show wp _ _ (FK table d.code) _ _ p s
  rw [show d.code= .builtin "list.__contains__.loop" ⟨[.ref l, .str ⟨⟨[c]⟩⟩ t,FT ((i:Nat):Int)],[]⟩ from u,aE _ _ MeetsSeq.entry_contains_loop]
  show wp _ _ (Fw (.ref l)>>=_) _ _ p s
  unfold Fw
  refine aL (E1 (E1 (FL m rfl (E3 ?_))))
  have e:(f.map cv).toArray[((i:Nat):Int).toNat]? =none:=by
   rw [F2,Ft,Fi,aV v];rfl
  simp only [Option.getD_some,e]
  refine E3 λp=> ?_
  have o:b=false:=by rw [<-g];simp [ad]
  subst o
  exact h () s trivial (ap.start P)
 | cons x r H=>
  intro i b v g d u j C y p s F P h
  have j:d.handled=none:=j.resolve_left (λz=>nomatch z)
  have m:s.heap.get? l=some (ae (f.map cv) n):=P.has (l,_) EZ
  obtain ⟨A,B⟩:=aQ v
  rw [F1]
  show wp _ _ (FK table d.code) _ _ p s
  rw [show d.code= .builtin "list.__contains__.loop" ⟨[.ref l, .str ⟨⟨[c]⟩⟩ t,FT ((i:Nat):Int)],[]⟩ from u,aE _ _ MeetsSeq.entry_contains_loop]
  show wp _ _ (Fw (.ref l)>>=_) _ _ p s
  unfold Fw
  refine aL (E1 (E1 (FL m rfl (E3 ?_))))
  have e:(f.map cv).toArray[((i:Nat):Int).toNat]? =some (cv x):=by
   rw [F2,Ft,Fi,A];rfl
  simp only [Option.getD_some,e]
  refine E1 (wpAny_eqBool_str ?_)
  by_cases q:x.1=c
  .have k:decide ((⟨⟨[x.1]⟩⟩:Str)=⟨⟨[c]⟩⟩)=true:=by rw [q];simp
   rw [k,if_pos rfl]
   refine E3 λp=> ?_
   have o:b=true:=by rw [<-g];simp [ad,q]
   subst o
   exact h () s trivial (ap.start P)
  .have k:decide ((⟨⟨[x.1]⟩⟩:Str)=⟨⟨[c]⟩⟩)=false:=by
    rw [decide_eq_false_iff_not]
    intro z
    injection z with z
    injection z with z
    injection z with z
    exact q z
   rw [k,if_neg Fg]
   refine E3 λp=> ?_
   have I:¬c=x.1:=λz=>q z.symm
   have D:decide (c∈ad r)=b:=by
    rw [<-g]
    show _=decide (c∈x.1::ad r)
    simp [I]
   have G:=H (i+1) b B D (d.goto (.builtin "list.__contains__.loop" ⟨[.ref l, .str ⟨⟨[c]⟩⟩ t,FT (((i+1:Nat)):Int)],[]⟩)) rfl (.inr j) (λes E=>nomatch E) ⟨y.cnt,y.units⟩ p s F P h
   exact ⟨plainId_quiet MeetsSeq.plain_contains_loop _,G⟩
theorem uG (w:E7) (l n c t:Nat) (x:List (Nat×Nat)) (b:Bool) (h:decide (c∈ad x)=b):ab (env w) (sm l n c t x 0 b):=C9 w l n c t x x 0 b rfl h
section
variable {γ:Type}
def yQ (g:γ->E9) (l n b m:Nat) (d y:List γ):af:={d:=1,α:=Nat,c:= .builtin "list.__add__" ⟨[.ref l, .ref b],[]⟩,need:=[(l,ae (d.map g) n),(b,ae (y.map g) m)],r:=λx=> .ok (.ret (.ref x)),put:=λ_=>[ae (d.map g) n,ae (y.map g) m],new:=λx=>[(x,ae ((d++y).map g) 0)]}
theorem t6 (g:γ->E9) (w:E7) (l n b m:Nat) (x y:List γ) (k:x.length+y.length<=100000):ab (env w) (yQ g l n b m x y):=by
 refine aN λA s G i j P e=> ?_
 have f:s.heap.get? l=some (ae (x.map g) n):=P.has (l,_) EZ
 have h:s.heap.get? b=some (ae (y.map g) m):=P.has (b,_) (E2 _ EZ)
 show Fp _ _ (FK table (.builtin "list.__add__" ⟨[.ref l, .ref b],[]⟩)) _ _ s
 rw [aE _ _ F.entry_list_add]
 show Fp _ _ (isInstance (.ref b) (.type "list")>>=_) _ _ s
 refine E1 (wpAny_isInstance (T:="list") (b:=true) ⟨_,h,rfl⟩ sub_list_list ?_)
 simp only [Bool.not_true,Gc,if_false]
 unfold Fw
 refine E1 (E1 (FL f rfl (E3 ?_)))
 refine E1 (E1 (FL h rfl (E3 ?_)))
 refine E1 (Ge (E3 ?_) (by show ((x.map g).toArray++(y.map g).toArray).size<=2^24;simp;omega))
 have o:({cls:= .type "list",data:= .seq ((x.map g).toArray++(y.map g).toArray)}:Obj)=ae ((x++y).map g) 0:=by
  rw [Fd];simp [ae]
 have q:=(ap.start P).push (ae ((x++y).map g) 0) rfl
 have d:=e s.heap.objs.size {s with heap:=s.heap.push (ae ((x++y).map g) 0)} trivial (q.perm (FD (l₁:=[_]) (l₂:=[_,_])))
 rw [<-o] at d
 exact d
end
def ng (lo h st:E9):Obj:={cls:= .type "slice",data:= .fields #[lo,h,st]}
def nt (l:List Nat) (t s:Nat) (lo h st:E9) (m:List Nat):af:={d:=1,α:=Nat,c:= .builtin "str.__getitem__" ⟨[.str ⟨⟨l⟩⟩ t, .ref s],[]⟩,need:=[(s,ng lo h st)],r:=λv=> .ok (.ret (.str ⟨⟨m⟩⟩ v)),put:=λ_=>[ng lo h st]}
theorem qW (w:E7) (l:List Nat) (t d:Nat) (lo b st:Option (Int×Tok)) (m:List Nat) (i:((st.map (·.1)).getD 1==0)=false) (n:(H9 ⟨⟨l⟩⟩ lo b st).filterMap (l[·]?)=m)
 (p:((st.map (·.1)).getD 1==1&&(H9 ⟨⟨l⟩⟩ lo b st).length==l.length)=true->l=m) (k:m.length<=1000):ab (env w) (nt l t d (partValue lo) (partValue b) (partValue st) m):=by
 refine aN λA s G r u P f=> ?_
 have g:s.heap.get? d=some (ng (partValue lo) (partValue b) (partValue st)):=P.has (d,_) EZ
 have o:s.heap.IsSlice d lo b st:=⟨_,g,rfl,rfl⟩
 have j:s.TypeIs (.ref d) "slice":=⟨_,g,rfl⟩
 show Fp _ _ (FK table (.builtin "str.__getitem__" ⟨[.str ⟨⟨l⟩⟩ t, .ref d],[]⟩)) _ _ s
 rw [aE _ _ F.entry_str_getitem]
 show Fp _ _ (typeOf (.ref d)>>=_) _ _ s
 refine E1 (wpAny_typeOf j ?_)
 show Fp _ _ (Builtin.Str.strSliceParts (.ref d)>>=_) _ _ s
 refine E1 (wpAny_strSliceParts o i ?_)
 show Fp _ _ (if ((st.map (·.1)).getD 1==1&&(H9 ⟨⟨l⟩⟩ lo b st).length==(⟨l⟩:Array Nat).size)=true then (do rule "str.__getitem__.whole";ret (.str ⟨⟨l⟩⟩ t)) else retStr ⟨((H9 ⟨⟨l⟩⟩ lo b st).filterMap ((⟨l⟩:Array Nat)[·]?)).toArray⟩) _ _ s
 by_cases q:((st.map (·.1)).getD 1==1&&(H9 ⟨⟨l⟩⟩ lo b st).length==(⟨l⟩:Array Nat).size)=true
 .rw [if_pos q]
  refine E1 (GX (E3 ?_))
  have e:=p q
  have h:=f t s trivial (ap.start P)
  show G (.ok (.ret (.str ⟨⟨l⟩⟩ t))) s
  rw [e]
  exact h
 .rw [if_neg q]
  have e:((H9 ⟨⟨l⟩⟩ lo b st).filterMap ((⟨l⟩:Array Nat)[·]?)).toArray=⟨m⟩:=by
   rw [<-n];simp
  rw [e]
  exact pM k (f s.toks _ trivial ((ap.start P).toks _))
theorem qV (w:E7) (l:List Nat) (t s u:Nat) (m:List Nat) (f:l.getLast?.toList=m) (g:l.length<=900):ab (env w) (nt l t s (.int (-1) u) .none .none m):=by
 subst f
 have e:H9 ⟨⟨l⟩⟩ (some (-1,u)) none none=if l=[] then [] else [l.length-1]:=by
  unfold H9 Builtin.Str.strSliceIndices
  show sliceRange (max 0 (min (-1+(l.length:Int)) (l.length:Int))) (l.length:Int) 1=_
  by_cases h:l=[]
  .subst h;rfl
  .rw [if_neg h]
   have hp:=Hc.mpr h
   have b:max 0 (min (-1+(l.length:Int)) (l.length:Int))=((l.length-1:Nat):Int):=by omega
   rw [b]
   unfold sliceRange
   simp only [show (1:Int)>0 by decide,if_true]
   rw [if_pos (by omega)]
   have d:(((l.length:Int)-((l.length-1:Nat):Int)+1-1)/1).toNat=1:=by rw [Int.ediv_one];omega
   rw [d]
   simp
 refine qW w l t s (some (-1,u)) none none _ rfl ?_ ?_ ?_
 .rw [e]
  by_cases h:l=[]
  .subst h;rfl
  .rw [if_neg h,List.getLast?_eq_getElem?]
   have hp:=Hc.mpr h
   have:l[l.length-1]? =some l[l.length-1]:=Ff (by omega)
   simp [this]
 .rw [e]
  intro q
  by_cases h:l=[]
  .subst h;rfl
  .rw [if_neg h] at q
   have q:(1==l.length)=true:=q
   have q:1=l.length:=by simpa using q
   match l,q with
   | [x],_=>rfl
 .cases l.getLast? <;>simp
theorem qX (w:E7) (l:List Nat) (t s u:Nat) (m:List Nat) (g:l.reverse=m) (f:l.length=3\/l.length=4\/l.length=5):ab (env w) (nt l t s .none .none (.int (-1) u) m):=by
 subst g
 refine qW w l t s none none (some (-1,u)) _ rfl ?_ (λq=>nomatch q) (by rw [Ib];omega)
 rcases f with h | h | h
 .match l,h with
  | [a,b,c],_=>kernel_rfl
 .match l,h with
  | [a,b,c,d],_=>kernel_rfl
 .match l,h with
  | [a,b,c,d,e],_=>kernel_rfl
def yJ (l n b m:Nat) (x y:List (Int×Nat)) (i:Nat):af:={d:=10,α:=Unit,c:= .builtin "list.__eq__.loop" ⟨[.ref l, .ref b,FT ((i:Nat):Int),FT 3],[]⟩,need:=[(l,ae (x.map iv) n),(b,ae (y.map iv) m)],r:=λ_=> .ok (.ret (.bool false)),put:=λ_=>[ae (x.map iv) n,ae (y.map iv) m]}
theorem Bh (w:E7) (l n b m:Nat) (d f:List (Int×Nat)) (C:d.map (λx=>x.1)=f.map (λx=>x.1)):∀(r:List (Int×Nat)) (i:Nat),d.drop i=r->ab (env w) (yJ l n b m d f i):=by
 have L:d.length=f.length:=by simpa using congrArg Fl C
 intro r
 induction r with
 | nil=>
  intro i u g t k I v p s F P o
  have j:s.heap.get? l=some (ae (d.map iv) n):=P.has (l,_) EZ
  have h:s.heap.get? b=some (ae (f.map iv) m):=P.has (b,_) (E2 _ EZ)
  rw [F1]
  show wp _ _ (FK table g.code) _ _ p s
  rw [show g.code= .builtin "list.__eq__.loop" ⟨[.ref l, .ref b,FT ((i:Nat):Int),FT 3],[]⟩ from t,aE _ _ MeetsSeq3.entry_eq_loop]
  show wp _ _ (Fw (.ref l)>>=_) _ _ p s
  unfold Fw
  refine aL (E1 (E1 (FL j rfl (E3 ?_))))
  refine E1 (E1 (FL h rfl (E3 ?_)))
  have e:(d.map iv).toArray[((i:Nat):Int).toNat]? =none:=by
   rw [F2,Ft,Fi,aV u];rfl
  simp only [e]
  refine E1 (E1 (FL j rfl (E3 ?_)))
  refine E1 (E1 (FL h rfl (E3 ?_)))
  refine E3 λp=> ?_
  have q:=o () s trivial (ap.start P)
  have G:((d.map iv).toArray.size !=(f.map iv).toArray.size)=false:=by simp [L]
  show F (.ok (.ret (.bool ((d.map iv).toArray.size !=(f.map iv).toArray.size)))) s
  rw [G]
  exact q
 | cons x r Q=>
  intro i u g t k I v p s F P o
  have k:g.handled=none:=k.resolve_left (λz=>nomatch z)
  have j:s.heap.get? l=some (ae (d.map iv) n):=P.has (l,_) EZ
  have h:s.heap.get? b=some (ae (f.map iv) m):=P.has (b,_) (E2 _ EZ)
  obtain ⟨A,H⟩:=aQ u
  have B:(f.map (λx=>x.1))[i]? =some x.1:=by rw [<-C,Fi,A];rfl
  rw [Fi] at B
  obtain ⟨y,N,O⟩:=H3.mp B
  rw [F1]
  show wp _ _ (FK table g.code) _ _ p s
  rw [show g.code= .builtin "list.__eq__.loop" ⟨[.ref l, .ref b,FT ((i:Nat):Int),FT 3],[]⟩ from t,aE _ _ MeetsSeq3.entry_eq_loop]
  show wp _ _ (Fw (.ref l)>>=_) _ _ p s
  unfold Fw
  refine aL (E1 (E1 (FL j rfl (E3 ?_))))
  refine E1 (E1 (FL h rfl (E3 ?_)))
  have e:(d.map iv).toArray[((i:Nat):Int).toNat]? =some (iv x):=by
   rw [F2,Ft,Fi,A];rfl
  have D:(f.map iv).toArray[((i:Nat):Int).toNat]? =some (iv y):=by
   rw [F2,Ft,Fi,N];rfl
  simp only [e,D]
  refine E1 (wpAny_eqBool_int ?_)
  have E:(x.1==y.1)=true:=by rw [O];simp
  rw [E,if_pos rfl]
  refine E3 λp=> ?_
  have M:=Q (i+1) H (g.goto (.builtin "list.__eq__.loop" ⟨[.ref l, .ref b,FT (((i+1:Nat)):Int),FT 3],[]⟩)) rfl (.inr k) (λes J=>nomatch J) ⟨v.cnt,v.units⟩ p s F P o
  exact ⟨plainId_quiet MeetsSeq3.plain_eq_loop _,M⟩
def yK (l n b m:Nat) (x y:List (Int×Nat)):af:={d:=10,α:=Unit,c:= .builtin "list.__ne__" ⟨[.ref l, .ref b],[]⟩,need:=[(l,ae (x.map iv) n),(b,ae (y.map iv) m)],r:=λ_=> .ok (.ret (.bool false)),put:=λ_=>[ae (x.map iv) n,ae (y.map iv) m]}
theorem BL (w:E7) (l n b m:Nat) (d y:List (Int×Nat)) (i:d.map (λx=>x.1)=y.map (λx=>x.1)):ab (env w) (yK l n b m d y):=by
 intro e r h A g p s j P o
 have h:e.handled=none:=h.resolve_left (λz=>nomatch z)
 have u:d.length=y.length:=by simpa using congrArg Fl i
 have q:s.heap.get? l=some (ae (d.map iv) n):=P.has (l,_) EZ
 have f:s.heap.get? b=some (ae (y.map iv) m):=P.has (b,_) (E2 _ EZ)
 rw [F1]
 show wp _ _ (FK table e.code) _ _ p s
 rw [show e.code= .builtin "list.__ne__" ⟨[.ref l, .ref b],[]⟩ from r,aE _ _ F.entry_list_ne]
 show wp _ _ (isInstance (.ref b) (.type "list")>>=_) _ _ p s
 refine aL (E1 (wpAny_isInstance (T:="list") (b:=true) ⟨_,f,rfl⟩ sub_list_list ?_))
 simp only [Bool.not_true,Gc,if_false]
 rw [if_pos (show (CmpOp.NotEq==CmpOp.Eq || CmpOp.NotEq==CmpOp.NotEq)=true from rfl)]
 unfold Fw
 refine E1 (E1 (FL q rfl (E3 ?_)))
 refine E1 (E1 (FL f rfl (E3 ?_)))
 have k:((d.map iv).toArray.size !=(y.map iv).toArray.size)=false:=by simp [u]
 rw [k,if_neg Fg]
 refine E3 λp=> ?_
 have v:=Bh w l n b m d y i d 0 rfl (e.goto (.builtin "list.__eq__.loop" ⟨[.ref l, .ref b,FT (((0:Nat)):Int),FT 3],[]⟩)) rfl (.inr h) (λes t=>nomatch t) ⟨g.cnt,g.units⟩ p s j P o
 exact ⟨plainId_quiet MeetsSeq3.plain_eq_loop _,v⟩
def bf (x:List Nat×Nat):E9:= .str ⟨⟨x.1⟩⟩ x.2
def sN (e:Expr):Expr:=(eP e).2.1
def mJ (P:E6):Expr:=sN (bI (aA (aY (aA (aI P) 12)) 0))
def eW (P:E6) (x:List E4):Prop:=x=[]\/∃k v,x=[es P [119,97,121] k v]
def eu (w:E7) (Y:Lw) (d e b W f n t:Nat) (ws:List (List Nat×Nat)) (Q:List (List Nat×Nat)->Prop) (i g:Nat) (lo:List E4) (l:Nat) (h:List (List Nat×Nat)):af:={d:=30,α:=List (List Nat×Nat)×Nat×List E4×Nat,c:=dE (mJ w.params) 0 e b (aq w.params Y) d [(⟨⟨[110,101,101,100,115]⟩⟩,Y.c5),(⟨⟨[110,97,109,101]⟩⟩,Y.c7)],need:=[(e,aW "list_iterator" W i),(d,oD lo l),(b,ae (h.map bf) g),(W,ae (ws.map bf) f),(Y.c5,aj Y.nd),(Y.nd,dO w.params (.type "dict") none .ref (aM Y.N) Y.en),(Y.c7,aK (.str ⟨⟨[n]⟩⟩ t))],new:=λx=>[(d,oD x.2.2.1 x.2.2.2),(b,ae (x.1.map bf) x.2.1),(W,ae (ws.map bf) f),(Y.c5,aj Y.nd),(Y.nd,dO w.params (.type "dict") none .ref (aM Y.N) Y.en),(Y.c7,aK (.str ⟨⟨[n]⟩⟩ t))],post:=λx=>Q x.1/\eW w.params x.2.2.1,needB:=[bh Y.N],putB:=λ_=>[bh Y.N]}
def fI (p:List Nat) (x:List Nat):Bool:=match x.getLast? with | none=>true | some d=>decide (d∈p)
def dl (p:List Nat) (n:Nat) (W:List (List Nat)):List (List Nat):=(W.filter (fI p)).map (λx=>x++[n])
theorem wf (p:List Nat) (n:Nat) (x:List Nat) (W:List (List Nat)):dl p n (x::W)=if fI p x=true then (x++[n])::dl p n W else dl p n W:=by
 unfold dl
 rw [GI]
 split<;>rfl
theorem wg (w:E7) (Y:Lw) (p g m W j e t:Nat) (ws:List (List Nat×Nat)) (Q:List (List Nat×Nat)->Prop) (Iv:(aU Y.N).Nodup) (hk:e∈aU Y.N) (B:∀x∈ws,x.1.length<=900):∀(J:List (List Nat×Nat)) (i b l:Nat) (lo:List E4) (f:List (List Nat×Nat)),ws.drop i=J->f.length+J.length<=900->eW w.params lo->(∀o,o.map (λx=>x.1)=f.map (λx=>x.1)++dl (ad (au Y.N e)) e (J.map (λx=>x.1))->Q o)->ab (env w) (eu w Y p g m W j e t ws Q i b lo l f):=by
 let Iw:∀{w:E7} {lo:List E4} {Y:Lw} {p g m W j e t:Nat} {ws:List (List Nat×Nat)} {Q:List (List Nat×Nat)->Prop} {i b l:Nat} {f:List (List Nat×Nat)} (x:List Nat×Nat) (h:ws[i]? =some x) (G:f.length<=1000) (B:x.1.length<=900) (s:x.1=[]) (A:∀(k:Nat) (v:E9) (b l u:Nat),ab (env w) (eu w Y p g m W j e t ws Q (i+1) b [es w.params [119,97,121] k v] l (f++[(x.1++[e],u)]))),PP (env w) (eu w Y p g m W j e t ws Q i b lo l f):= @λw lo Y p g m W j e t ws Q i b l f x h G B s A _ E=>
  .seg 68736258049 λX=> .use _ (cr w g W i j bf ws x h) [0,2] [] λx2 I=> .seg 68769820675 λO=> .use _ (xM w (x.1) ([]) (x.2) (O 1) s) [] [] λx4 h4=> .seg 16805891 λZ=> .use _ (q6 w (x.1) e (x.2) t B) [] [] λM h6=> .seg 16385 λO7=> .use _ (t5 bf w m b f (x.1++[e],M) (by omega)) [3] [] λx8 h8=> .seg 0 λO9=> .use _ (A (kT lo (O 0)) (GR (Str.mk (Array.mk x.1)) x.2) (b+1) (kE lo l) M) [1,2,0,0,0,0,0] [0] λH N=>have IC:Q H.1:=(Fv N);have ID:eW w.params H.2.2.1:=(Fe N);E (H.1,H.2.1,H.2.2.1,H.2.2.2) N [] [0,0,0,0,0,0] [0]
 let Ix:∀{w:E7} {lo:List E4} {Y:Lw} {p g m W j e t:Nat} {ws:List (List Nat×Nat)} {Q:List (List Nat×Nat)->Prop} {i b l:Nat} {f:List (List Nat×Nat)} (x:List Nat×Nat) (h:ws[i]? =some x) (G:f.length<=1000) (B:x.1.length<=900) (d a n:Nat) (C:List (Nat×Nat)) (R:ao) (s:¬x.1=[]) (q:x.1.getLast? =some d) (T:look? (aM Y.N) e=some a) (r:(bh Y.N).Perm ([(a,ae (C.map cv) n)]++R)) (S:decide (d∈ad C)=true) (A:∀(k:Nat) (v:E9) (b l u:Nat),ab (env w) (eu w Y p g m W j e t ws Q (i+1) b [es w.params [119,97,121] k v] l (f++[(x.1++[e],u)]))),PP (env w) (eu w Y p g m W j e t ws Q i b lo l f):= @λw lo Y p g m W j e t ws Q i b l f x h G B d a n C R s q T r S A _ E=>
  .view [] [0] _ _ _ _ (bw r) (.seg 137455738881 λX=> .use _ (cr w g W i j bf ws x h) [1,3] [] λx2 I=> .seg 68786601988 λO=> .use _ (jN w (x.1) ([]) (x.2) (O 1) s) [] [] λx4 h4=> .seg 68736258052 λZ=> .use _ (qY w (x.1) (x.2) (Z 1) d q (by omega)) [] [] λM h6=> .seg 0x7001007007007008006 λO7=> .use _ (dW w Y.nd (Fx "dict") none Y.en e t (aM Y.N) a T) [6] [] λx8 h8=> .seg 281749871411204 λO9=> .use _ (uG w a n d M C HL S) [3] [] λH N=> .seg 16809989 λIu=> .use _ (q6 w (x.1) e (x.2) t B) [] [] λD ac=> .seg 24577 λIz=> .use _ (t5 bf w m b f (x.1++[e],D) (by omega)) [5] [] λIK IG=> .seg 0 λIA=> .view [1] [0] _ _ _ _ (aX r.symm) (.use _ (A (kT lo (O 0)) (GR (Str.mk (Array.mk x.1)) x.2) (b+1) (kE lo l) D) [2,3,0,1,1,0,0] [0] λL gt=>have II:Q L.1:=(Fv gt);have IJ:eW w.params L.2.2.1:=(Fe gt);E (L.1,L.2.1,L.2.2.1,L.2.2.2) gt [] [0,0,0,0,0,0] [0]))
 let Iy:∀{w:E7} {lo:List E4} {Y:Lw} {p g m W j e t:Nat} {ws:List (List Nat×Nat)} {Q:List (List Nat×Nat)->Prop} {i b l:Nat} {f:List (List Nat×Nat)} (x:List Nat×Nat) (h:ws[i]? =some x) (G:f.length<=1000) (B:x.1.length<=900) (d a n:Nat) (C:List (Nat×Nat)) (R:ao) (s:¬x.1=[]) (q:x.1.getLast? =some d) (T:look? (aM Y.N) e=some a) (r:(bh Y.N).Perm ([(a,ae (C.map cv) n)]++R)) (S:decide (d∈ad C)=false) (A:∀(k:Nat) (v:E9) (b l:Nat),ab (env w) (eu w Y p g m W j e t ws Q (i+1) b [es w.params [119,97,121] k v] l f)),PP (env w) (eu w Y p g m W j e t ws Q i b lo l f):= @λw lo Y p g m W j e t ws Q i b l f x h G B d a n C R s q T r S A _ E=>
  .view [] [0] _ _ _ _ (bw r) (.seg 137455738881 λX=> .use _ (cr w g W i j bf ws x h) [1,3] [] λx2 I=> .seg 68786601988 λO=> .use _ (jN w (x.1) ([]) (x.2) (O 1) s) [] [] λx4 h4=> .seg 68736258052 λZ=> .use _ (qY w (x.1) (x.2) (Z 1) d q (by omega)) [] [] λM h6=> .seg 0x7001007007007008006 λO7=> .use _ (dW w Y.nd (Fx "dict") none Y.en e t (aM Y.N) a T) [6] [] λx8 h8=> .seg 281749871411204 λO9=> .use _ (uG w a n d M C Bool.false S) [3] [] λH N=> .seg 0 λIu=> .view [0] [0] _ _ _ _ (aX r.symm) (.use _ (A (kT lo (O 0)) (GR (Str.mk (Array.mk x.1)) x.2) b (kE lo l)) [1,2,2,1,1,0,0] [0] λD ac=>have IE:Q D.1:=(Fv ac);have IF:eW w.params D.2.2.1:=(Fe ac);E (D.1,D.2.1,D.2.2.1,D.2.2.2) ac [] [0,0,0,0,0,0] [0]))
 intro J
 induction J with
 | nil=>
  intro i b l lo f q G U P
  have hq:Q f:=P f (by simp [dl])
  rcases U with rfl | ⟨k,v,rfl⟩
  .exact ct (λ_ E=> .seg 68736258049 λX=> .use _ (ch w g W i j bf ws (aV q)) [0,2] [] λx2 I=> .seg 3 λO=>E (f,b,[],l) ⟨hq, .inl rfl⟩ [] [4,4,1,3,3,3] [0])
  .exact ct (λ_ E=> .seg 68736258049 λX=> .use _ (ch w g W i j bf ws (aV q)) [0,2] [] λx2 I=> .seg 3 λO=>E (f,b,[es w.params [119,97,121] k v],l) ⟨hq, .inr ⟨k,v,rfl⟩⟩ [] [4,4,1,3,3,3] [0])
 | cons x J A=>
  intro i b l lo f q G U P
  obtain ⟨h1,I⟩:=aQ q
  rw [Fb] at G
  rw [Fu,wf] at P
  have io:x.1.length<=900:=B x (Fz h1)
  obtain ⟨y,R,hy,IB,hl,hp,r⟩:=iY Iv hk
  have rw:fI (ad (au Y.N e)) x.1=true->∀(k:Nat) (v:E9) (b l u:Nat),ab (env w) (eu w Y p g m W j e t ws Q (i+1) b [es w.params [119,97,121] k v] l (f++[(x.1++[e],u)])):=λF k v b l u=>A (i+1) b l _ _ I (by simp;omega) (.inr ⟨k,v,rfl⟩) λo r=>P o (by
   rw [r,if_pos F,Fd,Fm];rfl)
  have It:¬fI (ad (au Y.N e)) x.1=true->∀(k:Nat) (v:E9) (b l:Nat),ab (env w) (eu w Y p g m W j e t ws Q (i+1) b [es w.params [119,97,121] k v] l f):=λF k v b l=>A (i+1) b l _ _ I (by omega) (.inr ⟨k,v,rfl⟩) λo r=>P o (by
   rw [r,if_neg F])
  rw [hp] at rw It
  by_cases s:x.1=[]
  .have V:=rw (by rw [s];rfl)
   rcases U with rfl | ⟨k,v,rfl⟩<;>exact av (Iw x h1 (by omega) io s V)
  .obtain ⟨d,q⟩:∃d,x.1.getLast? =some d:=⟨_,List.getLast?_eq_some_getLast s⟩
   have ek:fI (ad y.ps) x.1=decide (d∈ad y.ps):=by unfold fI;rw [q]
   cases F:decide (d∈ad y.ps) with
   | true=>
    have V:=rw (ek.trans F)
    rcases U with rfl | ⟨k,v,rfl⟩<;>exact av (Ix x h1 (by omega) io d y.a y.n y.ps R s q hl r F V)
   | false=>
    have V:=It (by rw [ek,F];exact Fg)
    rcases U with rfl | ⟨k,v,rfl⟩<;>exact av (Iy x h1 (by omega) io d y.a y.n y.ps R s q hl r F V)
theorem we (w:E7) (Y:Lw) (d i b W f n t:Nat) (ws:List (List Nat×Nat)) (j:(aU Y.N).Nodup) (hk:n∈aU Y.N) (g:∀x∈ws,x.1.length<=900) (k:ws.length<=900) (e l:Nat):ab (env w) {eu w Y d i b W f n t ws (λo=>o.map (λx=>x.1)=dl (ad (au Y.N n)) n (ws.map (λx=>x.1))) 0 e [] l [] with c:=bB (mJ w.params) 0 i b (aq w.params Y) d [(⟨⟨[110,101,101,100,115]⟩⟩,Y.c5),(⟨⟨[110,97,109,101]⟩⟩,Y.c7)]}:=
 dq gI (o:=aW "list_iterator" W 0) rfl (by simp [eu]) (by kernel_rfl) (by kernel_rfl) rfl (wg w Y d i b W f n t ws _ j hk g ws 0 e l [] [] rfl (by simp;omega) (.inl rfl) λo h=>by simpa using h)
def ru (w:E7) (Y:Lw) (b:Nat) (Q:List (List Nat×Nat)->Prop) (i d t W e:Nat) (ws:List (List Nat×Nat)):af:={d:=45,α:=List (List Nat×Nat)×Nat×Nat×Nat×Nat,c:=bR (aA (aI w.params) 12) (.ref b) (aq w.params Y),need:=[(b,cq Y.cps Y.tN i),(Y.c5,aj Y.nd),(Y.c7,aK (.str ⟨⟨[d]⟩⟩ t)),(Y.c8,aj W),(Y.nd,dO w.params (.type "dict") none .ref (aM Y.N) Y.en),(W,ae (ws.map bf) e)],new:=λx=>[(Y.c5,aj Y.nd),(Y.c7,aK (.str ⟨⟨[x.2.1]⟩⟩ x.2.2.1)),(Y.c8,aj x.2.2.2.1),(Y.nd,dO w.params (.type "dict") none .ref (aM Y.N) Y.en),(x.2.2.2.1,ae (x.1.map bf) x.2.2.2.2)],post:=λx=>Q x.1,needB:=[bh Y.N],putB:=λx=>[bh Y.N]}
def fu (N:List NL) (W:List (List Nat)) (c:Nat):List (List Nat):=W++dl (ad (au N c)) c W
theorem pZ (p:List Nat) (n:Nat) (W:List (List Nat)):(dl p n W).length<=W.length:=by
 unfold dl
 rw [Fo];exact List.length_filter_le _ _
theorem wh (w:E7) (Y:Lw) (e:Nat) (Q:List (List Nat×Nat)->Prop) (It:(aU Y.N).Nodup) (hk:∀c∈Y.cps,c∈aU Y.N) (Ix:∀c∈Y.cps,c< 128):∀(r:List Nat) (i k t W f:Nat) (ws:List (List Nat×Nat)),Y.cps.drop i=r->ws.length*2^r.length<=32->(∀x∈ws,x.1.length+r.length<=10)->(∀o,o.map (λx=>x.1)=r.foldl (fu Y.N) (ws.map (λx=>x.1))->Q o)->ab (env w) (ru w Y e Q i k t W f ws):=by
 intro r
 induction r with
 | nil=>
  intro i k t W f ws E F n D
  exact ct (λ_ v=> .seg 68736258049 λV=> .use _ (cJ w e Y.tN i Y.cps (aV E)) [0] [] λs N=> .seg 2 λO=> .seg 1 λO4=>v (ws,k,t,W,f) (D ws rfl) [] [3,3,3,3,3] [0])
 | cons c r ih=>
  intro i k t W f ws E F n D
  obtain ⟨M,N⟩:=aQ E
  have hc:c∈Y.cps:=Fz M
  have hp:1<=2^r.length:=Nat.one_le_two_pow
  have Iz:ws.length*2^r.length*2<=32:=by
   rw [Fb,Nat.pow_succ,<-Nat.mul_assoc] at F;exact F
  have IA:ws.length<=ws.length*2^r.length:=Nat.le_mul_of_pos_right _ hp
  have T:∀o:List (List Nat×Nat),o.map (λx=>x.1)=dl (ad (au Y.N c)) c (ws.map (λx=>x.1))->o.length<=ws.length:=λo h=>by
   have:=congrArg Fl h
   rw [Fo] at this
   rw [this]
   exact FZ (pZ _ _ _) (by rw [Fo];exact FM _)
  exact av (have Iw:∀p:List (List Nat×Nat),p.map (λg=>g.1)=dl (ad (au Y.N c)) c (ws.map (λg=>g.1))->ws.length+p.length<=100000:=(λo h=>by have:=T o h;omega);have io:∀(m e j I y H:Nat),ab (env w) {eu w Y m e j W f c I ws (λp=>p.map (λg=>g.1)=dl (ad (au Y.N c)) c (ws.map (λg=>g.1))) 0 y [] H [] with c:=bB (mJ w.params) 0 e j (aq w.params Y) m [(⟨⟨[110,101,101,100,115]⟩⟩,Y.c5),(⟨⟨[110,97,109,101]⟩⟩,Y.c7)]}:=(λm e j I y H=>we w Y m e j W f c I ws It (hk c hc) (λx G=>by have:=n x G;omega) (by omega) y H);have S:∀(u W:Nat) (o:List (List Nat×Nat)),o.map (λx=>x.1)=dl (ad (au Y.N c)) c (ws.map (λx=>x.1))->ab (env w) (ru w Y e Q (i+1) c u W 0 (ws++o)):=(λu W o h=>ih (i+1) c u W 0 (ws++o) N (by
   have h4:=T o h
   have h5:(ws.length+o.length)*2^r.length<=(ws.length+ws.length)*2^r.length:=Nat.mul_le_mul_right _ (by omega)
   rw [Nat.add_mul ws.length ws.length] at h5
   rw [FU];omega) (by
   intro x G
   rcases GB.mp G with q | q
   .have:=n x q;rw [Fb] at this;omega
   .have U:x.1∈o.map (λx=>x.1):=Fa q
    rw [h] at U
    obtain ⟨IB,hy,ac⟩:=Gj.mp U
    obtain ⟨z,hz,e2⟩:=Gj.mp (Ia.mp hy).1
    have:=n z hz
    rw [Fb] at this
    rw [<-ac,<-e2,FU,Fb,Hf];omega) λo2 Iu=>D o2 (by
   rw [Iu,HW,Fd,h];rfl));λ_ v=> .seg 68736258049 λV=> .use _ (eH w e Y.tN i Y.cps c M) [0] [] λs Iy=> .seg 0x1001006001006006004004003003 λO=> .use _ (io (O 2) (O 0) (O 1) s 0 0) [2,0,0,5,1,3,1] [0] λb P=>have B:(λ(o':List (List Nat×Nat))=>Gv (λ(J:List Nat×Nat)=>J.1) o'=dl (ad (au Y.N c)) c (Gv (λ(J:List Nat×Nat)=>J.1) ws)) b.1:=(Fv P);have gt:eW w.params b.2.2.1:=(Fe P);have R:ws.length+b.1.length<=100000:=Iw b.1 B; .or _ _ (gt) (λA=> .view [0] [] _ _ _ _ ((bC (a:=O 2) (congrArg (λl=>oD l b.2.2.2) A))) (.seg 0x3001003002003001 λX=> .use _ (t6 bf w W f (O 1) (b.2.1) ws (b.1) R) [2,1] [] λL h7=> .seg 36873 λZ=> .use _ (S s L (b.1) B) [7,4,5,5,4,2] [0] λd C=>v (d.1,d.2.1,d.2.2.1,d.2.2.2.1,d.2.2.2.2) C [] [0,0,0,0,0] [0])) (λA=> .pick _ _ (A) λki rw=> .pick _ _ (rw) λvi Iv=> .view [0] [] _ _ _ _ ((bC (a:=O 2) (congrArg (λl=>oD l b.2.2.2) Iv))) (.seg 0x3001003002003001001001 λX=> .use _ (t6 bf w W f (O 1) (b.2.1) ws (b.1) R) [2,1] [] λL h7=> .seg 36873 λZ=> .use _ (S s L (b.1) B) [7,4,5,5,4,2] [0] λd C=>v (d.1,d.2.1,d.2.2.1,d.2.2.2.1,d.2.2.2.2) C [] [0,0,0,0,0] [0])))
def jl (P:E6):Expr:=bI (aA (aI P) 13)
def DK (e:Expr):Expr:=(eP e).1
def pK (e:Expr):Expr:=(eP e).2.1
def oU (P:E6):Expr:=pK (DK (jl P))
def dk (P:E6) (x:List E4):Prop:=x=[]\/∃k v,x=[es P [110,97,109,101] k v]
def gM (w:E7) (Y:Lw) (h d e b t:Nat) (j:List Nat) (Q:List (Int×Nat)->Prop) (i f:Nat) (lo:List E4) (l:Nat) (g:List (Int×Nat)):af:={d:=20,α:=List (Int×Nat)×Nat×List E4×Nat,c:=dE (oU w.params) 0 e b (eU (jl w.params) (aq w.params Y) h [(⟨⟨[104,111,117,114,115]⟩⟩,Y.c2)]) d [(⟨⟨[104,111,117,114,115]⟩⟩,Y.c2)],need:=[(e,cq j t i),(d,oD lo l),(b,ae (g.map iv) f),(Y.c2,aj Y.H),(Y.H,dO w.params (.type "dict") none iv Y.mh Y.er)],new:=λx=>[(d,oD x.2.2.1 x.2.2.2),(b,ae (x.1.map iv) x.2.1),(Y.c2,aj Y.H),(Y.H,dO w.params (.type "dict") none iv Y.mh Y.er)],post:=λx=>Q x.1/\dk w.params x.2.2.1}
theorem CX (w:E7) (Y:Lw) (m n f j t:Nat) (e:List Nat) (Q:List (Int×Nat)->Prop) (hk:∀c∈e,∃v,look? Y.mh c=some v):∀(r:List Nat) (i b l:Nat) (lo:List E4) (d:List (Int×Nat)),e.drop i=r->d.length+r.length<=900->dk w.params lo->(∀o,o.map (λx=>x.1)=d.map (λx=>x.1)++r.map (aa Y.mh)->Q o)->ab (env w) (gM w Y m n f j t e Q i b lo l d):=by
 let P:∀{w:E7} {lo:List E4} {Y:Lw} {m n f j t:Nat} {e:List Nat} {Q:List (Int×Nat)->Prop} {i b l:Nat} {d:List (Int×Nat)} (c:Nat) (v:Int×Nat) (h:e[i]? =some c) (H:look? Y.mh c=some v) (y:d.length<=1000) (A:∀(k:Nat) (g:E9) (b l:Nat),ab (env w) (gM w Y m n f j t e Q (i+1) b [es w.params [110,97,109,101] k g] l (d++[v]))),PP (env w) (gM w Y m n f j t e Q i b lo l d):= @λw lo Y m n f j t e Q i b l d c v h H y A _ q=>
  .seg 68736258049 λF=> .use _ (eH w f t i e c h) [0] [] λB s=> .seg 0x5001005005005002004002002 λO=> .use _ (cu w Y.H (Fx "dict") none Y.er c B Y.mh v H) [4] [] λX T=> .seg 16385 λR=> .use _ (jc w j b d v (by omega)) [3] [] λZ U=> .seg 0 λS=> .use _ (A (kT lo (O 0)) (GR (Str.mk (Array.mk [c])) B) (b+1) (kE lo l)) [2,2,0,1,0] [] λp C=>have V:Q p.1:=(Fv C);have W:dk w.params p.2.2.1:=(Fe C);q (p.1,p.2.1,p.2.2.1,p.2.2.2) C [] [0,0,0,0] []
 intro r
 induction r with
 | nil=>
  intro i b l lo d u y E D
  have I:Q d:=D d (by simp)
  rcases E with rfl | ⟨k,g,rfl⟩
  .exact ct (λ_ q=> .seg 68736258049 λF=> .use _ (cJ w f t i e (aV u)) [0] [] λB s=> .seg 2 λO=>q (d,b,[],l) ⟨I, .inl rfl⟩ [] [3,3,3,3] [])
  .exact ct (λ_ q=> .seg 68736258049 λF=> .use _ (cJ w f t i e (aV u)) [0] [] λB s=> .seg 2 λO=>q (d,b,[es w.params [110,97,109,101] k g],l) ⟨I, .inr ⟨k,g,rfl⟩⟩ [] [3,3,3,3] [])
 | cons c r A=>
  intro i b l lo d u y E D
  obtain ⟨G,s⟩:=aQ u
  rw [Fb] at y
  obtain ⟨v,J⟩:=hk c (Fz G)
  have L:aa Y.mh c=v.1:=by unfold aa;rw [J];rfl
  have N:∀(k:Nat) (g:E9) (b l:Nat),ab (env w) (gM w Y m n f j t e Q (i+1) b [es w.params [110,97,109,101] k g] l (d++[v])):=λk g b l=>A (i+1) b l _ _ s (by simp;omega) (.inr ⟨k,g,rfl⟩) λo M=>D o (by
   rw [M,Fd,Fm]
   show _=_++(aa Y.mh c::r.map (aa Y.mh))
   rw [L];rfl)
  rcases E with rfl | ⟨k,g,rfl⟩<;>exact av (P c v G J (by omega) N)
theorem CW (w:E7) (Y:Lw) (e f i d t:Nat) (b:List Nat) (hk:∀c∈b,∃v,look? Y.mh c=some v) (j:b.length<=900) (g l:Nat):ab (env w) {gM w Y e f i d t b (λo=>o.map (λx=>x.1)=b.map (aa Y.mh)) 0 g [] l [] with c:=bB (oU w.params) 0 i d (eU (jl w.params) (aq w.params Y) e [(⟨⟨[104,111,117,114,115]⟩⟩,Y.c2)]) f [(⟨⟨[104,111,117,114,115]⟩⟩,Y.c2)]}:=
 dq nj (o:=cq b t 0) rfl (by simp [gM]) (by kernel_rfl) (by kernel_rfl) rfl (CX w Y e f i d t b _ hk b 0 g l [] [] rfl (by simp;omega) (.inl rfl) λo h=>by simpa using h)
def iN (w:E7) (Y:Lw) (d e b:Nat) (Q:List (Int×Nat)->Prop) (i f:Nat) (lo:List E4) (l:Nat) (g:List (Int×Nat)):af:={d:=40,α:=List (Int×Nat)×Nat×List E4×Nat,c:=dE (jl w.params) 0 e b (aq w.params Y) d [(⟨⟨[104,111,117,114,115]⟩⟩,Y.c2)],need:=[(e,aW "list_iterator" Y.W i),(d,oD lo l),(b,ae (g.map iv) f),(Y.W,ae (Y.ws.map bf) Y.wn),(Y.c2,aj Y.H),(Y.H,dO w.params (.type "dict") none iv Y.mh Y.er)],new:=λx=>[(d,oD x.2.2.1 x.2.2.2),(b,ae (x.1.map iv) x.2.1),(Y.W,ae (Y.ws.map bf) Y.wn),(Y.c2,aj Y.H),(Y.H,dO w.params (.type "dict") none iv Y.mh Y.er)],post:=λx=>Q x.1/\eW w.params x.2.2.1}
def fs (m:MI) (W:List (List Nat)):List Int:=W.map λx=>(x.map (aa m)).sum
theorem CU (w:E7) (Y:Lw) (k f g:Nat) (Q:List (Int×Nat)->Prop) (hk:∀x∈Y.ws,x.1.length<=900/\(∀c∈x.1,c< 128)/\∀c∈x.1,∃Iu,look? Y.mh c=some Iu):∀(r:List (List Nat×Nat)) (i b d:Nat) (lo:List E4) (e:List (Int×Nat)),Y.ws.drop i=r->e.length+r.length<=900->eW w.params lo->(∀o,o.map (λx=>x.1)=e.map (λx=>x.1)++fs Y.mh (r.map (λx=>x.1))->Q o)->ab (env w) (iN w Y k f g Q i b lo d e):=by
 let It:∀{w:E7} {lo:List E4} {Y:Lw} {k f g:Nat} {Q:List (Int×Nat)->Prop} {i b d:Nat} {e:List (Int×Nat)} (x:List Nat×Nat) (h:Y.ws[i]? =some x) (M:∀c∈x.1,c< 128) (F:e.length<=1000) (E:∀(B f g b d:Nat),ab (env w) {gM w Y k B f g x.2 x.1 (λo=>o.map (λx=>x.1)=x.1.map (aa Y.mh)) 0 b [] d [] with c:=bB (oU w.params) 0 f g (eU (jl w.params) (aq w.params Y) k [(⟨⟨[104,111,117,114,115]⟩⟩,Y.c2)]) B [(⟨⟨[104,111,117,114,115]⟩⟩,Y.c2)]}) (t:∀(m:Nat) (v:E9) (b d u:Nat),ab (env w) (iN w Y k f g Q (i+1) b [es w.params [119,97,121] m v] d (e++[((x.1.map (aa Y.mh)).sum,u)]))),PP (env w) (iN w Y k f g Q i b lo d e):= @λw lo Y k f g Q i b d e x h M F E t _ s=>
  .seg 68736258049 λJ=> .use _ (cr w f Y.W i Y.wn bf Y.ws x h) [0,2] [] λS C=> .seg 0x1003000000003003 λA=> .use _ (fL w (x.1) (x.2) M) [] [] λx4 h4=> .seg 1 λq=> .use _ (E (q 1) x4 (q 0) 0 0) [2,0,0,4,4] [] λn N=>have ac:(λ(o:List (Int×Nat))=>Gv (λ(x:Int×Nat)=>x.1) o=Gv (aa Y.mh) x.1) n.1:=(Fv N);have gt:dk w.params n.2.2.1:=(Fe N);have R:(n.1.map (λx:Int×Nat=>x.1)).sum=(x.1.map (aa Y.mh)).sum:=congrArg List.sum ac; .or _ _ (gt) (λI=> .view [0] [] _ _ _ _ ((bC (a:=q 1) (congrArg (λl=>oD l n.2.2.2) I))) (.seg 0x1001002001002002001001001 λO=> .use _ (jL w (O 0) (q 0) (n.2.1) (O 2) 0 (O 1) (n.1) (List.sum (Gv (aa Y.mh) x.1)) R) [1,2,0] [] λy h9=> .seg 32769 λT=> .use _ (jc w g b e ((List.sum (Gv (aa Y.mh) x.1),y)) (by omega)) [7] [] λIv W=> .seg 0 λU=> .use _ (t (kT lo (A 0)) (GR (Str.mk (Array.mk x.1)) x.2) (b+1) (kE lo d) y) [5,6,0,4,2,2] [] λj p=>have X:Q j.1:=(Fv p);have Z:eW w.params j.2.2.1:=(Fe p);s (j.1,j.2.1,j.2.2.1,j.2.2.2) p [] [0,0,0,0,0] [])) (λI=> .pick _ _ (I) λki io=> .pick _ _ (io) λvi rw=> .view [0] [] _ _ _ _ ((bC (a:=q 1) (congrArg (λl=>oD l n.2.2.2) rw))) (.seg 0x1001002001002002001001001001001 λO=> .use _ (jL w (O 0) (q 0) (n.2.1) (O 2) 0 (O 1) (n.1) (List.sum (Gv (aa Y.mh) x.1)) R) [1,2,0] [] λy h9=> .seg 32769 λT=> .use _ (jc w g b e ((List.sum (Gv (aa Y.mh) x.1),y)) (by omega)) [7] [] λIv W=> .seg 0 λU=> .use _ (t (kT lo (A 0)) (GR (Str.mk (Array.mk x.1)) x.2) (b+1) (kE lo d) y) [5,6,0,4,2,2] [] λj p=>have X:Q j.1:=(Fv p);have Z:eW w.params j.2.2.1:=(Fe p);s (j.1,j.2.1,j.2.2.1,j.2.2.2) p [] [0,0,0,0,0] []))
 intro r
 induction r with
 | nil=>
  intro i b d lo e D F H G
  have P:Q e:=G e (by simp [fs])
  rcases H with rfl | ⟨m,v,rfl⟩
  .exact ct (λ_ s=> .seg 68736258049 λJ=> .use _ (ch w f Y.W i Y.wn bf Y.ws (aV D)) [0,2] [] λS C=> .seg 3 λA=>s (e,b,[],d) ⟨P, .inl rfl⟩ [] [4,4,1,3,3] [])
  .exact ct (λ_ s=> .seg 68736258049 λJ=> .use _ (ch w f Y.W i Y.wn bf Y.ws (aV D)) [0,2] [] λS C=> .seg 3 λA=>s (e,b,[es w.params [119,97,121] m v],d) ⟨P, .inr ⟨m,v,rfl⟩⟩ [] [4,4,1,3,3] [])
 | cons x r t=>
  intro i b d lo e D F H G
  obtain ⟨L,C⟩:=aQ D
  rw [Fb] at F
  obtain ⟨b1,V,b3⟩:=hk x (Fz L)
  have E:=λ(B f g b d:Nat)=>CW w Y k B f g x.2 x.1 b3 b1 b d
  have nx:∀(m:Nat) (v:E9) (b d u:Nat),ab (env w) (iN w Y k f g Q (i+1) b [es w.params [119,97,121] m v] d (e++[((x.1.map (aa Y.mh)).sum,u)])):=λm v b d u=>t (i+1) b d _ _ C (by simp;omega) (.inr ⟨m,v,rfl⟩) λo ho=>G o (by
   rw [ho,Fd,Fm];rfl)
  rcases H with rfl | ⟨m,v,rfl⟩<;>exact av (It x L V (by omega) E nx)
theorem CT (w:E7) (Y:Lw) (d b:Nat) (hk:∀x∈Y.ws,x.1.length<=900/\(∀c∈x.1,c< 128)/\∀c∈x.1,∃v,look? Y.mh c=some v) (f:Y.ws.length<=900) (e l:Nat):ab (env w) {iN w Y d Y.it b (λo=>o.map (λx=>x.1)=fs Y.mh (Y.ws.map (λx=>x.1))) 0 e [] l [] with c:=bB (jl w.params) 0 Y.it b (aq w.params Y) d [(⟨⟨[104,111,117,114,115]⟩⟩,Y.c2)]}:=
 dq gI (o:=aW "list_iterator" Y.W 0) rfl (by simp [iN]) (by kernel_rfl) (by kernel_rfl) rfl (CU w Y d Y.it b _ hk Y.ws 0 e l [] [] rfl (by simp;omega) (.inl rfl) λo h=>by simpa using h)
def cb (N:List NL) (b:List Nat):List (List Nat):=b.foldl (fu N) [[]]
def yw (w:E7) (Y:Lw) (b t:Nat):af:={d:=55,α:=List (List Nat×Nat)×List (Int×Nat)×(Nat×Nat)×(Nat×Nat)×(Nat×Nat),c:= .block (((aI w.params).drop 11).take 3) (aq w.params Y),need:=[(Y.c1,aK (.str ⟨⟨Y.cps⟩⟩ Y.tN)),(Y.c2,aj Y.H),(Y.c5,aj Y.nd),(Y.c7,aK (.str ⟨⟨[b]⟩⟩ t)),(Y.c8,br),(Y.c9,br),(Y.nd,dO w.params (.type "dict") none .ref (aM Y.N) Y.en),(Y.H,dO w.params (.type "dict") none iv Y.mh Y.er)],new:=λx=>[(Y.c1,aK (.str ⟨⟨Y.cps⟩⟩ Y.tN)),(Y.c2,aj Y.H),(Y.c5,aj Y.nd),(Y.c7,aK (.str ⟨⟨[x.2.2.1.1]⟩⟩ x.2.2.1.2)),(Y.c8,aj x.2.2.2.1.1),(Y.c9,aj x.2.2.2.2.1),(Y.nd,dO w.params (.type "dict") none .ref (aM Y.N) Y.en),(Y.H,dO w.params (.type "dict") none iv Y.mh Y.er),(x.2.2.2.1.1,ae (x.1.map bf) x.2.2.2.1.2),(x.2.2.2.2.1,ae (x.2.1.map iv) x.2.2.2.2.2)],post:=λx=>x.1.map (λx=>x.1)=cb Y.N Y.cps/\x.2.1.map (λx=>x.1)=fs Y.mh (x.1.map (λx=>x.1)),needB:=[bh Y.N],putB:=λx=>[bh Y.N]}
theorem xd {e:bu} {T:af} (b:Code) (t:Sem Gn) (f:bV e T) (h:(∀B p,dP ⟨e.D,⟨pq,e.w.params⟩,e.kt,B,none,T.d⟩ f (.run b p .base t T.need) T.needB)=(∀B p,eg ⟨e.D,⟨pq,e.w.params⟩,e.kt,B,none,T.d⟩ f (.run b p .base t T.need) T.needB)):fy e T b t:=
 λd j k g l p s F P i=>by
  have q:=h.mpr (λB p=>mS _ f _ _) d.below p
  have m:wp (FQ pq e.w) (d.goto b) t (FP (FQ pq e.w) d e.kt F .base b) (FE (FQ pq e.w) d e.kt F .base) p s:=nT k g l i f (.run b p .base t T.need) T.needB s trivial (a9.start P) (cZ.refl s) q
  rw [<-j] at m
  exact m
theorem xb {e:bu} {T:af} (d:Code) (t:Sem Gn) (f:bV e T) (h:∀b,(∀B p,dP ⟨e.D,⟨pq,cM e.w.params b⟩,e.kt,B,none,T.d⟩ f (.run d p .base t T.need) T.needB)=(∀B p,eg ⟨e.D,⟨pq,cM e.w.params b⟩,e.kt,B,none,T.d⟩ f (.run d p .base t T.need) T.needB)):fy e T d t:=by
 have q:=h (e.w.params.followText "special-get-raises")
 rw [ni] at q
 exact xd d t f q
def vE {e:bu} {T:af} (b:Code) (t:Sem Gn) (d:PP e T) (P:E6):Prop:=∀B p,dP ⟨e.D,⟨pq,P⟩,e.kt,B,none,T.d⟩ (d T .fin) (.run b p .base t T.need) T.needB
def qr {e:bu} {T:af} (b:Code) (t:Sem Gn) (d:PP e T) (P:E6):Prop:=∀B p,eg ⟨e.D,⟨pq,P⟩,e.kt,B,none,T.d⟩ (d T .fin) (.run b p .base t T.need) T.needB
theorem qG {e:bu} {T:af} (d:Code) (t:Sem Gn) (f:PP e T) (h:vE d t f (cM e.w.params false)=qr d t f (cM e.w.params false):=by kernel_rfl) (g:vE d t f (cM e.w.params true)=qr d t f (cM e.w.params true):=by kernel_rfl):fy e T d t:=xb d t (f T .fin) (λb=>match b with | false=>h | true=>g)
def EU {e:bu} {T:af} (b:bV e T):bV e T:=match b with | .seg N k=> .seg (N/4096) k | x=>x
section
variable {w:E7} {T:af} {d:Nat} {Γ:Ctx} {p:Pos} {s0 s:Fc} {own:List Addr} {A r:List ao}
theorem EY (v:List Nat) {st:List Stmt} {e:Env} {i:Code} (h:fy (env w) T i (Dn (.block st e))) (n:Γ.code=i) (k:∀es,T.outer=some es->envsOf Γ.below=es) (H:bt (env w) d Γ) (D:T.d<=d) (G:Go (env w).kt s0 own s A.flatten) (t:take v (bg T.need++T.needB) A (· =r)) {f0:Flow} (o:∀x,T.r x= .ok f0)
 {Q:Flow->Pos->Fc->Prop} {E:E9->Pos->Fc->Prop} (m:∀x b p,T.post x->Go (env w).kt s0 own b (bp T x r).flatten->Q f0 p b):wp (FQ pq w) Γ (Hb st e) Q E p s:=by
 have l:dQ T.d Γ:=⟨by have:=H.hl.cnt;omega,by have:=H.hl.units;omega⟩
 have g:=G.perm (gS t)
 have q:=h Γ n H.hh k l p s (λr b=>match r with | .ok f=>∀p,Q f p b | .error x=>False) g.sub.pre (λx b u A=>by
  rw [o]
  exact λp=>m x b p u (Go.eq (g.stepR A) (eK x r)))
 have B:=l.cnt
 have C:=l.units
 have y:=mI (jd w.params) (.block st e) Γ (by omega) (by omega) p s _ _ q
 have j:wp (FQ pq w) Γ ((Hb st e).onRaise (λx=>do HS x e;Hd x)>>=λf=>pure (.done f)) (finPost (FQ pq w) Γ λr b=>match r with | .ok f=>∀p,Q f p b | .error x=>False) (λx _ b=>False) p s:=y
 rw [E5,Gs] at j
 refine Fs _ _ _ (λf p s h=>h p) (λx p s h=> ?_) _ _ j
 exact (mL _ p s (Fs _ _ _ (λ_ _ _ h=>h) (λ_ _ _ h=>h) _ _ h)).elim
end
def fa (P:E6) (k b d:Nat) (v e f:E9):List E4:=[es P [115,99,114,105,112,116] k v,es P [115,105,122,101] b e,es P [99,101,108,108,115] d f]
def fj (P:E6) (Y:Lw):List E4:=[es P [106] Y.k5 Y.v5,es P [116,117,114,110,101,100] Y.k6 (.ref Y.T)]
theorem lh {ev:Env} {a:Addr} {es:List E4} {ep:Nat} {sl:SL}:([(a,bv es ep sl)]++([]:List ao).flatten).Perm (([]:ao)++[a8 [⟨ev,a,bD es ep,sl⟩]].flatten):= .refl _
theorem DE (P:E6) (Y:Lw) (o:Obj) (h:o.isFreed=false):cn (aq P Y,Y.fr,o):=⟨rfl,(by
 show (cW (kj P)).scope.kind≠ .module
 have:(cW (kj P)).scope.kind= .function:=(by kernel_rfl)
 rw [this];exact λz=>nomatch z),h⟩
def jV (w:E7) (Y:Lw) (k:List E4):af:={d:=55,α:=Nat×Nat×Nat,c:= .block [aA (aI w.params) 14] (aq w.params Y),need:=[(Y.fr,bv (fa w.params Y.k1 Y.k2 Y.k3 Y.v1 Y.v2 Y.v3++(k++(fj w.params Y++[]))) Y.fe Y.sl),(Y.c9,aj Y.V),(Y.V,ae (Y.hs.map iv) Y.vn)],new:=λx=>[(Y.fr,bv (fa w.params Y.k1 Y.k2 Y.k3 Y.v1 Y.v2 Y.v3++(k++(fj w.params Y++[es w.params [108,111,110,103,101,115,116] x.1 (.int Y.lg x.2.1)]))) x.2.2 Y.sl),(Y.c9,aj Y.V),(Y.V,ae (Y.hs.map iv) Y.vn)]}
theorem zw (w:E7) (Y:Lw) (k:Nat) (v:E9) (h:cU Y.hs=Y.lg) (d:Y.hs≠[]):ax (env w) (jV w Y [es w.params [107] k v]) (Dn (jV w Y [es w.params [107] k v]).c):=aG _ (λ_ e=> .seg 0x1001003001003003001001002000000 λO=> .use _ (i7 w (O 0) Y.V Y.vn (O 1) 0 Y.hs Y.lg d h) [1,3,0] [] λx f=> .seg 8194 λb=>e (b 0,x,Y.fe+1) trivial [] [1,1,0] [])
theorem zv (w:E7) (Y:Lw) (h:cU Y.hs=Y.lg) (d:Y.hs≠[]):ax (env w) (jV w Y []) (Dn (jV w Y []).c):=aG _ (λ_ e=> .seg 0x1001003001003003001001002000000 λO=> .use _ (i7 w (O 0) Y.V Y.vn (O 1) 0 Y.hs Y.lg d h) [1,3,0] [] λx f=> .seg 8194 λb=>e (b 0,x,Y.fe+1) trivial [] [1,1,0] [])
theorem l5 (w:E7) (Y:Lw) (es:List E4) (s:SL) (nd i g:Nat) (b:List Nat) (t:Nat) (N:List NL) (e:Nat) (d:MI) (f:Nat) (C:bE N b Y.mh d) (j:∀c∈b,c< 128):ab (env w) (r3 w nd i g b t N e Y.mh Y.er d f [⟨(aq w.params Y),Y.fr,bD es Y.fe,s⟩] [((aq w.params Y),Y.fr,bD es Y.fe)]):=
 BP w nd i g b t N e Y.mh Y.er d f _ _ C rfl (n4 (DE w.params Y _ rfl) (λ_ h=>nomatch h)) j
def ny (w:E7) (Y:Lw) (e:Nat) (N:List NL) (k:List E4):af:={d:=125,α:=(List Lv×Nat×Nat)×(List Lv×Nat×Nat)×(Nat×Nat×SL),c:= .block (((aI w.params).drop 15).take 2) (aq w.params Y),need:=[(Y.fr,bv (fa w.params Y.k1 Y.k2 Y.k3 Y.v1 Y.v2 Y.v3++(k++(fj w.params Y++[es w.params [108,111,110,103,101,115,116] Y.k7 (.int Y.lg Y.tl)]))) Y.fe Y.sl),(Y.c1,aK (.str ⟨⟨Y.cps⟩⟩ Y.tN)),(Y.c2,aj Y.H),(Y.c3,aj Y.E),(Y.c4,aj Y.G),(Y.c5,aj Y.nd),(Y.c10,br),(Y.nd,dO w.params (.type "dict") none .ref (aM Y.N) Y.en),(Y.T,dO w.params (.type "dict") none .ref (aM N) e),(Y.H,dO w.params (.type "dict") none iv Y.mh Y.er),(Y.E,dO w.params (.type "dict") none iv Y.me Y.ee),(Y.G,dO w.params (.type "dict") none iv Y.ml Y.el)],new:=λx=>[(Y.fr,bv (fa w.params Y.k1 Y.k2 Y.k3 Y.v1 Y.v2 Y.v3++(k++(fj w.params Y++[es w.params [108,111,110,103,101,115,116] Y.k7 (.int Y.lg Y.tl),es w.params [98,97,99,107] x.2.2.1 (.ref x.2.1.2.1)]))) x.2.2.2.1 x.2.2.2.2),(Y.c1,aK (.str ⟨⟨Y.cps⟩⟩ Y.tN)),(Y.c2,aj Y.H),(Y.c3,aj Y.E),(Y.c4,aj Y.G),(Y.c5,aj Y.nd),(Y.c10,aj x.1.2.1),(Y.nd,dO w.params (.type "dict") none .ref (aM Y.N) Y.en),(Y.T,dO w.params (.type "dict") none .ref (aM N) e),(Y.H,dO w.params (.type "dict") none iv Y.mh Y.er),(Y.E,dO w.params (.type "dict") none iv Y.me Y.ee),(Y.G,dO w.params (.type "dict") none iv Y.ml Y.el),(x.1.2.1,ae ((aD x.1.1).map .ref) x.1.2.2),(x.2.1.2.1,ae ((aD x.2.1.1).map .ref) x.2.1.2.2)],post:=λx=>cA Y.cps (λc=>ad (au Y.N c)) (aa Y.mh) Y.me x.1.1/\cA Y.cps.reverse (λc=>ad (au N c)) (aa Y.mh) Y.ml x.2.1.1,needB:=[bh Y.N,bh N],putB:=λx=>[bh Y.N,bh N,bq w.params x.1.1,bq w.params x.2.1.1],outer:=some []}
theorem zt (w:E7) (Y:Lw) (e:Nat) (N:List NL) (k:Nat) (v:E9) (C:bE Y.N Y.cps Y.mh Y.me) (i:bE N Y.cps.reverse Y.mh Y.ml) (j:∀c∈Y.cps,c< 128) (l:∀c∈Y.cps.reverse,c< 128) (n:Y.cps.length=3\/Y.cps.length=4\/Y.cps.length=5):fy (env w) (ny w Y e N [es w.params [107] k v]) (.func (aI w.params) (aq w.params Y)) (Dn (.block (((aI w.params).drop 15).take 2) (aq w.params Y))):=qG _ _ (λ_ s=> .seg 0x4003006002000 λt=> .view [0] [] _ _ _ _ ((lh (ev:=(aq w.params Y)) (a:=Y.fr) (es:=(fa w.params Y.k1 Y.k2 Y.k3 Y.v1 Y.v2 Y.v3++([es w.params [107] k v]++(fj w.params Y++[es w.params [108,111,110,103,101,115,116] Y.k7 (.int Y.lg Y.tl)])))) (ep:=Y.fe) (sl:=Y.sl))) (.use _ (l5 w Y (fa w.params Y.k1 Y.k2 Y.k3 Y.v1 Y.v2 Y.v3++([es w.params [107] k v]++(fj w.params Y++[es w.params [108,111,110,103,101,115,116] Y.k7 (Gf Y.lg Y.tl)]))) Y.sl Y.nd Y.H Y.E Y.cps Y.tN Y.N Y.en Y.me Y.ee C j) [6,7,7] [1,0] λx f=>have y:cA Y.cps (λ(c:Nat)=>ad (au Y.N c)) (aa Y.mh) Y.me x.2.2.1:=(Fv f);have m:aC x.2.2.2=[(aq w.params Y,Y.fr,bD (fa w.params Y.k1 Y.k2 Y.k3 Y.v1 Y.v2 Y.v3++([es w.params [107] k v]++(fj w.params Y++[es w.params [108,111,110,103,101,115,116] Y.k7 (Gf Y.lg Y.tl)]))) Y.fe)]:=(Fe f); .pick _ _ (iB m) λp hp=>have D:x.2.2.2=aF.mk (aq w.params Y) Y.fr (bD (fa w.params Y.k1 Y.k2 Y.k3 Y.v1 Y.v2 Y.v3++([es w.params [107] k v]++(fj w.params Y++[es w.params [108,111,110,103,101,115,116] Y.k7 (Gf Y.lg Y.tl)]))) Y.fe) p.1::p.2:=(Fv hp);have E:aC p.2=[]:=(Fe hp); .view [] [2] _ _ _ _ (ip hp.1) (.seg 0x100100100600000b00b λd=> .use _ (qX w Y.cps Y.tN (d 2) (d 1) (HG Y.cps) rfl n) [0] [] λr A=> .seg 167804930 λu=> .view [1] [] _ _ _ _ ((lh (ev:=(aq w.params Y)) (a:=Y.fr) (es:=(fa w.params Y.k1 Y.k2 Y.k3 Y.v1 Y.v2 Y.v3++([es w.params [107] k v]++(fj w.params Y++[es w.params [108,111,110,103,101,115,116] Y.k7 (.int Y.lg Y.tl)])))) (ep:=Y.fe) (sl:=p.1))) (.use _ (l5 w Y (fa w.params Y.k1 Y.k2 Y.k3 Y.v1 Y.v2 Y.v3++([es w.params [107] k v]++(fj w.params Y++[es w.params [108,111,110,103,101,115,116] Y.k7 (Gf Y.lg Y.tl)]))) (p.1) Y.T Y.H Y.G (HG Y.cps) r N e Y.ml Y.el i l) [11,2,10] [4,0] λb g=>have B:cA (HG Y.cps) (λ(c:Nat)=>ad (au N c)) (aa Y.mh) Y.ml b.2.2.1:=(Fv g);have o:aC b.2.2.2=[(aq w.params Y,Y.fr,bD (fa w.params Y.k1 Y.k2 Y.k3 Y.v1 Y.v2 Y.v3++([es w.params [107] k v]++(fj w.params Y++[es w.params [108,111,110,103,101,115,116] Y.k7 (Gf Y.lg Y.tl)]))) Y.fe)]:=(Fe g); .pick _ _ (iB o) λq h=>have F:b.2.2.2=aF.mk (aq w.params Y) Y.fr (bD (fa w.params Y.k1 Y.k2 Y.k3 Y.v1 Y.v2 Y.v3++([es w.params [107] k v]++(fj w.params Y++[es w.params [108,111,110,103,101,115,116] Y.k7 (Gf Y.lg Y.tl)]))) Y.fe) q.1::q.2:=(Fv h);have G:aC q.2=[]:=(Fe h); .view [] [2] _ _ _ _ (ip h.1) (.seg 4097 λO=>s (((x.2.2.1,x.1,x.2.1),(b.2.2.1,b.1,b.2.1),O 0,Y.fe+1,q.1)) (show cA Y.cps (λ(c:Nat)=>ad (au Y.N c)) (aa Y.mh) Y.me ((x.2.2.1,x.1,x.2.1),(b.2.2.1,b.1,b.2.1),O 0,Y.fe+1,q.1).1.1/\cA (HG Y.cps) (λ(c:Nat)=>ad (au N c)) (aa Y.mh) Y.ml ((x.2.2.1,x.1,x.2.1),(b.2.2.1,b.1,b.2.1),O 0,Y.fe+1,q.1).2.1.1 from (by trivial)) [] [0,8,8,8,8,8,8,5,0,0,3,0,2,0] [4,1,3,1])))))
theorem zr (w:E7) (Y:Lw) (e:Nat) (N:List NL) (C:bE Y.N Y.cps Y.mh Y.me) (i:bE N Y.cps.reverse Y.mh Y.ml) (j:∀c∈Y.cps,c< 128) (k:∀c∈Y.cps.reverse,c< 128) (m:Y.cps.length=3\/Y.cps.length=4\/Y.cps.length=5):fy (env w) (ny w Y e N []) (.func (aI w.params) (aq w.params Y)) (Dn (.block (((aI w.params).drop 15).take 2) (aq w.params Y))):=qG _ _ (λ_ r=> .seg 0x4003006002000 λs=> .view [0] [] _ _ _ _ ((lh (ev:=(aq w.params Y)) (a:=Y.fr) (es:=(fa w.params Y.k1 Y.k2 Y.k3 Y.v1 Y.v2 Y.v3++([]++(fj w.params Y++[es w.params [108,111,110,103,101,115,116] Y.k7 (.int Y.lg Y.tl)])))) (ep:=Y.fe) (sl:=Y.sl))) (.use _ (l5 w Y (fa w.params Y.k1 Y.k2 Y.k3 Y.v1 Y.v2 Y.v3++([]++(fj w.params Y++[es w.params [108,111,110,103,101,115,116] Y.k7 (Gf Y.lg Y.tl)]))) Y.sl Y.nd Y.H Y.E Y.cps Y.tN Y.N Y.en Y.me Y.ee C j) [6,7,7] [1,0] λx f=>have u:cA Y.cps (λ(c:Nat)=>ad (au Y.N c)) (aa Y.mh) Y.me x.2.2.1:=(Fv f);have l:aC x.2.2.2=[(aq w.params Y,Y.fr,bD (fa w.params Y.k1 Y.k2 Y.k3 Y.v1 Y.v2 Y.v3++([]++(fj w.params Y++[es w.params [108,111,110,103,101,115,116] Y.k7 (Gf Y.lg Y.tl)]))) Y.fe)]:=(Fe f); .pick _ _ (iB l) λp hp=>have A:x.2.2.2=aF.mk (aq w.params Y) Y.fr (bD (fa w.params Y.k1 Y.k2 Y.k3 Y.v1 Y.v2 Y.v3++([]++(fj w.params Y++[es w.params [108,111,110,103,101,115,116] Y.k7 (Gf Y.lg Y.tl)]))) Y.fe) p.1::p.2:=(Fv hp);have B:aC p.2=[]:=(Fe hp); .view [] [2] _ _ _ _ (ip hp.1) (.seg 0x100100100600000b00b λd=> .use _ (qX w Y.cps Y.tN (d 2) (d 1) (HG Y.cps) rfl m) [0] [] λo v=> .seg 167804930 λt=> .view [1] [] _ _ _ _ ((lh (ev:=(aq w.params Y)) (a:=Y.fr) (es:=(fa w.params Y.k1 Y.k2 Y.k3 Y.v1 Y.v2 Y.v3++([]++(fj w.params Y++[es w.params [108,111,110,103,101,115,116] Y.k7 (.int Y.lg Y.tl)])))) (ep:=Y.fe) (sl:=p.1))) (.use _ (l5 w Y (fa w.params Y.k1 Y.k2 Y.k3 Y.v1 Y.v2 Y.v3++([]++(fj w.params Y++[es w.params [108,111,110,103,101,115,116] Y.k7 (Gf Y.lg Y.tl)]))) (p.1) Y.T Y.H Y.G (HG Y.cps) o N e Y.ml Y.el i k) [11,2,10] [4,0] λb g=>have y:cA (HG Y.cps) (λ(c:Nat)=>ad (au N c)) (aa Y.mh) Y.ml b.2.2.1:=(Fv g);have n:aC b.2.2.2=[(aq w.params Y,Y.fr,bD (fa w.params Y.k1 Y.k2 Y.k3 Y.v1 Y.v2 Y.v3++([]++(fj w.params Y++[es w.params [108,111,110,103,101,115,116] Y.k7 (Gf Y.lg Y.tl)]))) Y.fe)]:=(Fe g); .pick _ _ (iB n) λq h=>have D:b.2.2.2=aF.mk (aq w.params Y) Y.fr (bD (fa w.params Y.k1 Y.k2 Y.k3 Y.v1 Y.v2 Y.v3++([]++(fj w.params Y++[es w.params [108,111,110,103,101,115,116] Y.k7 (Gf Y.lg Y.tl)]))) Y.fe) q.1::q.2:=(Fv h);have E:aC q.2=[]:=(Fe h); .view [] [2] _ _ _ _ (ip h.1) (.seg 4097 λO=>r (((x.2.2.1,x.1,x.2.1),(b.2.2.1,b.1,b.2.1),O 0,Y.fe+1,q.1)) (show cA Y.cps (λ(c:Nat)=>ad (au Y.N c)) (aa Y.mh) Y.me ((x.2.2.1,x.1,x.2.1),(b.2.2.1,b.1,b.2.1),O 0,Y.fe+1,q.1).1.1/\cA (HG Y.cps) (λ(c:Nat)=>ad (au N c)) (aa Y.mh) Y.ml ((x.2.2.1,x.1,x.2.1),(b.2.2.1,b.1,b.2.1),O 0,Y.fe+1,q.1).2.1.1 from (by trivial)) [] [0,8,8,8,8,8,8,5,0,0,3,0,2,0] [4,1,3,1])))))
def BO (e:Expr):Expr:=match e with | .BinOp l _ _ _=>l | _=>e
def e8 (P:E6):List Stmt:=aY (aA (aI P) 19)
def oZ (P:E6):Expr:=pK (BO (bI (aA (e8 P) 0)))
def oW (P:E6):Expr:=pK (sN (bI (aA (e8 P) 2)))
def oX (P:E6):Expr:=fR (bI (aA (e8 P) 1))
def dG (P:E6) (x:List E4):Prop:=x=[]\/∃k v,x=[es P [107] k v]
def dL (n:Nat) (x:List Nat):Bool:=x.getLast?.toList==[n]
def dK (n:Nat) (x:List Nat):Bool:=decide (n∈x)
def bT (p:List Nat->Bool):List (List Nat)->List Int->List Int
 | x::ws,h::b=>if p x=true then h::bT p ws b else bT p ws b
 | _,_=>[]
def gd (w:E7) (Y:Lw) (d e b n t:Nat) (Q:List (Int×Nat)->Prop) (i:Nat) (l:Int) (j k m f:Nat) (lo:List E4) (h:Nat) (g:List (Int×Nat)):af:={d:=20,α:=List (Int×Nat)×Nat×List E4×Nat,c:=dE (oZ w.params) 0 e b (aq w.params Y) d [(⟨⟨[119,97,121,115]⟩⟩,Y.c8),(⟨⟨[110,97,109,101]⟩⟩,Y.c7),(⟨⟨[104,101,97,118,121]⟩⟩,Y.c9)],need:=[(e,bG ((i:Nat):Int) l 1 j k m),(d,oD lo h),(b,ae (g.map iv) f),(Y.c7,aK (.str ⟨⟨[n]⟩⟩ t)),(Y.c8,aj Y.W),(Y.c9,aj Y.V),(Y.W,ae (Y.ws.map bf) Y.wn),(Y.V,ae (Y.hs.map iv) Y.vn)],new:=λx=>[(d,oD x.2.2.1 x.2.2.2),(b,ae (x.1.map iv) x.2.1),(Y.c7,aK (.str ⟨⟨[n]⟩⟩ t)),(Y.c8,aj Y.W),(Y.c9,aj Y.V),(Y.W,ae (Y.ws.map bf) Y.wn),(Y.V,ae (Y.hs.map iv) Y.vn)],post:=λx=>Q x.1/\dG w.params x.2.2.1}
def ga (w:E7) (Y:Lw) (d e b n t:Nat) (Q:List (Int×Nat)->Prop) (i:Nat) (l:Int) (j k m f:Nat) (lo:List E4) (h:Nat) (g:List (Int×Nat)):af:={d:=20,α:=List (Int×Nat)×Nat×List E4×Nat,c:=dE (oW w.params) 0 e b (aq w.params Y) d [(⟨⟨[119,97,121,115]⟩⟩,Y.c8),(⟨⟨[110,97,109,101]⟩⟩,Y.c7),(⟨⟨[104,101,97,118,121]⟩⟩,Y.c9)],need:=[(e,bG ((i:Nat):Int) l 1 j k m),(d,oD lo h),(b,ae (g.map iv) f),(Y.c7,aK (.str ⟨⟨[n]⟩⟩ t)),(Y.c8,aj Y.W),(Y.c9,aj Y.V),(Y.W,ae (Y.ws.map bf) Y.wn),(Y.V,ae (Y.hs.map iv) Y.vn)],new:=λx=>[(d,oD x.2.2.1 x.2.2.2),(b,ae (x.1.map iv) x.2.1),(Y.c7,aK (.str ⟨⟨[n]⟩⟩ t)),(Y.c8,aj Y.W),(Y.c9,aj Y.V),(Y.W,ae (Y.ws.map bf) Y.wn),(Y.V,ae (Y.hs.map iv) Y.vn)],post:=λx=>Q x.1/\dG w.params x.2.2.1}
theorem nl (p:List Nat->Bool) (x:List Nat) (ws:List (List Nat)) (h:Int) (b:List Int):bT p (x::ws) (h::b)=if p x=true then h::bT p ws b else bT p ws b:=rfl
theorem Df (w:E7) (Y:Lw) (s g r n q:Nat) (Q:List (Int×Nat)->Prop) (IC:Y.ws.length=Y.hs.length) (A:∀x∈Y.ws,x.1.length<=900) (V:Y.ws.length<=900):∀(D:List (List Nat×Nat)) (i:Nat) (l:Int) (j p t d e:Nat) (lo:List E4) (f:List (Int×Nat)),Y.ws.drop i=D->i<=Y.ws.length->l=(D.length:Nat)->f.length+D.length<=900->dG w.params lo->(∀o:List (Int×Nat),o.map (λx=>x.1)=f.map (λx=>x.1)++bT (dL n) (D.map (λx=>x.1)) ((Y.hs.drop i).map (λx=>x.1))->Q o)->ab (env w) (gd w Y s g r n q Q i l j p t d lo e f):=by
 let Iu:∀{w:E7} {lo:List E4} {Y:Lw} {s g r n q:Nat} {Q:List (Int×Nat)->Prop} {i:Nat} {l:Int} {j p t d e:Nat} {f:List (Int×Nat)} (x:List Nat×Nat) (h:Int×Nat) (u:0< l) (P:Y.ws[i]? =some x) (B:Y.hs[i]? =some h) (A:x.1.length<=900) (H:f.length<=1000) (V:Y.ws.length<=1000) (Z:Y.hs.length<=1000) (M:i<=1000) (hp:x.1.getLast?.toList=[n]) (C:∀(k:Nat) (v:E9) (d e:Nat),ab (env w) (gd w Y s g r n q Q (i+1) (l-1) 0 0 t d [es w.params [107] k v] e (f++[h]))),PP (env w) (gd w Y s g r n q Q i l j p t d lo e f):= @λw lo Y s g r n q Q i l j p t d e f x h u P B A H V Z M hp C _ F=>
  .seg 68736258049 λW=> .use _ (bY w g (↑i:Int) l 1 j p t ((↑i:Int)+1) (l-1) u rfl rfl) [0] [] λy L=> .seg 0x7001007007007002005002002 λO=> .use _ (bH bf w Y.W Y.wn y (↑i:Int) i Y.ws x rfl P (by omega)) [6] [] λx4 h4=> .seg 16781313 λJ=> .use _ (qV w (x.1) (x.2) (J 2) (J 1) ([n]) hp A) [0] [] λx6 h6=> .seg 4102 λO7=> .use _ (vG w n n x6 q (by trivial)) [] [] λx8 h8=> .seg 0x9001009009009004008 λO9=> .use _ (bH iv w Y.V Y.vn y (↑i:Int) i Y.hs h rfl B (by omega)) [8] [] λE S=> .seg 24577 λIv=> .use _ (jc w r d f h (by omega)) [5] [] λIE Iz=> .seg 0 λIw=> .use _ (C (kT lo (O 0)) (Gf (↑i:Int) y) (d+1) (kE lo e)) [4,4,0,3,3,3,2,0] [] λI X=>have IA:Q I.1:=(Fv X);have IB:dG w.params I.2.2.1:=(Fe X);F (I.1,I.2.1,I.2.2.1,I.2.2.2) X [] [0,0,0,0,0,0,0] []
 let It:∀{w:E7} {lo:List E4} {Y:Lw} {s g r n q:Nat} {Q:List (Int×Nat)->Prop} {i:Nat} {l:Int} {j p t d e:Nat} {f:List (Int×Nat)} (x:List Nat×Nat) (h:Int×Nat) (u:0< l) (P:Y.ws[i]? =some x) (B:Y.hs[i]? =some h) (A:x.1.length<=900) (H:f.length<=1000) (V:Y.ws.length<=1000) (Z:Y.hs.length<=1000) (M:i<=1000) (m:List Nat) (hm:x.1.getLast?.toList=m) (hp:¬m=[n]) (C:∀(k:Nat) (v:E9) (d e:Nat),ab (env w) (gd w Y s g r n q Q (i+1) (l-1) 0 0 t d [es w.params [107] k v] e f)),PP (env w) (gd w Y s g r n q Q i l j p t d lo e f):= @λw lo Y s g r n q Q i l j p t d e f x h u P B A H V Z M m hm hp C _ F=>
  .seg 68736258049 λW=> .use _ (bY w g (↑i:Int) l 1 j p t ((↑i:Int)+1) (l-1) u rfl rfl) [0] [] λy L=> .seg 0x7001007007007002005002002 λO=> .use _ (bH bf w Y.W Y.wn y (↑i:Int) i Y.ws x rfl P (by omega)) [6] [] λx4 h4=> .seg 16781313 λJ=> .use _ (qV w (x.1) (x.2) (J 2) (J 1) m hm A) [0] [] λx6 h6=> .seg 4102 λO7=> .use _ (jN w m ([n]) x6 q hp) [] [] λx8 h8=> .seg 0 λO9=> .use _ (C (kT lo (O 0)) (Gf (↑i:Int) y) d (kE lo e)) [2,2,2,2,2,2,1,1] [] λE S=>have Ix:Q E.1:=(Fv S);have Iy:dG w.params E.2.2.1:=(Fe S);F (E.1,E.2.1,E.2.2.1,E.2.2.2) S [] [0,0,0,0,0,0,0] []
 intro D
 induction D with
 | nil=>
  intro i l j p t d e lo f hd M u H U T
  have hq:Q f:=T f (by simp [bT])
  have N:¬0< l:=by rw [u];simp
  rcases U with rfl | ⟨k,v,rfl⟩
  .exact ct (λ_ F=> .seg 68736258049 λW=> .use _ (cg w g (↑i:Int) l 1 j p t N) [0] [] λy L=> .seg 2 λO=>F (f,d,[],e) ⟨hq, .inl rfl⟩ [] [3,3,3,3,3,3,3] [])
  .exact ct (λ_ F=> .seg 68736258049 λW=> .use _ (cg w g (↑i:Int) l 1 j p t N) [0] [] λy L=> .seg 2 λO=>F (f,d,[es w.params [107] k v],e) ⟨hq, .inr ⟨k,v,rfl⟩⟩ [] [3,3,3,3,3,3,3] [])
 | cons x D C=>
  intro i l j p t d e lo f hd M u H U T
  obtain ⟨R,L⟩:=aQ hd
  rw [Fb] at H u
  have ID:i< Y.ws.length:=(E8.mp R).1
  have io:i< Y.hs.length:=by omega
  have B:Y.hs[i]? =some Y.hs[i]:=Ff io
  have N:0< l:=by omega
  have rw:=A x (Fz R)
  rw [Hv io,Fu,Fu] at T
  have nx:=λ(b:Bool) (G:dL n x.1=b) (k:Nat) (v:E9) (d e:Nat) (ac:List (Int×Nat)) (gt:ac=if b=true then f++[Y.hs[i]] else f)=>C (i+1) (l-1) 0 0 t d e [es w.params [107] k v] ac L (by omega) (by omega) (by rw [gt];split<;>(try rw [FU,List.length_singleton])<;>omega) (.inr ⟨k,v,rfl⟩) λo ho=>T o (by
   rw [ho,gt,nl,G]
   cases b<;>simp [Fd])
  cases G:dL n x.1 with
  | true=>
   have hp:x.1.getLast?.toList=[n]:=by simpa [dL] using G
   rcases U with rfl | ⟨k,v,rfl⟩<;>exact av (Iu x Y.hs[i] N R B rw (by omega) (by omega) (by omega) (by omega) hp λk v d e=>nx true G k v d e _ rfl)
  | false=>
   have hp:¬x.1.getLast?.toList=[n]:=by simpa [dL] using G
   rcases U with rfl | ⟨k,v,rfl⟩<;>exact av (It x Y.hs[i] N R B rw (by omega) (by omega) (by omega) (by omega) _ rfl hp λk v d e=>nx false G k v d e _ rfl)
theorem De (w:E7) (Y:Lw) (d i b n k:Nat) (q:Y.ws.length=Y.hs.length) (m:∀x∈Y.ws,x.1.length<=900) (r:Y.ws.length<=900) (l:Int) (t e f g j:Nat) (p:l=(Y.ws.length:Nat)):ab (env w) {gd w Y d i b n k (λo=>o.map (λx=>x.1)=bT (dL n) (Y.ws.map (λx=>x.1)) (Y.hs.map (λx=>x.1))) 0 l t e f g [] j [] with c:=bB (oZ w.params) 0 i b (aq w.params Y) d [(⟨⟨[119,97,121,115]⟩⟩,Y.c8),(⟨⟨[110,97,109,101]⟩⟩,Y.c7),(⟨⟨[104,101,97,118,121]⟩⟩,Y.c9)]}:=
 dq jQ (o:=bG ((0:Nat):Int) l 1 t e f) rfl (by simp [gd]) (by kernel_rfl) (by kernel_rfl) rfl (Df w Y d i b n k _ q m r Y.ws 0 l t e f g j [] [] rfl (by omega) p (by simp;omega) (.inl rfl) λo h=>by simpa using h)
theorem Db (w:E7) (Y:Lw) (r g q n p:Nat) (Q:List (Int×Nat)->Prop) (Iz:Y.ws.length=Y.hs.length) (I:∀x∈Y.ws,x.1.length<=900) (T:Y.ws.length<=900):∀(B:List (List Nat×Nat)) (i:Nat) (l:Int) (j m t d e:Nat) (lo:List E4) (f:List (Int×Nat)),Y.ws.drop i=B->i<=Y.ws.length->l=(B.length:Nat)->f.length+B.length<=900->dG w.params lo->(∀o:List (Int×Nat),o.map (λx=>x.1)=f.map (λx=>x.1)++bT (dK n) (B.map (λx=>x.1)) ((Y.hs.drop i).map (λx=>x.1))->Q o)->ab (env w) (ga w Y r g q n p Q i l j m t d lo e f):=by
 let rw:∀{w:E7} {lo:List E4} {Y:Lw} {r g q n p:Nat} {Q:List (Int×Nat)->Prop} {i:Nat} {l:Int} {j m t d e:Nat} {f:List (Int×Nat)} (x:List Nat×Nat) (h:Int×Nat) (s:0< l) (M:Y.ws[i]? =some x) (y:Y.hs[i]? =some h) (I:x.1.length<=900) (F:f.length<=1000) (T:Y.ws.length<=1000) (W:Y.hs.length<=1000) (J:i<=1000) (hp:n∈x.1) (A:∀(k:Nat) (v:E9) (d e:Nat),ab (env w) (ga w Y r g q n p Q (i+1) (l-1) 0 0 t d [es w.params [107] k v] e (f++[h]))),PP (env w) (ga w Y r g q n p Q i l j m t d lo e f):= @λw lo Y r g q n p Q i l j m t d e f x h s M y I F T W J hp A _ D=>
  .seg 68736258049 λU=> .use _ (bY w g (↑i:Int) l 1 j m t ((↑i:Int)+1) (l-1) s rfl rfl) [0] [] λu H=> .seg 0x7001007007007002005004002002 λO=> .use _ (bH bf w Y.W Y.wn u (↑i:Int) i Y.ws x rfl M (by omega)) [6] [] λx4 h4=> .seg 1 λO5=> .use _ (xK w (x.1) n (x.2) p hp) [] [] λx6 h6=> .seg 0x8001008008008003007 λO7=> .use _ (bH iv w Y.V Y.vn u (↑i:Int) i Y.hs h rfl y (by omega)) [7] [] λC P=> .seg 20481 λO9=> .use _ (jc w q d f h (by omega)) [4] [] λIB Iu=> .seg 0 λIt=> .use _ (A (kT lo (O 0)) (Gf (↑i:Int) u) (d+1) (kE lo e)) [3,3,0,2,2,2,1,0] [] λG V=>have Iv:Q G.1:=(Fv V);have Iw:dG w.params G.2.2.1:=(Fe V);D (G.1,G.2.1,G.2.2.1,G.2.2.2) V [] [0,0,0,0,0,0,0] []
 let io:∀{w:E7} {lo:List E4} {Y:Lw} {r g q n p:Nat} {Q:List (Int×Nat)->Prop} {i:Nat} {l:Int} {j m t d e:Nat} {f:List (Int×Nat)} (x:List Nat×Nat) (h:Int×Nat) (s:0< l) (M:Y.ws[i]? =some x) (y:Y.hs[i]? =some h) (I:x.1.length<=900) (F:f.length<=1000) (T:Y.ws.length<=1000) (W:Y.hs.length<=1000) (J:i<=1000) (hp:¬n∈x.1) (A:∀(k:Nat) (v:E9) (d e:Nat),ab (env w) (ga w Y r g q n p Q (i+1) (l-1) 0 0 t d [es w.params [107] k v] e f)),PP (env w) (ga w Y r g q n p Q i l j m t d lo e f):= @λw lo Y r g q n p Q i l j m t d e f x h s M y I F T W J hp A _ D=>
  .seg 68736258049 λU=> .use _ (bY w g (↑i:Int) l 1 j m t ((↑i:Int)+1) (l-1) s rfl rfl) [0] [] λu H=> .seg 0x7001007007007002005004002002 λO=> .use _ (bH bf w Y.W Y.wn u (↑i:Int) i Y.ws x rfl M (by omega)) [6] [] λx4 h4=> .seg 1 λO5=> .use _ (xL w (x.1) n (x.2) p hp) [] [] λx6 h6=> .seg 0 λO7=> .use _ (A (kT lo (O 0)) (Gf (↑i:Int) u) d (kE lo e)) [1,1,1,1,1,1,0,0] [] λC P=>have Ix:Q C.1:=(Fv P);have Iy:dG w.params C.2.2.1:=(Fe P);D (C.1,C.2.1,C.2.2.1,C.2.2.2) P [] [0,0,0,0,0,0,0] []
 intro B
 induction B with
 | nil=>
  intro i l j m t d e lo f hd J s F S R
  have hq:Q f:=R f (by simp [bT])
  have L:¬0< l:=by rw [s];simp
  rcases S with rfl | ⟨k,v,rfl⟩
  .exact ct (λ_ D=> .seg 68736258049 λU=> .use _ (cg w g (↑i:Int) l 1 j m t L) [0] [] λu H=> .seg 2 λO=>D (f,d,[],e) ⟨hq, .inl rfl⟩ [] [3,3,3,3,3,3,3] [])
  .exact ct (λ_ D=> .seg 68736258049 λU=> .use _ (cg w g (↑i:Int) l 1 j m t L) [0] [] λu H=> .seg 2 λO=>D (f,d,[es w.params [107] k v],e) ⟨hq, .inr ⟨k,v,rfl⟩⟩ [] [3,3,3,3,3,3,3] [])
 | cons x B A=>
  intro i l j m t d e lo f hd J s F S R
  obtain ⟨N,H⟩:=aQ hd
  rw [Fb] at F s
  have IA:i< Y.ws.length:=(E8.mp N).1
  have ac:i< Y.hs.length:=by omega
  have y:Y.hs[i]? =some Y.hs[i]:=Ff ac
  have L:0< l:=by omega
  have gt:=I x (Fz N)
  rw [Hv ac,Fu,Fu] at R
  have nx:=λ(b:Bool) (E:dK n x.1=b) (k:Nat) (v:E9) (d e:Nat) (X:List (Int×Nat)) (Z:X=if b=true then f++[Y.hs[i]] else f)=>A (i+1) (l-1) 0 0 t d e [es w.params [107] k v] X H (by omega) (by omega) (by rw [Z];split<;>(try rw [FU,List.length_singleton])<;>omega) (.inr ⟨k,v,rfl⟩) λo ho=>R o (by
   rw [ho,Z,nl,E]
   cases b<;>simp [Fd])
  cases E:dK n x.1 with
  | true=>
   have hp:n∈x.1:=by simpa [dK] using E
   rcases S with rfl | ⟨k,v,rfl⟩<;>exact av (rw x Y.hs[i] L N y gt (by omega) (by omega) (by omega) (by omega) hp λk v d e=>nx true E k v d e _ rfl)
  | false=>
   have hp:¬n∈x.1:=by simpa [dK] using E
   rcases S with rfl | ⟨k,v,rfl⟩<;>exact av (io x Y.hs[i] L N y gt (by omega) (by omega) (by omega) (by omega) hp λk v d e=>nx false E k v d e _ rfl)
theorem Da (w:E7) (Y:Lw) (d i b n k:Nat) (q:Y.ws.length=Y.hs.length) (m:∀x∈Y.ws,x.1.length<=900) (r:Y.ws.length<=900) (l:Int) (t e f g j:Nat) (p:l=(Y.ws.length:Nat)):ab (env w) {ga w Y d i b n k (λo=>o.map (λx=>x.1)=bT (dK n) (Y.ws.map (λx=>x.1)) (Y.hs.map (λx=>x.1))) 0 l t e f g [] j [] with c:=bB (oW w.params) 0 i b (aq w.params Y) d [(⟨⟨[119,97,121,115]⟩⟩,Y.c8),(⟨⟨[110,97,109,101]⟩⟩,Y.c7),(⟨⟨[104,101,97,118,121]⟩⟩,Y.c9)]}:=
 dq jQ (o:=bG ((0:Nat):Int) l 1 t e f) rfl (by simp [ga]) (by kernel_rfl) (by kernel_rfl) rfl (Db w Y d i b n k _ q m r Y.ws 0 l t e f g j [] [] rfl (by omega) p (by simp;omega) (.inl rfl) λo h=>by simpa using h)
theorem tQ (P:E6):∀{L:List Lv} {i:Nat} {l:Lv},L[i]? =some l->∃R,(bq P L).Perm ([(l.a,cO P l.dd l.m l.ep)]++R)
 | [],_,_,h=>by simp at h
 | x::L,0,l,h=>by
  simp at h;subst h
  exact ⟨(x.dd,oD [] x.de)::bq P L, .refl _⟩
 | x::L,i+1,l,h=>by
  obtain ⟨R,b⟩:=tQ P (L:=L) (i:=i) (l:=l) (by simpa using h)
  refine ⟨x.cells P++R, ?_⟩
  show (x.cells P++bq P L).Perm _
  refine (List.Perm.append_left _ b).trans ?_
  exact (List.perm_append_comm_assoc (x.cells P) [(l.a,cO P l.dd l.m l.ep)] R)
def gb (w:E7) (Y:Lw) (d e b n t:Nat) (Q:List (Int×Nat)->Prop) (i:Nat) (l:Int) (j k m f:Nat) (lo:List E4) (h:Nat) (g:List (Int×Nat)):af:={d:=45,α:=List (Int×Nat)×Nat×List E4×Nat,c:=dE (oX w.params) 0 e b (aq w.params Y) d [(⟨⟨[110,97,109,101]⟩⟩,Y.c7),(⟨⟨[102,114,111,110,116]⟩⟩,Y.c10),(⟨⟨[101,97,114,108,121]⟩⟩,Y.c3)],need:=[(e,bG ((i:Nat):Int) l 1 j k m),(d,oD lo h),(b,ae (g.map iv) f),(Y.c7,aK (.str ⟨⟨[n]⟩⟩ t)),(Y.c10,aj Y.FA),(Y.c3,aj Y.E),(Y.FA,ae ((aD Y.LV).map .ref) Y.fan),(Y.E,dO w.params (.type "dict") none iv Y.me Y.ee)],new:=λx=>[(d,oD x.2.2.1 x.2.2.2),(b,ae (x.1.map iv) x.2.1),(Y.c7,aK (.str ⟨⟨[n]⟩⟩ t)),(Y.c10,aj Y.FA),(Y.c3,aj Y.E),(Y.FA,ae ((aD Y.LV).map .ref) Y.fan),(Y.E,dO w.params (.type "dict") none iv Y.me Y.ee)],post:=λx=>Q x.1/\dG w.params x.2.2.1,needB:=[bq w.params Y.LV],putB:=λ_=>[bq w.params Y.LV]}
def et (n:Nat) (e:Int):Nat->List Lv->List Int
 | i,l::L=>if aa l.m n=e then ((i:Nat):Int)::et n e (i+1) L else et n e (i+1) L
 | _,[]=>[]
theorem Dd (w:E7) (Y:Lw) (s j r n q:Nat) (Q:List (Int×Nat)->Prop) (v:Int×Nat) (B:look? Y.me n=some v) (S:Y.LV.length<=900):∀(F:List Lv) (i:Nat) (b:Int) (m p t d f:Nat) (lo:List E4) (e:List (Int×Nat)),Y.LV.drop i=F->b=(F.length:Nat)->e.length+F.length<=900->dG w.params lo->(∀o:List (Int×Nat),o.map (λx=>x.1)=e.map (λx=>x.1)++et n v.1 i F->Q o)->ab (env w) (gb w Y s j r n q Q i b m p t d lo f e):=by
 let It:∀{w:E7} {lo:List E4} {Y:Lw} {s j r n q:Nat} {Q:List (Int×Nat)->Prop} {i:Nat} {b:Int} {m p t d f:Nat} {e:List (Int×Nat)} (l:Lv) (R:ao) (v:Int×Nat) (y:0< b) (C:(aD Y.LV)[i]? =some l.a) (h:(bq w.params Y.LV).Perm ([(l.a,cO w.params l.dd l.m l.ep)]++R)) (B:look? Y.me n=some v) (J:e.length<=1000) (S:(aD Y.LV).length<=1000) (W:i<=1000) (hp:aa l.m n=v.1) (D:∀(k:Nat) (g:E9) (d f u:Nat),ab (env w) (gb w Y s j r n q Q (i+1) (b-1) 0 0 t d [es w.params [107] k g] f (e++[(((i:Nat):Int),u)]))),PP (env w) (gb w Y s j r n q Q i b m p t d lo f e):= @λw lo Y s j r n q Q i b m p t d f e l R v y C h B J S W hp D _ H=>
  .view [] [0] _ _ _ _ (bw h) (.seg 137455738881 λT=> .use _ (bY w j (↑i:Int) b 1 m p t ((↑i:Int)+1) (b-1) y rfl rfl) [1] [] λA I=> .seg 0x8001008008008003006003003 λO=> .use _ (bH Fq w Y.FA Y.fan A (↑i:Int) i (aD Y.LV) (l.a) rfl C (by omega)) [7] [] λx4 h4=> .seg 0x3001000000000003000003000000000003006 λO5=> .use _ (dF w (l.a) (l.dd) (l.m) (l.ep) n q) [2] [] λZ h6=> .seg 0x9001009009009006008001 λO7=> .use _ (cu w Y.E (Fx "dict") none Y.ee n q Y.me v B) [8] [] λx8 h8=> .seg 1 λO9=> .use _ (g7 w (aa l.m n) (v.1) Z (v.2) hp) [] [] λIu io=> .seg 100667397 λgt=> .use _ (jc w r d e (((↑i:Int),A)) (by omega)) [5] [] λG N=> .seg 0 λIv=> .view [2] [0] _ _ _ _ (aX h.symm) (.use _ (D (kT lo (O 0)) (Gf (↑i:Int) A) (d+1) (kE lo f) A) [3,3,0,2,2,2,1,0] [0] λL V=>have Iy:Q L.1:=(Fv V);have Iz:dG w.params L.2.2.1:=(Fe V);H (L.1,L.2.1,L.2.2.1,L.2.2.2) V [] [0,0,0,0,0,0,0] [0]))
 let rw:∀{w:E7} {lo:List E4} {Y:Lw} {s j r n q:Nat} {Q:List (Int×Nat)->Prop} {i:Nat} {b:Int} {m p t d f:Nat} {e:List (Int×Nat)} (l:Lv) (R:ao) (v:Int×Nat) (y:0< b) (C:(aD Y.LV)[i]? =some l.a) (h:(bq w.params Y.LV).Perm ([(l.a,cO w.params l.dd l.m l.ep)]++R)) (B:look? Y.me n=some v) (J:e.length<=1000) (S:(aD Y.LV).length<=1000) (W:i<=1000) (hp:¬aa l.m n=v.1) (D:∀(k:Nat) (g:E9) (d f:Nat),ab (env w) (gb w Y s j r n q Q (i+1) (b-1) 0 0 t d [es w.params [107] k g] f e)),PP (env w) (gb w Y s j r n q Q i b m p t d lo f e):= @λw lo Y s j r n q Q i b m p t d f e l R v y C h B J S W hp D _ H=>
  .view [] [0] _ _ _ _ (bw h) (.seg 137455738881 λT=> .use _ (bY w j (↑i:Int) b 1 m p t ((↑i:Int)+1) (b-1) y rfl rfl) [1] [] λA I=> .seg 0x8001008008008003006003003 λO=> .use _ (bH Fq w Y.FA Y.fan A (↑i:Int) i (aD Y.LV) (l.a) rfl C (by omega)) [7] [] λx4 h4=> .seg 0x3001000000000003000003000000000003006 λO5=> .use _ (dF w (l.a) (l.dd) (l.m) (l.ep) n q) [2] [] λZ h6=> .seg 0x9001009009009006008001 λO7=> .use _ (cu w Y.E (Fx "dict") none Y.ee n q Y.me v B) [8] [] λx8 h8=> .seg 1 λO9=> .use _ (g8 w (aa l.m n) (v.1) Z (v.2) hp) [] [] λIu io=> .seg 0 λgt=> .view [1] [0] _ _ _ _ (aX h.symm) (.use _ (D (kT lo (O 0)) (Gf (↑i:Int) A) d (kE lo f)) [2,2,2,2,2,2,1,0] [0] λG N=>have Iw:Q G.1:=(Fv N);have Ix:dG w.params G.2.2.1:=(Fe N);H (G.1,G.2.1,G.2.2.1,G.2.2.2) N [] [0,0,0,0,0,0,0] [0]))
 intro F
 induction F with
 | nil=>
  intro i b m p t d f lo e hd y J P E
  have hq:Q e:=E e (by simp [et])
  have M:¬0< b:=by rw [y];simp
  rcases P with rfl | ⟨k,g,rfl⟩
  .exact ct (λ_ H=> .seg 68736258049 λT=> .use _ (cg w j (↑i:Int) b 1 m p t M) [0] [] λA I=> .seg 2 λO=>H (e,d,[],f) ⟨hq, .inl rfl⟩ [] [3,3,3,3,3,3,3] [0])
  .exact ct (λ_ H=> .seg 68736258049 λT=> .use _ (cg w j (↑i:Int) b 1 m p t M) [0] [] λA I=> .seg 2 λO=>H (e,d,[es w.params [107] k g],f) ⟨hq, .inr ⟨k,g,rfl⟩⟩ [] [3,3,3,3,3,3,3] [0])
 | cons l F D=>
  intro i b m p t d f lo e hd y J P E
  obtain ⟨U,I⟩:=aQ hd
  rw [Fb] at J y
  have IA:i< Y.LV.length:=(E8.mp U).1
  have M:0< b:=by omega
  obtain ⟨R,h⟩:=tQ w.params U
  have C:(aD Y.LV)[i]? =some l.a:=by unfold aD;rw [Fi,U];rfl
  have ac:(aD Y.LV).length<=1000:=by unfold aD;rw [Fo];omega
  unfold et at E
  by_cases hp:aa l.m n=v.1
  .rw [if_pos hp] at E
   have X:=λ(k:Nat) (g:E9) (d f u:Nat)=>D (i+1) (b-1) 0 0 t d f [es w.params [107] k g] (e++[(((i:Nat):Int),u)]) I (by omega) (by rw [FU,List.length_singleton];omega) (.inr ⟨k,g,rfl⟩) λo h=>E o (by rw [h,Fd,Fm];rfl)
   rcases P with rfl | ⟨k,g,rfl⟩<;>exact av (It l R v M C h B (by omega) ac (by omega) hp X)
  .rw [if_neg hp] at E
   have X:=λ(k:Nat) (g:E9) (d f:Nat)=>D (i+1) (b-1) 0 0 t d f [es w.params [107] k g] e I (by omega) (by omega) (.inr ⟨k,g,rfl⟩) λo h=>E o h
   rcases P with rfl | ⟨k,g,rfl⟩<;>exact av (rw l R v M C h B (by omega) ac (by omega) hp X)
theorem Dc (w:E7) (Y:Lw) (d i b n k:Nat) (v:Int×Nat) (p:look? Y.me n=some v) (q:Y.LV.length<=900) (l:Int) (t e f g j:Nat) (m:l=(Y.LV.length:Nat)):ab (env w) {gb w Y d i b n k (λo=>o.map (λx=>x.1)=et n v.1 0 Y.LV) 0 l t e f g [] j [] with c:=bB (oX w.params) 0 i b (aq w.params Y) d [(⟨⟨[110,97,109,101]⟩⟩,Y.c7),(⟨⟨[102,114,111,110,116]⟩⟩,Y.c10),(⟨⟨[101,97,114,108,121]⟩⟩,Y.c3)]}:=
 dq jQ (o:=bG ((0:Nat):Int) l 1 t e f) rfl (by simp [gb]) (by kernel_rfl) (by kernel_rfl) rfl (Dd w Y d i b n k _ v p q Y.LV 0 l t e f g j [] [] rfl m (by simp;omega) (.inl rfl) λo h=>by simpa using h)
def KF (P:E6) (x:List E4):Prop:=x=[]\/∃k v,x=[es P [107] k v]
def AF (P:E6) (x:List E4):Prop:=x=[]\/∃k v,x=[es P [97,104,101,97,100] k v]
def bz (P:E6) (Y:Lw) (l:Int) (k m:List E4) (f:Nat):Obj:=bv (fa P Y.k1 Y.k2 Y.k3 Y.v1 Y.v2 Y.v3++(k++(fj P Y++([es P [108,111,110,103,101,115,116] Y.k7 (.int l Y.tl),es P [98,97,99,107] Y.k8 (.ref Y.bk)]++m)))) f Y.sl
def sF (w:E7) (Y:Lw) (n t:Nat) (l:Int) (k b:List E4) (f:Nat) (a:Int):af:={d:=60,α:=Nat×Nat×Nat,c:= .block [aA (e8 w.params) 0] (aq w.params Y),need:=[(Y.fr,bz w.params Y l k b f),(Y.c2,aj Y.H),(Y.c7,aK (.str ⟨⟨[n]⟩⟩ t)),(Y.c8,aj Y.W),(Y.c9,aj Y.V),(Y.H,dO w.params (.type "dict") none iv Y.mh Y.er),(Y.W,ae (Y.ws.map bf) Y.wn),(Y.V,ae (Y.hs.map iv) Y.vn)],new:=λx=>[(Y.fr,bz w.params Y l k [es w.params [97,104,101,97,100] x.1 (.int a x.2.1)] x.2.2),(Y.c2,aj Y.H),(Y.c7,aK (.str ⟨⟨[n]⟩⟩ t)),(Y.c8,aj Y.W),(Y.c9,aj Y.V),(Y.H,dO w.params (.type "dict") none iv Y.mh Y.er),(Y.W,ae (Y.ws.map bf) Y.wn),(Y.V,ae (Y.hs.map iv) Y.vn)]}
def iS (a:Int):Nat->List Int
 | 0=>[]
 | n+1=>a::iS (a+1) n
def nL (i S:Nat) (v l:Int) (n:Nat) (b:Nat):af:={d:=20,α:=List (Int×Nat)×Nat,c:= .builtin "list.extend.loop" ⟨[.ref S, .ref i, .none],[]⟩,need:=[(i,bG v l 1 0 0 0),(S,ae [] b)],r:=λ_=> .ok (.ret .none),new:=λx=>[(S,ae (x.1.map iv) x.2)],post:=λx=>x.1.map (λx=>x.1)=iS v n}
theorem DC (w:E7) (i S:Nat) (v l:Int) (n:Nat) (d:Nat) (s:l=(n:Nat)) (p:n=0\/n=1\/n=2\/n=3):ab (env w) (nL i S v l n d):=by
 rcases p with rfl | rfl | rfl | rfl
 .exact ct (λ_ b=> .seg 68736258049 λO=> .use _ (cg w i v l 1 0 0 0 (by omega)) [0] [] λx h=> .seg 2 λf=>b ([],d) rfl [] [3] [])
 .exact ct (λ_ b=> .seg 68736258049 λO=> .use _ (bY w i v l 1 0 0 0 (v+1) (l-1) (by omega) rfl rfl) [0] [] λx h=> .seg 0x1001001001002002002 λf=> .use _ (cg w i (v+1) (l-1) 1 0 0 0 (by omega)) [0] [] λe j=> .seg 2 λg=>b (([(v,x)],d+1)) rfl [] [3] [])
 .exact ct (λ_ b=> .seg 68736258049 λO=> .use _ (bY w i v l 1 0 0 0 (v+1) (l-1) (by omega) rfl rfl) [0] [] λx h=> .seg 0x1001001001002002002 λf=> .use _ (bY w i (v+1) (l-1) 1 0 0 0 ((v+1)+1) ((l-1)-1) (by omega) rfl rfl) [0] [] λe j=> .seg 0x1001001001002002002 λg=> .use _ (cg w i ((v+1)+1) ((l-1)-1) 1 0 0 0 (by omega)) [0] [] λk o=> .seg 2 λm=>b (([(v,x),((v+1),e)],d+1+1)) rfl [] [3] [])
 .exact ct (λ_ b=> .seg 68736258049 λO=> .use _ (bY w i v l 1 0 0 0 (v+1) (l-1) (by omega) rfl rfl) [0] [] λx h=> .seg 0x1001001001002002002 λf=> .use _ (bY w i (v+1) (l-1) 1 0 0 0 ((v+1)+1) ((l-1)-1) (by omega) rfl rfl) [0] [] λe j=> .seg 0x1001001001002002002 λg=> .use _ (bY w i ((v+1)+1) ((l-1)-1) 1 0 0 0 (((v+1)+1)+1) (((l-1)-1)-1) (by omega) rfl rfl) [0] [] λk o=> .seg 0x1001001001002002002 λm=> .use _ (cg w i (((v+1)+1)+1) (((l-1)-1)-1) 1 0 0 0 (by omega)) [0] [] λt r=> .seg 2 λq=>b (([(v,x),((v+1),e),(((v+1)+1),k)],d+1+1+1)) rfl [] [3] [])
def fh (a b:Int) (t u k:Nat):Obj:={cls:= .type "range",data:= .fields #[.int a t, .int b u, .int 1 k]}
def lE (S R d:Nat) (a b:Int) (t u k n:Nat):af:={d:=20,α:=List (Int×Nat)×Nat,c:= .builtin "list.__init__" ⟨[.ref S, .ref R],[]⟩,need:=[(S,ae [] d),(R,fh a b t u k)],r:=λ_=> .ok (.ret .none),new:=λx=>[(S,ae (x.1.map iv) x.2)],post:=λx=>x.1.map (λx=>x.1)=iS a n}
theorem BN (w:E7) (S R d:Nat) (a b:Int) (t u k n:Nat) (ha:0<=a/\a<=1000) (hb:a+((n:Nat):Int)=b) (hn:n=0\/n=1\/n=2\/n=3):ab (env w) (lE S R d a b t u k n):=by
 intro g Y q hE v p s y P Q
 have q:g.handled=none:=q.resolve_left (λz=>nomatch z)
 have io:bt (env w) 20 g:=⟨q,v⟩
 have B:Go (env w).kt s (lE S R d a b t u k n).own s [(S,ae [] d),(R,fh a b t u k)]:=Go.start P
 have o:s.heap.get? S=some (ae [] d):=P.has (S,_) EZ
 have T:s.heap.get? R=some (fh a b t u k):=P.has (R,_) (E2 _ EZ)
 have X:S≠R:=λe=>by rw [e,T] at o;simp [fh,ae] at o
 rw [F1]
 show wp _ _ (FK table g.code) _ _ p s
 rw [show g.code= .builtin "list.__init__" ⟨[.ref S, .ref R],[]⟩ from Y,aE _ _ F.entry_list_init]
 show wp _ _ (Fw (.ref S)>>=_) _ _ p s
 unfold Fw
 rw [E5]
 refine aL (E1 (FL o rfl (E3 λp=> ?_)))
 show wp _ _ (updateSeq S (λ_=> #[])>>=λ_=>letGo (#[]:Array E9).toList.reverse>>=λ_=>Hh (.ref S) (.ref R) .none) _ _ p s
 rw [E5]
 refine aL (GT o rfl (λp=> ?_) (by simp [Gu]) (by simp [Gu]))
 have C:FH (λ_=>(#[]:Array E9)) (ae [] d)=ae [] d:=e9 (vs':=[]) rfl
 have h:Go (env w).kt s (lE S R d a b t u k n).own {s with heap:=s.heap.update S (FH λ_=> #[])} [(S,ae [] d),(R,fh a b t u k)]:=by
  have A:=(ap.start B.pre).set (FH λ_=>(#[]:Array E9)) (by exact EZ) (by rw [C];rfl)
  rw [C] at A
  exact Go.step B A
 generalize Iu:({s with heap:=s.heap.update S (FH λ_=> #[])}:Fc)=f at h⊢
 rw [E5]
 refine aL (H7 λp=> ?_)
 have rw:f.heap.get? S=some (ae [] d):=h.inv.has (S,_) EZ
 have H:f.heap.get? R=some (fh a b t u k):=h.inv.has (R,_) (E2 _ EZ)
 unfold Hh
 rw [E5]
 refine aL (wpAny_typeOf (T:="range") ⟨_,H,rfl⟩ λp=> ?_)
 have M:Builtin.List.listSameRef (.ref S) (.ref R)=false:=by simp [Builtin.List.listSameRef,X]
 have N:(Fx "range"==Fx "list")=false:=by decide
 have O:(Fx "range"==Fx "tuple")=false:=by decide
 simp only [M,N,O,Bool.or_false,Gc,if_false]
 have I:Builtin.Range.rangeSize a b 1=((n:Nat):Int):=by rw [rangeSize_one];split<;>omega
 rw [E5]
 refine aL (wpAny_pyIter_range H (small_one (by omega) (by omega) (by omega) (by omega)) λp=> ?_)
 rw [I]
 have i:=Go.step h ((ap.start h.pre).push (bG a ((n:Nat):Int) 1 0 0 0) rfl)
 show wp _ _ _ _ _ p ({f with heap:=f.heap.push (bG a ((n:Nat):Int) 1 0 0 0)}:Fc)
 generalize Iv:({f with heap:=f.heap.push (bG a ((n:Nat):Int) 1 0 0 0)}:Fc)=l at i⊢
 have U:l.heap.get? R=some (fh a b t u k):=i.inv.has (R,_) (E2 _ (E2 _ EZ))
 have It:l.heap.get? S=some (ae [] d):=i.inv.has (S,_) (E2 _ EZ)
 rw [E5,HO]
 refine aL (wpAny_hint_range U I (by omega) λp=> ?_)
 have j:=Go.step i ((ap.start i.pre).toks (l.toks+1+1))
 generalize Iw:({l with toks:=l.toks+1+1}:Fc)=r at j⊢
 have V:r.heap.get? S=some (ae [] d):=j.inv.has (S,_) (E2 _ EZ)
 have J:∀(d:Nat) (s4:Fc) (p:Pos),Go (env w).kt s (lE S R d a b t u k n).own s4 [(f.heap.objs.size,bG a ((n:Nat):Int) 1 0 0 0),(S,ae [] d),(R,fh a b t u k)]->finPost (FQ pq w) g y (.again (.builtin "list.extend.loop" ⟨[.ref S, .ref f.heap.objs.size, .none],[]⟩)) p s4:=by
  intro d s4 p G
  have ac:=DC w f.heap.objs.size S a ((n:Nat):Int) n d rfl hn (g.goto (.builtin "list.extend.loop" ⟨[.ref S, .ref f.heap.objs.size, .none],[]⟩)) rfl (.inr q) (λes Z=>nomatch Z) ⟨v.cnt,v.units⟩ p s4 y (Go.sub (U:=(nL f.heap.objs.size S a ((n:Nat):Int) n d).all) (r:=[(R,fh a b t u k)]) (Go.eq G rfl)).pre (λgt s5 hy m=>Q gt s5 hy ((Go.stepR (U:=(nL f.heap.objs.size S a ((n:Nat):Int) n d).all) (r:=[(R,fh a b t u k)]) (Go.eq G rfl) m).sub).after)
  exact ⟨plainId_quiet F.plain_extend_loop _,ac⟩
 split
 .rw [E5]
  refine aL (GX λp=> ?_)
  show wp _ _ ((updateSeq S (·.push .none)>>=λ_=>updateSeq S (·.pop))>>=_) _ _ p r
  rw [E5,E5]
  refine aL (GT V rfl (λp=> ?_) (by simp [Gu]) (by simp [Gu]))
  have D:FH (·.push FW) (ae [] d)=ae [.none] (d+1):=e9 (vs':=[.none]) rfl
  have x:=(ap.start (j.perm (.swap ..)).pre).set (FH (·.push FW)) (by exact EZ) (by rw [D];rfl)
  rw [D] at x
  have G:=Go.step (j.perm (.swap ..)) x
  generalize Ix:({r with heap:=r.heap.update S (FH (·.push FW))}:Fc)=s4 at G⊢
  have W:s4.heap.get? S=some (ae [.none] (d+1)):=G.inv.has (S,_) EZ
  refine aL (GT W rfl (λp=> ?_) (by simp [Gu]) (by simp [Gu]))
  have E:FH (·.pop) (ae [.none] (d+1))=ae [] (d+1+1):=e9 (vs':=[]) rfl
  have m:=(ap.start G.pre).set (FH (·.pop)) (by exact EZ) (by rw [E];rfl)
  rw [E] at m
  have L:=Go.step G m
  exact J (d+1+1) _ p (L.perm (.swap ..))
 .exact J _ _ p j
def rF (w:E7) (Y:Lw) (n d k t:Nat) (a:Int) (l:Int) (b:List E4) (f:Nat) (e:Int):af:={d:=60,α:=Nat×List (Int×Nat)×Nat,need:=[(Y.fr,bz w.params Y l b [es w.params [97,104,101,97,100] k (.int a t)] f),(Y.c3,aj Y.E),(Y.c7,aK (.str ⟨⟨[n]⟩⟩ d)),(Y.c10,aj Y.FA),(Y.E,dO w.params (.type "dict") none iv Y.me Y.ee),(Y.FA,ae ((aD Y.LV).map .ref) Y.fan)],r:=λx=> .ok (.ret (.ref x.1)),new:=λx=>[(Y.fr,bz w.params Y l b [es w.params [97,104,101,97,100] k (.int a t)] f),(Y.c3,aj Y.E),(Y.c7,aK (.str ⟨⟨[n]⟩⟩ d)),(Y.c10,aj Y.FA),(Y.E,dO w.params (.type "dict") none iv Y.me Y.ee),(Y.FA,ae ((aD Y.LV).map .ref) Y.fan),(x.1,ae (x.2.1.map iv) x.2.2)],post:=λx=>x.2.1.map (λx=>x.1)=et n e 0 Y.LV,needB:=[bq w.params Y.LV],putB:=λ_=>[bq w.params Y.LV]}
def rD (w:E7) (Y:Lw) (d e k t:Nat) (a:Int) (l:Int) (b:List E4) (f:Nat) (n:Nat):af:={d:=60,α:=Nat×List (Int×Nat)×Nat,need:=[(Y.fr,bz w.params Y l b [es w.params [97,104,101,97,100] k (.int a t)] f),(Y.c2,aj Y.H),(Y.c7,aK (.str ⟨⟨[d]⟩⟩ e)),(Y.H,dO w.params (.type "dict") none iv Y.mh Y.er)],r:=λx=> .ok (.ret (.ref x.1)),new:=λx=>[(Y.fr,bz w.params Y l b [es w.params [97,104,101,97,100] k (.int a t)] f),(Y.c2,aj Y.H),(Y.c7,aK (.str ⟨⟨[d]⟩⟩ e)),(Y.H,dO w.params (.type "dict") none iv Y.mh Y.er),(x.1,ae (x.2.1.map iv) x.2.2)],post:=λx=>x.2.1.map (λx=>x.1)=iS a n}
def rH (w:E7) (Y:Lw) (n d k t:Nat) (a:Int) (l:Int) (b:List E4) (f:Nat) (m:MI) (s:Nat) (z:Int):af:={d:=60,α:=Nat×Nat×Nat,c:= .block [aA (e8 w.params) 2] (aq w.params Y),need:=[(Y.fr,bz w.params Y l b [es w.params [97,104,101,97,100] k (.int a t)] f),(Y.c7,aK (.str ⟨⟨[n]⟩⟩ d)),(Y.c8,aj Y.W),(Y.c9,aj Y.V),(Y.c11,aj Y.SD),(Y.W,ae (Y.ws.map bf) Y.wn),(Y.V,ae (Y.hs.map iv) Y.vn),(Y.SD,dO w.params (.type "dict") none iv m s)],new:=λx=>[(Y.fr,bz w.params Y l b [es w.params [97,104,101,97,100] k (.int a t)] f),(Y.c7,aK (.str ⟨⟨[n]⟩⟩ d)),(Y.c8,aj Y.W),(Y.c9,aj Y.V),(Y.c11,aj Y.SD),(Y.W,ae (Y.ws.map bf) Y.wn),(Y.V,ae (Y.hs.map iv) Y.vn),(Y.SD,dO w.params (.type "dict") none iv (aw m n x.1 (z,x.2.1)) x.2.2)]}
def jI {A:Type} (b:List Nat) (l:List A):Option (List A×List A):=match b with
 | []=>some ([],l)
 | i::b=>match fn l i with
  | some y=>match jI b (gw l i) with
   | some (q,r)=>some (y::q,r)
   | none=>none
  | none=>none
theorem eG {A:Type}:∀{e:List Nat} {l f r:List A},jI e l=some (f,r)->take e f l (· =r)
 | [],l,f,r,h=>by
  unfold jI at h
  injection h with h;injection h with b d
  subst b;exact d
 | i::e,l,f,r,h=>by
  unfold jI at h
  cases b:fn l i with
  | none=>rw [b] at h;cases h
  | some y=>
   rw [b] at h
   dsimp only at h
   cases d:jI e (gw l i) with
   | none=>rw [d] at h;cases h
   | some z=>
    obtain ⟨q,k⟩:=z
    rw [d] at h
    injection h with h;injection h with g j
    subst g;subst j
    show (match fn l i with | some x=>x=y/\take e q (gw l i) (· =k) | none=>False)
    rw [b]
    exact ⟨rfl,eG d⟩
def yq (d:Nat) (b:List Nat) (t i c:Nat):af:={d:=5,α:=Nat,need:=[(d,cq b t i)],r:=λu=> .ok (.ret (.str ⟨⟨[c]⟩⟩ u)),put:=λu=>[cq b t (i+1)]}
theorem Bf {w:E7} {d t i c:Nat} {b:List Nat} (h:b[i]? =some c):ax (env w) (yq d b t i c) (tF (tN d)):=tk _ (λ_ e=> .seg 16781313 λO=> .use _ (eH w d t i b c h) [0] [] λx g=> .seg 0 λf=>e (x) trivial [0] [] [])
theorem q8 {w:E7} {T:af} (h:ab (env w) T) {d:Ctx} {e:Code} (k:T.c=e) (l:d.handled=none) (m:T.outer=none) (g:dQ T.d d) {i s:Fc} {own:List Addr} {A r:List ao} {p:Pos} (q:List Nat) (G:Go (env w).kt i own s A.flatten) (n:take q (bg T.need++T.needB) A (· =r)) {F:HF->Fc->Prop}
 (j:∀x b,T.post x->Go (env w).kt i own b (bp T x r).flatten->F (T.r x) b):wpCode (FQ pq w) (d.goto e) F p s:=by
 have f:=G.perm (gS n)
 exact h (d.goto e) k.symm (.inr l) (λes z=>by rw [m] at z;cases z) ⟨g.cnt,g.units⟩ p s F f.sub.pre λx b o A=>j x b o (Go.eq (f.stepR A) (eK x r))
theorem EL (w:E7) (Y:Lw) (n t:Nat) (s:Int) (k J:List E4) (ac:KF w.params k) (X:AF w.params J) (f:Nat) (a:Int) (v:Int×Nat) (g:look? Y.mh n=some v) (M:Int) (e:∀o:List (Int×Nat),o.map (λx=>x.1)=bT (dL n) (Y.ws.map (λx=>x.1)) (Y.hs.map (λx=>x.1))->o≠[]/\cU o=M) (h:M-v.1=a) (gt:Y.ws.length=Y.hs.length) (B:∀x∈Y.ws,x.1.length<=900) (q:Y.ws.length<=900):ax (env w) (sF w Y n t s k J f a) (Dn (.block [aA (e8 w.params) 0] (aq w.params Y))):=by
 let rw:∀{w:E7} {lo:List E4} {k:List E4} {Y:Lw} {n t:Nat} {s:Int} {f:Nat} {a:Int} (v:Int×Nat) (g:look? Y.mh n=some v) (M:Int) (e:∀o:List (Int×Nat),o.map (λx=>x.1)=bT (dL n) (Y.ws.map (λx=>x.1)) (Y.hs.map (λx=>x.1))->o≠[]/\cU o=M) (h:M-v.1=a) (q:Y.ws.length<=900) (p:∀(m r j:Nat) (i:Int) (E F G A C:Nat),i=(Y.ws.length:Nat)->ab (env w) {gd w Y m r j n t (λo=>o.map (λx=>x.1)=bT (dL n) (Y.ws.map (λx=>x.1)) (Y.hs.map (λx=>x.1))) 0 i E F G A [] C [] with c:=bB (oZ w.params) 0 r j (aq w.params Y) m [(⟨⟨[119,97,121,115]⟩⟩,Y.c8),(⟨⟨[110,97,109,101]⟩⟩,Y.c7),(⟨⟨[104,101,97,118,121]⟩⟩,Y.c9)]}),PP (env w) (sF w Y n t s k lo f a):= @λw lo k Y n t s f a v g M e h q p _ R=>
  .seg 0x1004000000000000000000 λO1=> .use _ (dv bf w Y.W Y.wn Y.ws (Fl Y.ws) rfl (by omega)) [6] [] λx2 h2=> .seg 0x1001001001001001001001001001001001001001 λy=> .use _ (gQ w (y 2) 0 ((↑(Fl Y.ws):Int)) (y 0) x2 (y 1) (if 0< (↑(Fl Y.ws):Int) then (↑(Fl Y.ws):Int)-0 else 0) (by trivial) (by omega) rfl) [0] [] λx4 h4=> .seg 2 λO=> .use _ (p (O 1) x4 (O 0) (if 0< (↑(Fl Y.ws):Int) then (↑(Fl Y.ws):Int)-0 else 0) 0 0 0 0 0 (by omega)) [3,0,0,4,4,4,1,4] [] λb P=>have Q:(λ(o:List (Int×Nat))=>Gv (λ(x:Int×Nat)=>x.1) o=bT (dL n) (Gv (λ(x:List Nat×Nat)=>x.1) Y.ws) (Gv (λ(x:Int×Nat)=>x.1) Y.hs)) b.1:=(Fv P);have W:dG w.params b.2.2.1:=(Fe P);have L:b.1≠[]:=(e _ Q).1;have N:cU b.1=M:=(e _ Q).2; .or _ _ (W) (λD=> .view [0] [] _ _ _ _ ((bC (a:=O 1) (congrArg (λl=>oD l b.2.2.2) D))) (.seg 0x1001002001002002001001001 λd=> .use _ (i7 w (d 0) (O 0) (b.2.1) (d 1) 0 (b.1) M L N) [1,2,0] [] λI B=> .seg 0xb00100b00b00b00300a λS=> .use _ (cu w Y.H (Fx "dict") none Y.er n t Y.mh v g) [10] [] λIt U=> .seg 1 λT=> .use _ (bx w M (v.1) I (v.2) a h) [] [] λH V=> .seg 40970 λu=>R ((kT lo (u 0)),H,(kE lo f)) trivial [] [9,9,3,3,3,0,2,2] [])) (λD=> .pick _ _ (D) λki Z=> .pick _ _ (Z) λvi io=> .view [0] [] _ _ _ _ ((bC (a:=O 1) (congrArg (λl=>oD l b.2.2.2) io))) (.seg 0x1001002001002002001001001001001 λd=> .use _ (i7 w (d 0) (O 0) (b.2.1) (d 1) 0 (b.1) M L N) [1,2,0] [] λI B=> .seg 0xb00100b00b00b00300a λS=> .use _ (cu w Y.H (Fx "dict") none Y.er n t Y.mh v g) [10] [] λIt U=> .seg 1 λT=> .use _ (bx w M (v.1) I (v.2) a h) [] [] λH V=> .seg 40970 λu=>R ((kT lo (u 0)),H,(kE lo f)) trivial [] [9,9,3,3,3,0,2,2] []))
 have p:=λ(m r j:Nat) (i:Int) (E F G A C:Nat) (hl:i=(Y.ws.length:Nat))=>De w Y m r j n t gt B q i E F G A C hl
 rcases ac with rfl | ⟨k4,v4,rfl⟩<;>rcases X with rfl | ⟨k9,v9,rfl⟩<;>exact aG _ (rw v g M e h q p)
theorem xp (w:E7) (Y:Lw) (n t m p:Nat) (a:Int) (b:Int) (k:List E4) (L:KF w.params k) (h:Nat) (v:Int×Nat) (M:look? Y.me n=some v) (s:b=(Y.LV.length:Nat)) (P:Y.LV.length<=900):ax (env w) (rF w Y n t m p a b k h v.1) (tV (Iq (fR (bI (aA (e8 w.params) 1))) (aq w.params Y))):=by
 let Q:∀{w:E7} {k:List E4} {Y:Lw} {n t m p:Nat} {a:Int} {b:Int} {h:Nat} {e:Int} (s:0<=b/\b<=1000) (F:(if 0< b then b-0 else 0)=b) (i:∀(g j f:Nat) (A B C r u:Nat),ab (env w) {gb w Y g j f n t (λo=>o.map (λx=>x.1)=et n e 0 Y.LV) 0 b A B C r [] u [] with c:=bB (oX w.params) 0 j f (aq w.params Y) g [(⟨⟨[110,97,109,101]⟩⟩,Y.c7),(⟨⟨[102,114,111,110,116]⟩⟩,Y.c10),(⟨⟨[101,97,114,108,121]⟩⟩,Y.c3)]}),PP (env w) (rF w Y n t m p a b k h e):= @λw k Y n t m p a b h e s F i _ G=>
  .seg 0x1001001001001001001001001001001001001001001000000 λq=>
  .use _ (gQ w (q 2) 0 b (q 0) Y.tl (q 1) b (by trivial) (by omega) F) [0] [] λR S=>
  .seg 2 λO=>
  .use _ (i (O 1) R (O 0) 0 0 0 0 0) [3,0,0,3,3,2,3,2] [0] λd D=>have E:(λ(o:List (Int×Nat))=>Gv (λ(x:Int×Nat)=>x.1) o=et n e 0 Y.LV) d.1:=(Fv D);have I:dG w.params d.2.2.1:=(Fe D);
  .or _ _ (I)
  (λy=> .view [0] [] _ _ _ _ ((bC (a:=O 1) (congrArg (λl=>oD l d.2.2.2) y)))
  (.seg 1 λH=>
  G (O 0,d.1,d.2.1) E [] [8,4,2,2,3,2,1] [0]))
  (λy=> .pick _ _ (y) λU J=>
  .pick _ _ (J) λW N=>
  .view [0] [] _ _ _ _ ((bC (a:=O 1) (congrArg (λl=>oD l d.2.2.2) N)))
  (.seg 16781313 λH=>
  G (O 0,d.1,d.2.1) E [] [8,4,2,2,3,2,1] [0]))
 have i:=λ(g j f:Nat) (A B C r u:Nat)=>Dc w Y g j f n t v M P b A B C r u s
 rcases L with rfl | ⟨T,V,rfl⟩<;>exact aG _ (Q (by omega) (by split<;>omega) i)
theorem xg (w:E7) (Y:Lw) (d e i t:Nat) (a:Int) (l:Int) (k:List E4) (q:KF w.params k) (f:Nat) (v:Int×Nat) (g:look? Y.mh d=some v) (n:Nat) (h:0<=a/\a<=1000) (r:v.1=(n:Nat)) (j:n<=3):ax (env w) (rD w Y d e i t a l k f n) (tV (Iq (dM (bI (aA (e8 w.params) 1))) (aq w.params Y))):=by
 let s:∀{w:E7} {k:List E4} {Y:Lw} {d e i t:Nat} {a:Int} {l:Int} {f:Nat} (v:Int×Nat) (g:look? Y.mh d=some v) {n:Nat} (b:Int) (h:0<=a/\a<=1000) (o:a+v.1=b) (m:a+((n:Nat):Int)=b) (j:n=0\/n=1\/n=2\/n=3),PP (env w) (rD w Y d e i t a l k f n):= @λw k Y d e i t a l f v g n b h o m j _ y=>
  .seg 0x4001004004004003002001001000000000000 λA=>
  .use _ (cu w Y.H (Fx "dict") none Y.er d e Y.mh v g) [3] [] λH D=>
  .seg 1 λB=>
  .use _ (b8 w a (v.1) t (v.2) b o) [] [] λu E=>
  .seg 0x1001001001001001001001001001001001001001001001001001 λO=>
  .use _ (BN w (O 2) (O 1) 0 a b t u (O 0) n h m j) [0,0] [] λx p=>
  .seg 0 λC=>
  y (O 2,x.1,x.2) p [] [2,2,2,1,0] []
 rcases q with rfl | ⟨F,G,rfl⟩<;>exact aG _ (s v g _ h rfl (by rw [r]) (by omega))
theorem xW (w:E7) (Y:Lw) (n t y A:Nat) (a:Int) (d:Int) (k:List E4) (io:KF w.params k) (q:Nat) (m:MI) (s:Nat) (z:Int) (M:Int) (h:∀o:List (Int×Nat),o.map (λx=>x.1)=bT (dK n) (Y.ws.map (λx=>x.1)) (Y.hs.map (λx=>x.1))->o≠[]/\cU o=M) (f:d-M=z) (rw:Y.ws.length=Y.hs.length) (D:∀x∈Y.ws,x.1.length<=900) (u:Y.ws.length<=900) (E:m.length<=900):ax (env w) (rH w Y n t y A a d k q m s z) (Dn (.block [aA (e8 w.params) 2] (aq w.params Y))):=by
 let Iu:∀{w:E7} {k:List E4} {Y:Lw} {n t y A:Nat} {a:Int} {d:Int} {q:Nat} {m:MI} {s:Nat} {z:Int} (M:Int) (h:∀o:List (Int×Nat),o.map (λx=>x.1)=bT (dK n) (Y.ws.map (λx=>x.1)) (Y.hs.map (λx=>x.1))->o≠[]/\cU o=M) (f:d-M=z) (u:Y.ws.length<=900) (E:m.length<=900) (r:∀(p v j:Nat) (g:Int) (H I J C F:Nat),g=(Y.ws.length:Nat)->ab (env w) {ga w Y p v j n t (λo=>o.map (λx=>x.1)=bT (dK n) (Y.ws.map (λx=>x.1)) (Y.hs.map (λx=>x.1))) 0 g H I J C [] F [] with c:=bB (oW w.params) 0 v j (aq w.params Y) p [(⟨⟨[119,97,121,115]⟩⟩,Y.c8),(⟨⟨[110,97,109,101]⟩⟩,Y.c7),(⟨⟨[104,101,97,118,121]⟩⟩,Y.c9)]}),PP (env w) (rH w Y n t y A a d k q m s z):= @λw k Y n t y A a d q m s z M h f u E r _ T=>
  .seg 0x1003000000000000000000001 λO1=>
  .use _ (dv bf w Y.W Y.wn Y.ws (Fl Y.ws) rfl (by omega)) [5] [] λx2 h2=>
  .seg 0x1001001001001001001001001001001001001001 λB=>
  .use _ (gQ w (B 2) 0 ((↑(Fl Y.ws):Int)) (B 0) x2 (B 1) (if 0< (↑(Fl Y.ws):Int) then (↑(Fl Y.ws):Int)-0 else 0) (by trivial) (by omega) rfl) [0] [] λx4 h4=>
  .seg 2 λO=>
  .use _ (r (O 1) x4 (O 0) (if 0< (↑(Fl Y.ws):Int) then (↑(Fl Y.ws):Int)-0 else 0) 0 0 0 0 0 (by omega)) [3,0,0,3,3,3,1,3] [] λb R=>have S:(λ(o:List (Int×Nat))=>Gv (λ(x:Int×Nat)=>x.1) o=bT (dK n) (Gv (λ(x:List Nat×Nat)=>x.1) Y.ws) (Gv (λ(x:Int×Nat)=>x.1) Y.hs)) b.1:=(Fv R);have ac:dG w.params b.2.2.1:=(Fe R);
  have P:b.1≠[]:=(h _ S).1;
  have Q:cU b.1=M:=(h _ S).2;
  .or _ _ (ac)
  (λG=> .view [0] [] _ _ _ _ ((bC (a:=O 1) (congrArg (λl=>oD l b.2.2.2) G)))
  (.seg 0x1001002001002002001001001 λe=>
  .use _ (i7 w (e 0) (O 0) (b.2.1) (e 1) 0 (b.1) M P Q) [1,2,0] [] λN D=>
  .seg 1 λU=>
  .use _ (bx w d M Y.tl N z f) [] [] λi X=>
  .seg 0xb00100b00b00300a λV=>
  .use _ (f6 w Y.SD none s n t m z i (by omega)) [10] [] λL Z=>
  .seg 0 λW=>
  T (t,i,L) trivial [] [9,3,3,3,6,3,3,0] []))
  (λG=> .pick _ _ (G) λki gt=>
  .pick _ _ (gt) λvi It=>
  .view [0] [] _ _ _ _ ((bC (a:=O 1) (congrArg (λl=>oD l b.2.2.2) It)))
  (.seg 0x1001002001002002001001001001001 λe=>
  .use _ (i7 w (e 0) (O 0) (b.2.1) (e 1) 0 (b.1) M P Q) [1,2,0] [] λN D=>
  .seg 1 λU=>
  .use _ (bx w d M Y.tl N z f) [] [] λi X=>
  .seg 0xb00100b00b00300a λV=>
  .use _ (f6 w Y.SD none s n t m z i (by omega)) [10] [] λL Z=>
  .seg 0 λW=>
  T (t,i,L) trivial [] [9,3,3,3,6,3,3,0] []))
 have r:=λ(p v j:Nat) (g:Int) (H I J C F:Nat) (hl:g=(Y.ws.length:Nat))=>Da w Y p v j n t rw D u g H I J C F hl
 rcases io with rfl | ⟨k4,v4,rfl⟩<;>exact aG _ (Iu M h f u E r)
def zc (Y:Lw) (o:Obj) (v:E9):af:={d:=5,α:=Unit,need:=[(Y.c7,o)],put:=λ_=>[aK v]}
def gK (w:E7) (Y:Lw) (b S:Nat) (l:Int) (Q:MI->Prop) (k d:List E4) (i f e t s:Nat) (m:MI):af:={d:=75,α:=MI×(Nat×Int×Nat)×Nat×Nat×Nat×Nat,c:=bR (aA (aI w.params) 19) (.ref b) (aq w.params Y),need:=[(b,cq Y.cps Y.tN i),(Y.fr,bz w.params Y l k d f),(Y.c2,aj Y.H),(Y.c3,aj Y.E),(Y.c7,aK (.str ⟨⟨[e]⟩⟩ t)),(Y.c8,aj Y.W),(Y.c9,aj Y.V),(Y.c10,aj Y.FA),(Y.c11,aj S),(Y.H,dO w.params (.type "dict") none iv Y.mh Y.er),(Y.E,dO w.params (.type "dict") none iv Y.me Y.ee),(Y.W,ae (Y.ws.map bf) Y.wn),(Y.V,ae (Y.hs.map iv) Y.vn),(Y.FA,ae ((aD Y.LV).map .ref) Y.fan),(S,dO w.params (.type "dict") none iv m s)],new:=λx=>[(Y.fr,bz w.params Y l k [es w.params [97,104,101,97,100] x.2.1.1 (.int x.2.1.2.1 x.2.1.2.2)] x.2.2.1),(Y.c2,aj Y.H),(Y.c3,aj Y.E),(Y.c7,aK (.str ⟨⟨[x.2.2.2.1]⟩⟩ x.2.2.2.2.1)),(Y.c8,aj Y.W),(Y.c9,aj Y.V),(Y.c10,aj Y.FA),(Y.c11,aj S),(Y.H,dO w.params (.type "dict") none iv Y.mh Y.er),(Y.E,dO w.params (.type "dict") none iv Y.me Y.ee),(Y.W,ae (Y.ws.map bf) Y.wn),(Y.V,ae (Y.hs.map iv) Y.vn),(Y.FA,ae ((aD Y.LV).map .ref) Y.fan),(S,dO w.params (.type "dict") none iv x.1 x.2.2.2.2.2)],post:=λx=>Q x.1,needB:=[bq w.params Y.LV],putB:=λ_=>[bq w.params Y.LV]}
theorem yc (w:E7) (Y:Lw) (Q:MI->Prop) (d:List E4) (j:KF w.params d) (k e:Nat) (a:Int) (i f b t s:Nat) (m:MI) (h:Y.cps[i]? =none) (g:Q m):ab (env w) (gK w Y Y.it Y.SD Y.lg Q d [es w.params [97,104,101,97,100] k (.int a e)] i f b t s m):=by
 rcases j with rfl | ⟨q,v,rfl⟩<;>exact av (λ_ l=> .seg 68736258049 λO=> .use _ (cJ w Y.it Y.tN i Y.cps h) [0] [] λx p=> .seg 2 λn=> .seg 1 λo=>l ((m,(k,a,e),f,b,t,s)) g [] [3,3,3,3,3,3,3,3,3,3,3,3,3,3] [0])
theorem xY (P:E6) (Y:Lw) (e:Env):bR (aA (aI P) 19) (.ref Y.it) e= .forLoop (ej (aA (aI P) 19)) (.ref Y.it) (e8 P) [] e:=by kernel_rfl
theorem xX (P:E6) (i v:E9):Gp (ej (aA (aI P) 19)) i v=pure ():=l6 (by kernel_rfl) i v
structure kR (c:Nat) (mh me:MI) (ws:List (List Nat×Nat)) (hs:List (Int×Nat)) (LV:List Lv) (lg a z:Int):Prop where
 a0:0<=a/\a<=1000
 hh:∃v:Int×Nat,look? mh c=some v/\0<=v.1/\v.1<=3/\(∀o:List (Int×Nat),o.map (λx=>x.1)=bT (dL c) (ws.map (λx=>x.1)) (hs.map (λx=>x.1))->o≠[]/\cU o-v.1=a)
 he:∃v:Int×Nat,look? me c=some v/\∃k,look? mh c=some k/\et c v.1 0 LV=iS a k.1.toNat
 hz:∀o:List (Int×Nat),o.map (λx=>x.1)=bT (dK c) (ws.map (λx=>x.1)) (hs.map (λx=>x.1))->o≠[]/\lg-cU o=z
theorem xZ (w:E7) (Y:Lw) (l:Int) (Q:MI->Prop) (k p:List E4) (n:KF w.params k) (T:AF w.params p) (i j A H s:Nat) (m:MI) (c:Nat) (a z:Int) (U:Y.cps[i]? =some c) (C:kR c Y.mh Y.me Y.ws Y.hs Y.LV l a z) (V:l=(Y.LV.length:Nat)) (P:Y.LV.length<=900) (E:Y.ws.length=Y.hs.length) (B:∀x∈Y.ws,x.1.length<=900) (G:Y.ws.length<=900) (X:m.length<=900) (Z:∀(k9 ta j u x y s:Nat),ab (env w) (gK w Y Y.it Y.SD l Q k [es w.params [97,104,101,97,100] k9 (.int a ta)] (i+1) j c u s (aw m c x (z,y)))):ab (env w) (gK w Y Y.it Y.SD l Q k p i j A H s m):=by
 obtain ⟨v,q,ac,gt,D⟩:=C.hh
 obtain ⟨ve,W,vk,F,N⟩:=C.he
 obtain rfl:v=vk:=by rw [q] at F;cases F;rfl
 obtain ⟨M,R⟩:∃M,M-v.1=a:=⟨a+v.1,by omega⟩
 obtain ⟨I,S⟩:∃M,l-M=z:=⟨l-z,by omega⟩
 exact gC (xY w.params Y _) (xX w.params) (v1:=λu=> .str ⟨⟨[c]⟩⟩ u) (Bf (t:=Y.tN) U) (λu _=>tk _ (λ_ t=> .seg 4097 λO=>t () trivial [0] [] []:PP (env w) (zc Y (aK (.str ⟨⟨[A]⟩⟩ H)) (.str ⟨⟨[c]⟩⟩ u)))) (N:=λb:Nat×Nat×Nat×Nat×Nat×Nat×Nat=>gK w Y Y.it Y.SD l Q k [es w.params [97,104,101,97,100] b.1 (.int a b.2.1)] (i+1) b.2.2.1 c b.2.2.2.1 b.2.2.2.2.2.2 (aw m c b.2.2.2.2.1 (z,b.2.2.2.2.2.1))) (P:=λ_=>True) (λb _=>Z _ _ _ _ _ _ _) rfl (λb y h=>⟨y,h,rfl,rfl⟩) (λb=>⟨rfl,rfl,rfl⟩) [0] [4] (λu _ _ _=>
  .blk _ _ ((EL w Y c u l k p n T j a v q M (λo g=>⟨(D o g).1,by have:=(D o g).2;omega⟩) R E B G).c _) .next 1 [2,2,0,2,2,4,5,5] λd _=>
  .cmp _ _ (λ(e f:Nat×List (Int×Nat)×Nat)=>{bl [(e.1,ae (e.2.1.map iv) e.2.2),(f.1,ae (f.2.1.map iv) f.2.2)] (.ret (.bool false)) with d:=20}) .NotEq _ (λx:Nat×List (Int×Nat)×Nat=>x.1) (λx:Nat×List (Int×Nat)×Nat=>x.1) true false [0,8,1,7,8,8,9] [0,7,1,8] [9,4] (xp w Y c u d.1 d.2.1 a l k n d.2.2 ve W V P) (xg w Y c u d.1 d.2.1 a l k n d.2.2 v q v.1.toNat C.a0 (by omega) (by omega)) (λ_ _=>rfl)
  (λe f J L=>aG _ (λ_ t=> .seg 281543712972801 λO=> .use _ (BL w e.1 e.2.2 f.1 f.2.2 e.2.1 f.2.1 (J.trans (N.trans L.symm))) [0,0] [] λd h2=> .seg 0 λO3=>t () trivial [0,0] [] [])) λ_ _ _ _ _ _=>
  .blk _ _ ((xW w Y c u d.1 d.2.1 a l k n d.2.2 m s z I (λo g=>⟨(C.hz o g).1,by have:=(C.hz o g).2;omega⟩) S E B G X).c _) .next 1 [2,3,9,9,12,9,9,10] λr _=>
  .fin (.inl (d.1,d.2.1,d.2.2,u,r.1,r.2.1,r.2.2)) trivial 99 [17,0,9,10,0,0,0,7,0,5,5,0,0,3,0,2]) (by kernel_rfl)
theorem ef {m:MI} {l:List Nat} {f:Nat->Int} (h:aH m=l.map λc=>(c,f c)):ak m=l:=by
 have:=congrArg (Gv (λx:Nat×Int=>x.1)) h
 unfold aH at this
 unfold ak
 rw [GS,GS] at this
 simpa [Function.comp_def] using this
theorem yb (w:E7) (Y:Lw) (Q:MI->Prop) (n:List E4) (p:KF w.params n) (J:Y.cps.Nodup) (H:Y.lg=(Y.LV.length:Nat)) (D:Y.LV.length<=900) (G:Y.ws.length=Y.hs.length) (A:∀x∈Y.ws,x.1.length<=900) (L:Y.ws.length<=900) (N:Y.cps.length<=5) (zF:Nat->Int) (B:∀c∈Y.cps,∃a,kR c Y.mh Y.me Y.ws Y.hs Y.LV Y.lg a (zF c)) (E:∀m,aH m=Y.cps.map (λc=>(c,zF c))->Q m):∀(r:List Nat) (i f d t s:Nat) (b:List E4) (m:MI),Y.cps.drop i=r->i<=Y.cps.length->AF w.params b->(r=[]->∃k a j,b=[es w.params [97,104,101,97,100] k (.int a j)])->aH m=(Y.cps.take i).map (λc=>(c,zF c))->ab (env w) (gK w Y Y.it Y.SD Y.lg Q n b i f d t s m):=by
 intro r
 induction r with
 | nil=>
  intro i f d t s b m l F o q h
  obtain ⟨k,a,j,rfl⟩:=q rfl
  have e:i=Y.cps.length:=by have:=congrArg Fl l;rw [G7] at this;simp at this;omega
  rw [e,GH] at h
  exact yc w Y Q n p k j a i f d t s m (aV l) (E m h)
 | cons c r M=>
  intro i f d t s b m l F o q h
  obtain ⟨g,v⟩:=aQ l
  have O:i< Y.cps.length:=(E8.mp g).1
  obtain ⟨a,C⟩:=B c (Fz g)
  have hk:ak m=Y.cps.take i:=ef h
  have I:m.length<=900:=by have:=congrArg Fl hk;unfold ak at this;rw [Fo,FN] at this;omega
  refine xZ w Y Y.lg Q n b p o i f d t s m c a (zF c) g C H D G A L I λk j f u x y s=> ?_
  refine M (i+1) f c u s _ _ v (by omega) (.inr ⟨k,_,rfl⟩) (λ_=>⟨k,a,j,rfl⟩) ?_
  rw [fi (by rw [hk];exact hY J g),f5 g]
  unfold aH at h⊢
  rw [Fd,Fd,h];rfl
theorem ya (w:E7) (Y:Lw) (Q:MI->Prop) (k:List E4) (i:KF w.params k) (n:Y.cps.Nodup) (l:Y.lg=(Y.LV.length:Nat)) (f:Y.LV.length<=900) (j:Y.ws.length=Y.hs.length) (d:∀x∈Y.ws,x.1.length<=900) (p:Y.ws.length<=900) (h:Y.cps.length<=5) (zF:Nat->Int) (e:∀c∈Y.cps,∃a,kR c Y.mh Y.me Y.ws Y.hs Y.LV Y.lg a (zF c)) (g:∀m,aH m=Y.cps.map (λc=>(c,zF c))->Q m) (o:Y.cps≠[]) (b t:Nat):ab (env w) (gK w Y Y.it Y.SD Y.lg Q k [] 0 Y.fe b t Y.se []):=
 yb w Y Q k i n l f j d p h zF e g Y.cps 0 Y.fe b t Y.se [] [] rfl (Gg _) (.inl rfl) (λz=>absurd z o) rfl
def rM (w:E7) (Y:Lw) (L:List Lv) (k:List E4) (f b t:Nat) (zF:Nat->Int):af:={d:=90,α:=MI×(Nat×Int×Nat)×Nat×Nat×Nat×Nat×Nat,c:= .block (((aI w.params).drop 17).take 3) (aq w.params Y),need:=[(Y.fr,bz w.params Y Y.lg k [] f),(Y.c1,aK (.str ⟨⟨Y.cps⟩⟩ Y.tN)),(Y.c2,aj Y.H),(Y.c3,aj Y.E),(Y.c7,aK (.str ⟨⟨[b]⟩⟩ t)),(Y.c8,aj Y.W),(Y.c9,aj Y.V),(Y.c10,aj Y.FA),(Y.c11,br),(Y.H,dO w.params (.type "dict") none iv Y.mh Y.er),(Y.E,dO w.params (.type "dict") none iv Y.me Y.ee),(Y.W,ae (Y.ws.map bf) Y.wn),(Y.V,ae (Y.hs.map iv) Y.vn),(Y.FA,ae ((aD Y.LV).map .ref) Y.fan),(Y.bk,ae ((aD L).map .ref) Y.n2)],new:=λx=>[(Y.fr,bz w.params Y Y.lg k [es w.params [97,104,101,97,100] x.2.1.1 (.int x.2.1.2.1 x.2.1.2.2)] x.2.2.1),(Y.c1,aK (.str ⟨⟨Y.cps⟩⟩ Y.tN)),(Y.c2,aj Y.H),(Y.c3,aj Y.E),(Y.c7,aK (.str ⟨⟨[x.2.2.2.1]⟩⟩ x.2.2.2.2.1)),(Y.c8,aj Y.W),(Y.c9,aj Y.V),(Y.c10,aj Y.FA),(Y.c11,aj x.2.2.2.2.2.2),(Y.H,dO w.params (.type "dict") none iv Y.mh Y.er),(Y.E,dO w.params (.type "dict") none iv Y.me Y.ee),(Y.W,ae (Y.ws.map bf) Y.wn),(Y.V,ae (Y.hs.map iv) Y.vn),(Y.FA,ae ((aD Y.LV).map .ref) Y.fan),(Y.bk,ae ((aD L).map .ref) Y.n2),(x.2.2.2.2.2.2,dO w.params (.type "dict") none iv x.1 x.2.2.2.2.2.1)],post:=λx=>aH x.1=Y.cps.map (λc=>(c,zF c)),needB:=[bq w.params Y.LV],putB:=λ_=>[bq w.params Y.LV]}
def eE (m b d:MI):Prop:=match b with | []=>d=m | _::_=>ik m b d
def yi (P:E6) (S d de h o b g:Nat) (e m:MI) (f:Nat):af:={d:=45,α:=MI×Nat,c:= .call (.ref 936) ⟨[.ref S, .ref o],[]⟩,need:=[(S,cO P d e h),(d,oD [] de),(o,cO P b m f),(b,oD [] g)],r:=λ_=> .ok (.ret .none),put:=λz=>[cO P d z.1 z.2,oD [] de,cO P b m f,oD [] g],post:=λz=>eE m e z.1}
theorem iq (w:E7) (S d de f o g i:Nat) (b m:MI) (e:Nat) (l:m.length<=8) (n:(ak m).Nodup) (k:b.length<=8):ab (env w) (yi w.params S d de f o g i b m e):=by
 cases b with
 | nil=>exact av (λ_ j=> .use _ (w0 w S d f o g i m e l n) [0,1,1] [] λx h=>j (m,x) rfl [0,2,0,0] [] [])
 | cons x b=>exact av (λ_ j=> .use _ (wY w S d de f o g i (x::b) m e b.length (Fb) k (by omega)) [0,0,0,0] [] λx h=>j x h [0,0,0,0] [] [])
theorem oJ (P:E6):∀{L:List Lv} {i:Nat} {l:Lv},L[i]? =some l->∃R,(bq P L).Perm ([(l.a,cO P l.dd l.m l.ep),(l.dd,oD [] l.de)]++R)
 | [],_,_,h=>by simp at h
 | x::L,0,l,h=>by
  simp at h;subst h
  exact ⟨bq P L, .refl _⟩
 | x::L,i+1,l,h=>by
  obtain ⟨R,b⟩:=oJ P (L:=L) (i:=i) (l:=l) (by simpa using h)
  refine ⟨x.cells P++R, ?_⟩
  show (x.cells P++bq P L).Perm _
  refine (List.Perm.append_left _ b).trans ?_
  exact (List.perm_append_comm_assoc (x.cells P) [(l.a,cO P l.dd l.m l.ep),(l.dd,oD [] l.de)] R)
def KM (P:E6) (k m:List E4):Prop:=(KF P k/\m=[])\/(k=[]/\KF P m)
def gL (w:E7) (Y:Lw) (f k g e M m b J j:Nat) (d L:List Lv) (Q:MI->MI->Prop) (i:Nat) (p:Int) (t u v:Nat) (o r:List E4) (h:Nat) (s:MI) (q:Nat) (n:MI) (l:Nat):af:={d:=110,α:=(MI×Nat)×(MI×Nat)×(List E4×List E4)×Nat,c:=bR (aA (aI w.params) 22) (.ref f) (aq w.params Y),need:=[(f,bG ((i:Nat):Int) p 1 t u v),(Y.fr,bz w.params Y Y.lg o ([es w.params [97,104,101,97,100] Y.k9 (.int Y.a Y.ta),es w.params [109,101,101,116,115] k (.ref e),es w.params [106,111,105,110,115] g (.ref b)]++r) h),(Y.c10,aj Y.FA),(Y.FA,ae ((aD d).map .ref) Y.fan),(Y.bk,ae ((aD L).map .ref) Y.n2),(e,cO w.params M s q),(M,oD [] m),(b,cO w.params J n l),(J,oD [] j)],new:=λx=>[(Y.fr,bz w.params Y Y.lg x.2.2.1.1 ([es w.params [97,104,101,97,100] Y.k9 (.int Y.a Y.ta),es w.params [109,101,101,116,115] k (.ref e),es w.params [106,111,105,110,115] g (.ref b)]++x.2.2.1.2) x.2.2.2),(Y.c10,aj Y.FA),(Y.FA,ae ((aD d).map .ref) Y.fan),(Y.bk,ae ((aD L).map .ref) Y.n2),(e,cO w.params M x.1.1 x.1.2),(M,oD [] m),(b,cO w.params J x.2.1.1 x.2.1.2),(J,oD [] j)],post:=λx=>Q x.1.1 x.2.1.1/\KM w.params x.2.2.1.1 x.2.2.1.2,needB:=[bq w.params d,bq w.params L],putB:=λ_=>[bq w.params d,bq w.params L]}
structure pW (LV L2:List Lv) (I:Nat->MI->MI->Prop):Prop where
 len:L2.length=LV.length
 l9:LV.length<=900
 ok:∀i l1 l2,LV[i]? =some l1->L2[LV.length-1-i]? =some l2->l1.m≠[]/\l1.m.length<=400/\l2.m.length<=400/\(∀m',bM bn l2.m l1.m [] m'->m'.length<=8/\(ak m').Nodup)/\(∀m',(∃acc1,bM bm l2.m l1.m [] acc1/\ds ce l1.m l2.m acc1 m')->m'.length<=8/\(ak m').Nodup)
 few:∀i mm jj,I i mm jj->mm.length<=8/\jj.length<=8
 next:∀i l1 l2 mm jj mm2 jj2 m1 m2,LV[i]? =some l1->L2[LV.length-1-i]? =some l2->I i mm jj->bM bn l2.m l1.m [] m1->eE m1 mm mm2->(∃acc1,bM bm l2.m l1.m [] acc1/\ds ce l1.m l2.m acc1 m2)->eE m2 jj jj2->I (i+1) mm2 jj2
theorem Cf (w:E7) (Y:Lw) (q T U y M B v J A:Nat) (L g:List Lv) (Q:MI->MI->Prop) (Jj:Y.lg=(L.length:Nat)) (IC:Nat->MI->MI->Prop) (Iu:pW L g IC) (hQ:∀m e,IC L.length m e->Q m e):∀(Iw:List Lv) (i:Nat) (f:Int) (r s t:Nat) (kk mk:List E4) (h:Nat) (m:MI) (n:Nat) (e:MI) (k:Nat),L.drop i=Iw->i<=L.length->f=(Iw.length:Nat)->KM w.params kk mk->IC i m e->ab (env w) (gL w Y q T U y M B v J A L g Q i f r s t kk mk h m n e k):=by
 let I8:∀{w:E7} {Y:Lw} {q T U y M B v J A:Nat} {L g:List Lv} {Q:MI->MI->Prop} {i:Nat} {f:Int} {r s t:Nat} {h:Nat} {m:MI} {n:Nat} {e:MI} {k:Nat} (V:¬0< f) (hQ:Q m e),PP (env w) (gL w Y q T U y M B v J A L g Q i f r s t [] [] h m n e k):= @λw Y q T U y M B v J A L g Q i f r s t h m n e k V hQ _ N=>
  .seg 68736258049 λO1=>
  .use _ (cg w q (↑i:Int) f 1 r s t V) [0] [] λo h2=>
  .seg 2 λO3=>
  .seg 1 λO4=>
  N (((m,n),(e,k),([],[]),h)) ⟨hQ, .inr ⟨rfl, .inl rfl⟩⟩ [] [3,3,3,3,3,3,3,3] [0,0]
 let I9:∀{w:E7} {Y:Lw} {q T U y M B v J A:Nat} {L g:List Lv} {Q:MI->MI->Prop} {i:Nat} {f:Int} {r s t:Nat} {h:Nat} {m:MI} {n:Nat} {e:MI} {k:Nat} (b l:Lv) (R1 R2:ao) (j:Nat) (q1:Int) (V:0< f) (IF:Y.lg-1=q1) (IG:q1-((i:Nat):Int)=((j:Nat):Int)) (R:(aD L)[i]? =some b.a) (S:(aD g)[j]? =some l.a) (Jg:(aD L).length<=1000) (Jh:(aD g).length<=1000) (hi:i<=1000) (X:j<=1000) (O:(bq w.params L).Perm ([(b.a,cO w.params b.dd b.m b.ep),(b.dd,oD [] b.de)]++R1)) (P:(bq w.params g).Perm ([(l.a,cO w.params l.dd l.m l.ep),(l.dd,oD [] l.de)]++R2)) (II:b.m≠[]) (IJ:b.m.length<=400) (IK:l.m.length<=400) (I7:m.length<=8) (IA:e.length<=8) (hA:∀m',bM bn l.m b.m [] m'->m'.length<=8/\(ak m').Nodup) (hO:∀m',(∃u,bM bm l.m b.m [] u/\ds ce b.m l.m u m')->m'.length<=8/\(ak m').Nodup) (ih:∀(p Ix h n k:Nat) (F C D E:MI),bM bn l.m b.m [] D->eE D m F->(∃u,bM bm l.m b.m [] u/\ds ce b.m l.m u E)->eE E e C->ab (env w) (gL w Y q T U y M B v J A L g Q (i+1) (f-1) 0 0 t [] [es w.params [107] p (.int ((i:Nat):Int) Ix)] h F n C k)),PP (env w) (gL w Y q T U y M B v J A L g Q i f r s t [] [] h m n e k):= @λw Y q T U y M B v J A L g Q i f r s t h m n e k b l R1 R2 j q1 V IF IG R S Jg Jh hi X O P II IJ IK I7 IA hA hO ih _ N=>
  .view [] [0] _ _ _ _ (bw O)
  (.view [] [1] _ _ _ _ (bw P)
  (.seg 343614181377 λO1=>
  .use _ (bY w q (↑i:Int) f 1 r s t ((↑i:Int)+1) (f-1) V rfl rfl) [4] [] λo h2=>
  .seg 0x800100800800800600700b00a00000000000000a00000000000a00000000000a006006006 λO3=>
  .use _ (bH Fq w Y.FA Y.fan o (↑i:Int) i (aD L) (b.a) rfl R (by omega)) [7] [] λx4 h4=>
  .seg 16805895 λO5=>
  .use _ (bx w Y.lg 1 Y.tl (O5 0) q1 IF) [] [] λx6 h6=>
  .seg 4103 λO7=>
  .use _ (bx w q1 (↑i:Int) x6 o (↑j:Int) IG) [] [] λx8 h8=>
  .seg 0x9001009009009 λO9=>
  .use _ (bH Fq w Y.bk Y.n2 x8 (↑j:Int) j (aD g) (l.a) rfl S (by omega)) [8] [] λJa IW=>
  .seg 0x6000000000000004006 λIN=>
  .use _ (pD w (b.a) (b.dd) (b.de) (b.ep) (l.a) (l.dd) (l.de) (l.ep) (b.m) (l.m) II IJ IK) [5,5,3,3] [] λx G=>
  have a1:x.2.2.2.2.1.length<=8:=(hA x.2.2.2.2.1 G).1;
  have a2:(ak x.2.2.2.2.1).Nodup:=(hA x.2.2.2.2.1 G).2;
  .seg 0 λIP=>
  .use _ (iq w y M B n (x.1) (x.2.1) (x.2.2.2.1) m (x.2.2.2.2.1) (x.2.2.1) a1 a2 I7) [11,11,4,4] [] λZ IX=>
  .seg 0xa00100a00a00a00c00d00f00e00000000000000e00000000000e00000000000e00c λIQ=>
  .use _ (bH Fq w Y.FA Y.fan o (↑i:Int) i (aD L) (b.a) rfl R (by omega)) [9] [] λJb IY=>
  .seg 16826380 λIv=>
  .use _ (bx w Y.lg 1 Y.tl (Iv 0) q1 IF) [] [] λIy IZ=>
  .seg 4108 λIR=>
  .use _ (bx w q1 (↑i:Int) Iy o (↑j:Int) IG) [] [] λIz I0=>
  .seg 0xa00100a00a00a λIS=>
  .use _ (bH Fq w Y.bk Y.n2 Iz (↑j:Int) j (aD g) (l.a) rfl S (by omega)) [9] [] λJc I3=>
  .seg 0x7000000000000009007 λIT=>
  .use _ (pz w (b.a) (b.dd) (b.de) (b.ep) (l.a) (l.dd) (l.de) (l.ep) (b.m) (l.m) II IJ IK) [6,6,6,6] [] λd H=>
  have b1:d.2.2.2.2.1.length<=8:=(hO d.2.2.2.2.1 H).1;
  have b2:(ak d.2.2.2.2.1).Nodup:=(hO d.2.2.2.2.1 H).2;
  .seg 0 λIU=>
  .use _ (iq w v J A k (d.1) (d.2.1) (d.2.2.2.1) e (d.2.2.2.2.1) (d.2.2.1) b1 b2 IA) [15,15,4,4] [] λx26 I4=>
  .seg 0 λIV=>
  .view [4,4] [1] _ _ _ _ (aX O.symm)
  (.view [4,4] [1] _ _ _ _ (aX P.symm)
  (.use _ (ih (O3 0) o (h+1) (Z.2) (x26.2) (Z.1) (x26.1) (x.2.2.2.2.1) (d.2.2.2.2.1) G (by trivial) H (by trivial)) [10,10,10,5,4,4,4,0,0] [1,0] λx28 I=>have I5:Q x28.1.1 x28.2.1.1:=(Fv I);have I6:KM w.params x28.2.2.1.1 x28.2.2.1.2:=(Fe I);
  N (((x28.1.1,x28.1.2),(x28.2.1.1,x28.2.1.2),(x28.2.2.1.1,x28.2.2.1.2),x28.2.2.2)) I [] [0,0,0,0,0,0,0,0] [0,0]))))
 intro Iw
 induction Iw with
 | nil=>
  intro i f r s t kk mk h m n e k hd hi V hk hI
  have Je:i=L.length:=by have:=congrArg Fl hd;rw [G7] at this;simp at this;omega
  have hq:=hQ m e (Je▸hI)
  have W:¬0< f:=by rw [V];simp
  rcases hk with ⟨rfl | ⟨p,v4,rfl⟩,rfl⟩ | ⟨rfl,rfl | ⟨p,v4,rfl⟩⟩
  .exact ct (I8 W hq)
  .exact ct (λ_ N=> .seg 68736258049 λO1=> .use _ (cg w q (↑i:Int) f 1 r s t W) [0] [] λo h2=> .seg 2 λO3=> .seg 1 λO4=>N (((m,n),(e,k),([es w.params [107] p v4],[]),h)) ⟨hq, .inl ⟨.inr ⟨p,v4,rfl⟩,rfl⟩⟩ [] [3,3,3,3,3,3,3,3] [0,0])
  .exact ct (I8 W hq)
  .exact ct (λ_ N=> .seg 68736258049 λO1=> .use _ (cg w q (↑i:Int) f 1 r s t W) [0] [] λo h2=> .seg 2 λO3=> .seg 1 λO4=>N (((m,n),(e,k),([],[es w.params [107] p v4]),h)) ⟨hq, .inr ⟨rfl, .inr ⟨p,v4,rfl⟩⟩⟩ [] [3,3,3,3,3,3,3,3] [0,0])
 | cons b Iw ih=>
  intro i f r s t kk mk h m n e k hd hi V hk hI
  obtain ⟨h1,h2⟩:=aQ hd
  have Jk:i< L.length:=(E8.mp h1).1
  have Ji:=Iu.len
  have h9:=Iu.l9
  rw [Fb] at V
  obtain ⟨j,hj⟩:∃j,L.length-1-i=j:=⟨_,rfl⟩
  have IA:j< g.length:=by omega
  obtain ⟨l,IB⟩:∃l,g[j]? =some l:=⟨_,Ff IA⟩
  obtain ⟨ac,gt,io,rw,It⟩:=Iu.ok i b l h1 (by rw [hj];exact IB)
  obtain ⟨b1,b2⟩:=Iu.few i m e hI
  obtain ⟨R1,O⟩:=oJ w.params h1
  obtain ⟨R2,P⟩:=oJ w.params IB
  have R:(aD L)[i]? =some b.a:=by unfold aD;rw [Fi,h1];rfl
  have S:(aD g)[j]? =some l.a:=by unfold aD;rw [Fi,IB];rfl
  have z1:(aD L).length<=1000:=by unfold aD;rw [Fo];omega
  have z2:(aD g).length<=1000:=by unfold aD;rw [Fo];omega
  have nx:=λ(kk mk:List E4) (hk:KM w.params kk mk) (h n k:Nat) (F C D E:MI) (a1:bM bn l.m b.m [] D) (a2:eE D m F) (a3:∃u,bM bm l.m b.m [] u/\ds ce b.m l.m u E) (a4:eE E e C)=>
   ih (i+1) (f-1) 0 0 t kk mk h F n C k h2 (by omega) (by omega) hk (Iu.next i b l m e F C D E h1 (by rw [hj];exact IB) hI a1 a2 a3 a4)
  have W:0< f:=by omega
  have X:Y.lg-1-((i:Nat):Int)=((j:Nat):Int):=by omega
  rcases hk with ⟨rfl | ⟨p,v4,rfl⟩,rfl⟩ | ⟨rfl,rfl | ⟨p,v4,rfl⟩⟩
  .exact av (I9 b l R1 R2 j _ W rfl X R S z1 z2 (by omega) (by omega) O P ac gt io b1 b2 rw It λp Ix=>nx _ _ (.inr ⟨rfl, .inr ⟨p,_,rfl⟩⟩))
  .exact av (have hi:i<=1000:=(by omega);have Jf:j<=1000:=(by omega);λ_ N=> .view [] [0] _ _ _ _ (bw O) (.view [] [1] _ _ _ _ (bw P) (.seg 343614181377 λO1=> .use _ (bY w q (↑i:Int) f 1 r s t ((↑i:Int)+1) (f-1) W rfl rfl) [4] [] λo h2=> .seg 0x800100800800800600700b00a00000000000000a00000000000a00000000000a006006006 λO3=> .use _ (bH Fq w Y.FA Y.fan o (↑i:Int) i (aD L) (b.a) rfl R (by omega)) [7] [] λx4 h4=> .seg 16805895 λO5=> .use _ (bx w Y.lg 1 Y.tl (O5 0) (Y.lg-1) rfl) [] [] λx6 h6=> .seg 4103 λO7=> .use _ (bx w (Y.lg-1) (↑i:Int) x6 o (↑j:Int) X) [] [] λx8 h8=> .seg 0x9001009009009 λO9=> .use _ (bH Fq w Y.bk Y.n2 x8 (↑j:Int) j (aD g) (l.a) rfl S (by omega)) [8] [] λJa IW=> .seg 0x6000000000000004006 λIN=> .use _ (pD w (b.a) (b.dd) (b.de) (b.ep) (l.a) (l.dd) (l.de) (l.ep) (b.m) (l.m) ac gt io) [5,5,3,3] [] λx G=>have a1:x.2.2.2.2.1.length<=8:=(rw x.2.2.2.2.1 G).1;have a2:(ak x.2.2.2.2.1).Nodup:=(rw x.2.2.2.2.1 G).2; .seg 0 λIP=> .use _ (iq w y M B n (x.1) (x.2.1) (x.2.2.2.1) m (x.2.2.2.2.1) (x.2.2.1) a1 a2 b1) [11,11,4,4] [] λZ IX=> .seg 0xa00100a00a00a00c00d00f00e00000000000000e00000000000e00000000000e00c λIQ=> .use _ (bH Fq w Y.FA Y.fan o (↑i:Int) i (aD L) (b.a) rfl R (by omega)) [9] [] λJb IY=> .seg 16826380 λIv=> .use _ (bx w Y.lg 1 Y.tl (Iv 0) (Y.lg-1) rfl) [] [] λIy IZ=> .seg 4108 λIR=> .use _ (bx w (Y.lg-1) (↑i:Int) Iy o (↑j:Int) X) [] [] λIz I0=> .seg 0xa00100a00a00a λIS=> .use _ (bH Fq w Y.bk Y.n2 Iz (↑j:Int) j (aD g) (l.a) rfl S (by omega)) [9] [] λJc I3=> .seg 0x7000000000000009007 λIT=> .use _ (pz w (b.a) (b.dd) (b.de) (b.ep) (l.a) (l.dd) (l.de) (l.ep) (b.m) (l.m) ac gt io) [6,6,6,6] [] λd H=>have ID:d.2.2.2.2.1.length<=8:=(It d.2.2.2.2.1 H).1;have IE:(ak d.2.2.2.2.1).Nodup:=(It d.2.2.2.2.1 H).2; .seg 0 λIU=> .use _ (iq w v J A k (d.1) (d.2.1) (d.2.2.2.1) e (d.2.2.2.2.1) (d.2.2.1) ID IE b2) [15,15,4,4] [] λx26 I4=> .seg 0 λIV=> .view [4,4] [1] _ _ _ _ (aX O.symm) (.view [4,4] [1] _ _ _ _ (aX P.symm) (.use _ ((λp Ix=>nx _ _ (.inl ⟨.inr ⟨p,_,rfl⟩,rfl⟩):∀(IL IM h n k:Nat) (F C D E:MI),bM bn l.m b.m [] D->eE D m F->(∃u,bM bm l.m b.m [] u/\ds ce b.m l.m u E)->eE E e C->ab (env w) (gL w Y q T U y M B v J A L g Q (i+1) (f-1) 0 0 t [es w.params [107] IL (.int ((i:Nat):Int) IM)] [] h F n C k)) p o h (Z.2) (x26.2) (Z.1) (x26.1) (x.2.2.2.2.1) (d.2.2.2.2.1) G (by trivial) H (by trivial)) [10,10,10,5,4,4,4,0,0] [1,0] λx28 I=>have I5:Q x28.1.1 x28.2.1.1:=(Fv I);have I6:KM w.params x28.2.2.1.1 x28.2.2.1.2:=(Fe I);N (((x28.1.1,x28.1.2),(x28.2.1.1,x28.2.1.2),(x28.2.2.1.1,x28.2.2.1.2),x28.2.2.2)) I [] [0,0,0,0,0,0,0,0] [0,0])))))
  .exact av (I9 b l R1 R2 j _ W rfl X R S z1 z2 (by omega) (by omega) O P ac gt io b1 b2 rw It λp Ix=>nx _ _ (.inr ⟨rfl, .inr ⟨p,_,rfl⟩⟩))
  .exact av (have hi:i<=1000:=(by omega);have Jf:j<=1000:=(by omega);λ_ N=> .view [] [0] _ _ _ _ (bw O) (.view [] [1] _ _ _ _ (bw P) (.seg 343614181377 λO1=> .use _ (bY w q (↑i:Int) f 1 r s t ((↑i:Int)+1) (f-1) W rfl rfl) [4] [] λo h2=> .seg 0x800100800800800600700b00a00000000000000a00000000000a00000000000a006006006 λO3=> .use _ (bH Fq w Y.FA Y.fan o (↑i:Int) i (aD L) (b.a) rfl R (by omega)) [7] [] λx4 h4=> .seg 16805895 λO5=> .use _ (bx w Y.lg 1 Y.tl (O5 0) (Y.lg-1) rfl) [] [] λx6 h6=> .seg 4103 λO7=> .use _ (bx w (Y.lg-1) (↑i:Int) x6 o (↑j:Int) X) [] [] λx8 h8=> .seg 0x9001009009009 λO9=> .use _ (bH Fq w Y.bk Y.n2 x8 (↑j:Int) j (aD g) (l.a) rfl S (by omega)) [8] [] λJa IW=> .seg 0x6000000000000004006 λIN=> .use _ (pD w (b.a) (b.dd) (b.de) (b.ep) (l.a) (l.dd) (l.de) (l.ep) (b.m) (l.m) ac gt io) [5,5,3,3] [] λx G=>have a1:x.2.2.2.2.1.length<=8:=(rw x.2.2.2.2.1 G).1;have a2:(ak x.2.2.2.2.1).Nodup:=(rw x.2.2.2.2.1 G).2; .seg 0 λIP=> .use _ (iq w y M B n (x.1) (x.2.1) (x.2.2.2.1) m (x.2.2.2.2.1) (x.2.2.1) a1 a2 b1) [11,11,4,4] [] λZ IX=> .seg 0xa00100a00a00a00c00d00f00e00000000000000e00000000000e00000000000e00c λIQ=> .use _ (bH Fq w Y.FA Y.fan o (↑i:Int) i (aD L) (b.a) rfl R (by omega)) [9] [] λJb IY=> .seg 16826380 λIv=> .use _ (bx w Y.lg 1 Y.tl (Iv 0) (Y.lg-1) rfl) [] [] λIy IZ=> .seg 4108 λIR=> .use _ (bx w (Y.lg-1) (↑i:Int) Iy o (↑j:Int) X) [] [] λIz I0=> .seg 0xa00100a00a00a λIS=> .use _ (bH Fq w Y.bk Y.n2 Iz (↑j:Int) j (aD g) (l.a) rfl S (by omega)) [9] [] λJc I3=> .seg 0x7000000000000009007 λIT=> .use _ (pz w (b.a) (b.dd) (b.de) (b.ep) (l.a) (l.dd) (l.de) (l.ep) (b.m) (l.m) ac gt io) [6,6,6,6] [] λd H=>have ID:d.2.2.2.2.1.length<=8:=(It d.2.2.2.2.1 H).1;have IE:(ak d.2.2.2.2.1).Nodup:=(It d.2.2.2.2.1 H).2; .seg 0 λIU=> .use _ (iq w v J A k (d.1) (d.2.1) (d.2.2.2.1) e (d.2.2.2.2.1) (d.2.2.1) ID IE b2) [15,15,4,4] [] λx26 I4=> .seg 0 λIV=> .view [4,4] [1] _ _ _ _ (aX O.symm) (.view [4,4] [1] _ _ _ _ (aX P.symm) (.use _ ((λp Ix=>nx _ _ (.inr ⟨rfl, .inr ⟨p,_,rfl⟩⟩):∀(IL IM h n k:Nat) (F C D E:MI),bM bn l.m b.m [] D->eE D m F->(∃u,bM bm l.m b.m [] u/\ds ce b.m l.m u E)->eE E e C->ab (env w) (gL w Y q T U y M B v J A L g Q (i+1) (f-1) 0 0 t [] [es w.params [107] IL (.int ((i:Nat):Int) IM)] h F n C k)) p o h (Z.2) (x26.2) (Z.1) (x26.1) (x.2.2.2.2.1) (d.2.2.2.2.1) G (by trivial) H (by trivial)) [10,10,10,5,4,4,4,0,0] [1,0] λx28 I=>have I5:Q x28.1.1 x28.2.1.1:=(Fv I);have I6:KM w.params x28.2.2.1.1 x28.2.2.1.2:=(Fe I);N (((x28.1.1,x28.1.2),(x28.2.1.1,x28.2.1.2),(x28.2.2.1.1,x28.2.2.1.2),x28.2.2.2)) I [] [0,0,0,0,0,0,0,0] [0,0])))))
def rL (w:E7) (Y:Lw) (L:List Lv) (k:List E4) (f:Nat) (Q:MI->MI->Prop):af:={d:=130,α:=(MI×Nat×Nat×Nat×Nat)×(MI×Nat×Nat×Nat×Nat)×(List E4×List E4)×Nat×Nat×Nat,c:= .block (((aI w.params).drop 20).take 3) (aq w.params Y),need:=[(Y.fr,bz w.params Y Y.lg k [es w.params [97,104,101,97,100] Y.k9 (.int Y.a Y.ta)] f),(Y.c10,aj Y.FA),(Y.FA,ae ((aD Y.LV).map .ref) Y.fan),(Y.bk,ae ((aD L).map .ref) Y.n2)],new:=λx=>[(Y.fr,bz w.params Y Y.lg x.2.2.1.1 ([es w.params [97,104,101,97,100] Y.k9 (.int Y.a Y.ta),es w.params [109,101,101,116,115] (x.2.2.2.2.1) (.ref x.1.2.2.1),es w.params [106,111,105,110,115] (x.2.2.2.2.2) (.ref x.2.1.2.2.1)]++x.2.2.1.2) x.2.2.2.1),(Y.c10,aj Y.FA),(Y.FA,ae ((aD Y.LV).map .ref) Y.fan),(Y.bk,ae ((aD L).map .ref) Y.n2),(x.1.2.2.1,cO w.params x.1.2.2.2.1 x.1.1 x.1.2.1),(x.1.2.2.2.1,oD [] x.1.2.2.2.2),(x.2.1.2.2.1,cO w.params x.2.1.2.2.2.1 x.2.1.1 x.2.1.2.1),(x.2.1.2.2.2.1,oD [] x.2.1.2.2.2.2)],post:=λx=>Q x.1.1 x.2.1.1/\KM w.params x.2.2.1.1 x.2.2.1.2,needB:=[bq w.params Y.LV,bq w.params L],putB:=λ_=>[bq w.params Y.LV,bq w.params L]}
theorem zn (w:E7) (Y:Lw) (L:List Lv) (k:List E4) (j:KF w.params k) (f:Nat) (Q:MI->MI->Prop) (h:Y.lg=(Y.LV.length:Nat)) (I:Nat->MI->MI->Prop) (C:pW Y.LV L I) (E:I 0 [] []) (F:∀B A,I Y.LV.length B A->Q B A):ax (env w) (rL w Y L k f Q) (Dn (.block (((aI w.params).drop 20).take 3) (aq w.params Y))):=by
 let D:∀{w:E7} {k:List E4} {Y:Lw} {L:List Lv} {f:Nat} {Q:MI->MI->Prop} (h:0<=Y.lg/\Y.lg<=1000) (y:(if 0< Y.lg then Y.lg-0 else 0)=Y.lg) (hk:∀(l o p g M q e J m:Nat) (t s u f r n:Nat),ab (env w) (gL w Y l o p g M q e J m Y.LV L Q 0 Y.lg t s u k [] f [] r [] n)),PP (env w) (rL w Y L k f Q):= @λw k Y L f Q h y hk _ P=>
  .seg 0 λR=>
  .use _ (jy w) [] [] λb U=>
  .seg 12291 λv=>
  .use _ (jy w) [] [] λd V=>
  .seg 0x1001001001001001001001001001001001001001005000000005005 λO=>
  .use _ (gQ w (O 3) 0 Y.lg (O 1) Y.tl (O 2) Y.lg (by trivial) (by omega) y) [0] [] λN W=>
  .seg 2 λS=>
  .use _ (hk N (v 0) (O 0) (b.1) (b.2.1) (b.2.2) (d.1) (d.2.1) (d.2.2) 0 0 0 (f+1+1) 0 0) [1,5,5,5,5,3,3,1,1] [0,0] λx i=>have X:Q x.1.1 x.2.1.1:=(Fv i);have Z:KM w.params x.2.2.1.1 x.2.2.1.2:=(Fe i);
  .seg 0 λT=>
  P (((x.1.1,x.1.2,b.1,b.2.1,b.2.2),(x.2.1.1,x.2.1.2,d.1,d.2.1,d.2.2),(x.2.2.1.1,x.2.2.1.2),x.2.2.2,v 0,O 0)) i [] [0,0,0,0,0,0,0,0] [0,0]
 have h9:=C.l9
 have hk:=λ(k:List E4) (j:KM w.params k []) (l o p g M q e J m:Nat) (t s u f r n:Nat)=>Cf w Y l o p g M q e J m Y.LV L Q h I C F Y.LV 0 Y.lg t s u k [] f [] r [] n rfl (Gg _) h j E
 rcases j with rfl | ⟨G,H,rfl⟩
 .exact aG _ (D (by omega) (by split<;>omega) (hk _ (.inr ⟨rfl, .inl rfl⟩)))
 .exact aG _ (D (by omega) (by split<;>omega) (hk _ (.inl ⟨.inr ⟨G,H,rfl⟩,rfl⟩)))
def rG (w:E7) (Y:Lw):af:={d:=120,α:=MI×Nat×Nat×Nat×Nat,c:= .block [aA (aI w.params) 23] (aq w.params Y),need:=[(Y.c12,br),(Y.c2,aj Y.H),(Y.c11,aj Y.SD),(Y.H,dO w.params (.type "dict") none iv Y.mh Y.er),(Y.SD,dO w.params (.type "dict") none iv Y.ms Y.se)],new:=λx=>[(Y.c12,aj x.2.2.1),(Y.c2,aj Y.H),(Y.c11,aj Y.SD),(Y.H,dO w.params (.type "dict") none iv Y.mh Y.er),(Y.SD,dO w.params (.type "dict") none iv Y.ms Y.se),(x.2.2.1,cO w.params x.2.2.2.1 x.1 x.2.1),(x.2.2.2.1,oD [] x.2.2.2.2)],post:=λx=>∃b,bM cB Y.ms Y.mh [] b/\ds dJ Y.mh Y.ms b x.1}
theorem xT (w:E7) (Y:Lw) (e:Y.mh.length<=8) (i:(ak Y.mh).Nodup) (f:Y.ms.length<=8) (j:(ak Y.ms).Nodup) (g:Y.mh≠[]):ax (env w) (rG w Y) (Dn (rG w Y).c):=aG _ (λ_ k=> .seg 8192 λO=> .use _ (pv w Y.H Y.mh Y.er e i) [3] [] λb o=> .seg 24576 λl=> .use _ (pv w Y.SD Y.ms Y.se f j) [6] [] λd p=> .seg 0x5000000000000002005 λm=> .use _ (EB w (b.1) (b.2.1) (b.2.2.2) (b.2.2.1) (d.1) (d.2.1) (d.2.2.2) (d.2.2.1) Y.mh Y.ms g (by omega) (by omega)) [4,4,1,1] [] λx h=> .seg 36873 λn=>k (x.2.2.2.2.1,x.2.2.1,x.1,x.2.1,x.2.2.2.1) h [] [8,8,8,7,6,4,4] [])
def oV (P:E6):Expr:=bI (aA (aI P) 24)
def cV (m d:MI) (b:List Nat):List Nat:=b.filter λc=>decide (aa d c< aa m c)
def fN (w:E7) (Y:Lw) (d e b:Nat) (Q:List (Nat×Nat)->Prop) (i f:Nat) (lo:List E4) (l:Nat) (g:List (Nat×Nat)):af:={d:=30,α:=List (Nat×Nat)×Nat×List E4×Nat,c:=dE (oV w.params) 0 e b (aq w.params Y) d [(⟨⟨[115,108,97,99,107]⟩⟩,Y.c11),(⟨⟨[104,111,117,114,115]⟩⟩,Y.c2)],need:=[(e,cq Y.cps Y.tN i),(d,oD lo l),(b,ae (g.map cv) f),(Y.c2,aj Y.H),(Y.c11,aj Y.SD),(Y.H,dO w.params (.type "dict") none iv Y.mh Y.er),(Y.SD,dO w.params (.type "dict") none iv Y.ms Y.se)],new:=λx=>[(d,oD x.2.2.1 x.2.2.2),(b,ae (x.1.map cv) x.2.1),(Y.c2,aj Y.H),(Y.c11,aj Y.SD),(Y.H,dO w.params (.type "dict") none iv Y.mh Y.er),(Y.SD,dO w.params (.type "dict") none iv Y.ms Y.se)],post:=λx=>Q x.1/\dk w.params x.2.2.1}
theorem C4 (w:E7) (Y:Lw) (j f g:Nat) (Q:List (Nat×Nat)->Prop) (W:∀c∈Y.cps,(∃v,look? Y.mh c=some v)/\∃v,look? Y.ms c=some v):∀(r:List Nat) (i b l:Nat) (lo:List E4) (d:List (Nat×Nat)),Y.cps.drop i=r->d.length+r.length<=900->dk w.params lo->(∀o,ad o=ad d++cV Y.mh Y.ms r->Q o)->ab (env w) (fN w Y j f g Q i b lo l d):=by
 let X:∀{w:E7} {lo:List E4} {Y:Lw} {j f g:Nat} {Q:List (Nat×Nat)->Prop} {i b l:Nat} {d:List (Nat×Nat)} (c:Nat) (v s:Int×Nat) (h:Y.cps[i]? =some c) (A:look? Y.mh c=some v) (y:look? Y.ms c=some s) (E:d.length<=1000) (G:s.1< v.1->∀(k:Nat) (e:E9) (b l u:Nat),ab (env w) (fN w Y j f g Q (i+1) b [es w.params [110,97,109,101] k e] l (d++[(c,u)]))) (F:¬s.1< v.1->∀(k:Nat) (e:E9) (b l:Nat),ab (env w) (fN w Y j f g Q (i+1) b [es w.params [110,97,109,101] k e] l d)),PP (env w) (fN w Y j f g Q i b lo l d):= @λw lo Y j f g Q i b l d c v s h A y E G F _ q=>
  .seg 68736258049 λM=> .use _ (eH w f Y.tN i Y.cps c h) [0] [] λx t=> .seg 0x6001006006006002004002002 λO=> .use _ (cu w Y.H (Fx "dict") none Y.er c x Y.mh v A) [5] [] λx4 h4=> .seg 0x7001007007007003006 λO5=> .use _ (cu w Y.SD (Fx "dict") none Y.se c x Y.ms s y) [6] [] λx6 h6=> .seg 1 λO7=> .or (s.1< v.1) (¬(s.1< v.1)) (FI _) (λB=> .use _ (dx w (v.1) (s.1) (v.2) (s.2) B) [] [] λZ V=> .seg 83890180 λS=> .use _ (dw w g b d (c,x) (by omega)) [4] [] λm C=> .seg 0 λac=> .use _ (G B (kT lo (O 0)) (GR (Str.mk (Array.mk [c])) x) (b+1) (kE lo l) x) [3,3,0,2,2,1,0] [] λp H=>have rw:Q p.1:=(Fv H);have It:dk w.params p.2.2.1:=(Fe H);q (p.1,p.2.1,p.2.2.1,p.2.2.2) H [] [0,0,0,0,0,0] []) (λB=> .use _ (dy w (v.1) (s.1) (v.2) (s.2) B) [] [] λZ V=> .seg 0 λS=> .use _ (F B (kT lo (O 0)) (GR (Str.mk (Array.mk [c])) x) b (kE lo l)) [2,2,2,2,2,1,0] [] λm C=>have gt:Q m.1:=(Fv C);have io:dk w.params m.2.2.1:=(Fe C);q (m.1,m.2.1,m.2.2.1,m.2.2.2) C [] [0,0,0,0,0,0] [])
 intro r
 induction r with
 | nil=>
  intro i b l lo d D E J n
  have P:Q d:=n d (by simp [cV])
  rcases J with rfl | ⟨k,e,rfl⟩
  .exact ct (λ_ q=> .seg 68736258049 λM=> .use _ (cJ w f Y.tN i Y.cps (aV D)) [0] [] λx t=> .seg 2 λO=>q (d,b,[],l) ⟨P, .inl rfl⟩ [] [3,3,3,3,3,3] [])
  .exact ct (λ_ q=> .seg 68736258049 λM=> .use _ (cJ w f Y.tN i Y.cps (aV D)) [0] [] λx t=> .seg 2 λO=>q (d,b,[es w.params [110,97,109,101] k e],l) ⟨P, .inr ⟨k,e,rfl⟩⟩ [] [3,3,3,3,3,3] [])
 | cons c r R=>
  intro i b l lo d D E J n
  obtain ⟨N,t⟩:=aQ D
  rw [Fb] at E
  obtain ⟨⟨v,A⟩,s,y⟩:=W c (Fz N)
  have U:aa Y.mh c=v.1:=by unfold aa;rw [A];rfl
  have T:aa Y.ms c=s.1:=by unfold aa;rw [y];rfl
  unfold cV at n
  rw [GI,U,T] at n
  have G:s.1< v.1->∀(k:Nat) (e:E9) (b l u:Nat),ab (env w) (fN w Y j f g Q (i+1) b [es w.params [110,97,109,101] k e] l (d++[(c,u)])):=λI k e b l u=>R (i+1) b l _ _ t (by simp;omega) (.inr ⟨k,e,rfl⟩) λo L=>n o (by
   rw [L,if_pos (by simpa using I)]
   unfold ad
   rw [Fd,Fm];rfl)
  have F:¬s.1< v.1->∀(k:Nat) (e:E9) (b l:Nat),ab (env w) (fN w Y j f g Q (i+1) b [es w.params [110,97,109,101] k e] l d):=λI k e b l=>R (i+1) b l _ _ t (by omega) (.inr ⟨k,e,rfl⟩) λo L=>n o (by
   rw [L,if_neg (by simpa using I)];rfl)
  rcases J with rfl | ⟨k,e,rfl⟩<;>exact av (X c v s N A y (by omega) G F)
theorem C3 (w:E7) (Y:Lw) (d i b:Nat) (f:∀c∈Y.cps,(∃v,look? Y.mh c=some v)/\∃v,look? Y.ms c=some v) (g:Y.cps.length<=10) (e l:Nat):ab (env w) {fN w Y d i b (λo=>ad o=cV Y.mh Y.ms Y.cps) 0 e [] l [] with c:=bB (oV w.params) 0 i b (aq w.params Y) d [(⟨⟨[115,108,97,99,107]⟩⟩,Y.c11),(⟨⟨[104,111,117,114,115]⟩⟩,Y.c2)]}:=
 dq nj (o:=cq Y.cps Y.tN 0) rfl (by simp [fN]) (by kernel_rfl) (by kernel_rfl) rfl (C4 w Y d i b _ f Y.cps 0 e l [] [] rfl (by simp;omega) (.inl rfl) λo h=>by simpa [ad] using h)
theorem fZ (w:E7) (d l i n:Nat) (b:List (Int×Nat)) (x:Int×Nat) (h:b[i]? =some x):ab (env w) (nG "tuple_iterator" d l i (aR (b.map iv) n) (iv x)):=fK w d l i n iv b x h
theorem lr (w:E7) (b l i n:Nat) (x:List (Int×Nat)) (h:x[i]? =none):ab (env w) (nF "tuple_iterator" b l i (aR (x.map iv) n)):=ir w b l i n iv x h
theorem vq {w:E7} {d:Ctx} {k v:Expr} {g:Comprehension} {o:Scope} {n:Pos} {b:Env} {i f:Nat} (t:d.code= .compLoop (.DictComp k v [g] o n) 0 (.ref i) (.ref f) b) (u:g.ifs=[]) (q:g.is_async=0) (y:∀i v,Gp g.target i v=pure ()) {F:HF->Fc->Prop} {p:Pos} {s:Fc}
 (h:∀p,wp (FQ pq w) d (pyNext (.ref i)) (λr p s=>∃l,r=some l/\∀p,wp (FQ pq w) d (assign g.target b l>>=λ_=>eval k b) (λj p s=>wp (FQ pq w) d (eval v b) (λm p s=>∀p,wp (FQ pq w) d (dictSet f j m) (λ_ p s=>finPost (FQ pq w) d F (.again (.compLoop (.DictComp k v [g] o n) 0 (.ref i) (.ref f) b)) p s) (gg w d b F) p s) (gg w d b F) p s) (gg w d b F) p s) (gg w d b F) p s):wp (FQ pq w) d (FK table d.code) (finPost (FQ pq w) d F) (λe _ s=>F (.error e) s) p s:=by
 rw [t]
 show wp _ _ ((compTurn (.DictComp k v [g] o n) 0 (.ref i) (.ref f) b).onRaise (λx=>do HS x b;Hd x)) _ _ p s
 rw [Gs]
 unfold compTurn
 simp only [List.getElem?_cons_zero,q,u]
 rw [E5]
 refine aL (Gz λp=> ?_)
 simp only [bne_self_eq_false]
 rw [if_neg Fg,E5]
 refine Fs _ _ _ (λr p s h=> ?_) (λ_ _ _ h=>h) _ _ (h p)
 obtain ⟨l,rfl,h⟩:=h
 show wp _ _ (Gp g.target (.ref i) l>>=λ_=>assign g.target b l>>=λ_=>_) _ _ p s
 rw [y,E5]
 refine aL (E3 λp=> ?_)
 have h:=h p
 rw [E5] at h⊢
 refine Fs _ _ _ (λ_ p s h=> ?_) (λ_ _ _ h=>h) _ _ h
 show wp _ _ ((eval k b>>=λj=>holding [j] (eval v b)>>=λm=>standAt {k.pos with endLine:=v.pos.endLine,endCol:=v.pos.endCol}>>=λ_=>holding [j,m] (dictSet f j m))>>=λ_=>again (.compLoop (.DictComp k v [g] o n) 0 (.ref i) (.ref f) b)) _ _ p s
 rw [E5,E5]
 refine Fs _ _ _ (λj p s h=> ?_) (λ_ _ _ h=>h) _ _ h
 rw [E5,HO]
 refine Fs _ _ _ (λm p s h=> ?_) (λ_ _ _ h=>h) _ _ h
 rw [E5]
 refine aL (Gz λp=> ?_)
 rw [HO]
 exact h p
theorem vN {w:E7} {A:Around} {E:E9->Fc->Prop} {s:Fc} {W:String} {a b:Nat} {m d:MI} {G H:Nat} {Q:Bool->Fc->Prop} (k:s.heap.get? a=some (dO w.params (.type "dict") none iv m G)) (o:s.heap.get? b=some (dO w.params (.type "dict") none iv d H)) (L:1228<=a) (M:1228<=b) (N:m.length=d.length)
 (P:∀x∈m,∃v,look? d x.1=some v/\v.1=x.2.2.1) (h:Q true s):Fp (FQ pq w) A (HQ W a b) Q E s:=by
 unfold HQ Gq
 rw [if_neg (by rw [eL L];exact Fg),if_neg (by rw [eL M];exact Fg)]
 refine E1 (E3 ?_)
 refine E1 (E3 ?_)
 refine E1 (FO k rfl ?_)
 dsimp only
 refine E1 (FO o rfl ?_)
 have R:(m.map (aS w.params iv)).toArray.size=m.length:=by simp
 have S:(d.map (aS w.params iv)).toArray.size=d.length:=by simp
 rw [R,S,if_neg (by simp [N])]
 refine E1 (Gi k rfl ?_)
 refine E1 ?_
 rw [GY]
 simp only [Std.Legacy.Range.size,Nat.sub_zero,Nat.add_sub_cancel,Nat.div_one]
 refine wpAny_forIn_list _
  (λr n g=>n.1=none/\g=s/\∃i,r=HU i (m.length-i)/\i<=m.length)
  _ ?_ ?_ _ _ ⟨rfl,rfl,0,by simp,Gg _⟩
 .rintro x r n g ⟨p,rfl,i,l,X⟩
  have u:i< m.length:=by
   rcases Nat.lt_or_ge i m.length with h | h
   .exact h
   .rw [Nat.sub_eq_zero_of_le h] at l;simp at l
  obtain ⟨rfl,O⟩:x=i/\r=HU (i+1) (m.length-(i+1)):=by
   have e:m.length-i=(m.length-(i+1))+1:=by omega
   rw [e,HN] at l
   injection l with I J
   exact ⟨I,J⟩
  refine E1 (FO k rfl ?_)
  obtain ⟨y,B⟩:∃y,m[x]? =some y:=⟨m[x],Ff u⟩
  have C:((m.map (aS w.params iv)).toArray)[x]? =some (aS w.params iv y):=by
   rw [Ft,Fi,B];rfl
  simp only [C]
  obtain ⟨v,f,T⟩:=P y (Fz B)
  rw [oK] at f
  obtain ⟨j,t⟩:∃j,d.findIdx? (λz=>decide (z.1=y.1))=some j:=by
   cases q:d.findIdx? (λz=>decide (z.1=y.1)) with
   | none=>rw [q] at f;cases f
   | some j=>exact ⟨j,rfl⟩
  rw [t] at f
  dsimp only at f
  obtain ⟨z,U,V⟩:=H3.mp f
  refine E1 (Gh ?_)
  show Fp _ _ (dictFind b (.str ⟨⟨[y.1]⟩⟩ y.2.1) ((sk w).hash ⟨⟨[y.1]⟩⟩)>>=_) _ _ g
  refine E1 (kP (m:=d) o ?_)
  rw [t]
  dsimp only
  refine E1 (FO o rfl ?_)
  have D:((d.map (aS w.params iv)).toArray)[j]? =some (aS w.params iv z):=by
   rw [Ft,Fi,U];rfl
  simp only [D]
  refine Gh ?_
  show Fp _ _ (eqBool (.int y.2.2.1 y.2.2.2) (.int z.2.2.1 z.2.2.2)) _ _ g
  refine wpAny_eqBool_int ?_
  have F:(y.2.2.1==z.2.2.1)=true:=by rw [<-T,<-V];simp
  rw [F]
  simp only [Bool.not_true,Gc,if_false]
  refine E1 (Gi k rfl ?_)
  rw [if_neg (by simp)]
  exact E3 ⟨rfl,rfl,x+1,O,u⟩
 .rintro n g ⟨p,rfl,_⟩
  rw [p]
  exact E3 h
def sv (id:String) (P:E6) (a b:Nat) (m f:MI) (e d:Nat) (r:Bool):af:={d:=5,α:=Unit,c:= .builtin id ⟨[.ref a, .ref b],[]⟩,need:=[(a,dO P (.type "dict") none iv m e),(b,dO P (.type "dict") none iv f d)],r:=λ_=> .ok (.ret (.bool r)),put:=λ_=>[dO P (.type "dict") none iv m e,dO P (.type "dict") none iv f d]}
theorem qP:isSubtype (.type "dict") (.type "dict")=pure true:=by rw [isSubtype_type];kernel_rfl
theorem DT (w:E7) (a b:Nat) (m d:MI) (e f:Nat) (l:m.length=d.length) (n:∀x∈m,∃v,look? d x.1=some v/\v.1=x.2.2.1):ab (env w) (sv "dict.__eq__" w.params a b m d e f true):=by
 refine aN λA s G o p P g=> ?_
 have i:s.heap.get? a=some (dO w.params (.type "dict") none iv m e):=P.has (a,_) EZ
 have h:s.heap.get? b=some (dO w.params (.type "dict") none iv d f):=P.has (b,_) (E2 _ EZ)
 have j:1228<=a:=P.ge (a,_) EZ
 have k:1228<=b:=P.ge (b,_) (E2 _ EZ)
 show Fp _ _ (FK table (.builtin "dict.__eq__" ⟨[.ref a, .ref b],[]⟩)) _ _ s
 rw [aE _ _ F.entry_dict_eq]
 show Fp _ _ (isInstance (.ref b) (.type "dict")>>=_) _ _ s
 refine E1 (wpAny_isInstance (T:="dict") (b:=true) ⟨_,h,rfl⟩ qP ?_)
 simp only [Bool.not_true,Gc,if_false]
 show Fp _ _ (HQ _ a b>>=_) _ _ s
 refine E1 (vN i h j k l n (E3 ?_))
 exact g () s trivial (ap.start P)
theorem DS (w:E7) (a b:Nat) (m d:MI) (e f:Nat) (l:m.length=d.length) (n:∀x∈m,∃v,look? d x.1=some v/\v.1=x.2.2.1):ab (env w) (sv "dict.__ne__" w.params a b m d e f false):=by
 refine aN λA s G o p P g=> ?_
 have i:s.heap.get? a=some (dO w.params (.type "dict") none iv m e):=P.has (a,_) EZ
 have h:s.heap.get? b=some (dO w.params (.type "dict") none iv d f):=P.has (b,_) (E2 _ EZ)
 have j:1228<=a:=P.ge (a,_) EZ
 have k:1228<=b:=P.ge (b,_) (E2 _ EZ)
 show Fp _ _ (FK table (.builtin "dict.__ne__" ⟨[.ref a, .ref b],[]⟩)) _ _ s
 rw [aE _ _ F.entry_dict_ne]
 show Fp _ _ (isInstance (.ref b) (.type "dict")>>=_) _ _ s
 refine E1 (wpAny_isInstance (T:="dict") (b:=true) ⟨_,h,rfl⟩ qP ?_)
 simp only [Bool.not_true,Gc,if_false]
 show Fp _ _ (HQ _ a b>>=_) _ _ s
 refine E1 (vN i h j k l n (E3 ?_))
 exact g () s trivial (ap.start P)
def iM (P:E6) (d h o b g:Nat) (m:List (Nat×Nat×Int×Nat)) (f:Nat):af:={d:=20,α:=Nat,c:= .builtin "dict.__init__" ⟨[.ref d, .ref o],[]⟩,need:=[(d,dO P (.type "dict") none iv [] h),(o,cO P b m f),(b,oD [] g)],r:=λ_=> .ok (.ret .none),put:=λe=>[dO P (.type "dict") none iv m e,cO P b m f,oD [] g]}
theorem pj (w:E7) (d i o f j:Nat) (m:List (Nat×Nat×Int×Nat)) (g:Nat) (I:m.length<=8) (L:(ak m).Nodup):ab (env w) (iM w.params d i o f j m g):=by
 intro q t u R J p s Q P B
 have u:q.handled=none:=u.resolve_left (λz=>nomatch z)
 have H:bt (env w) 20 q:=⟨u,J⟩
 have G:Go (env w).kt s (keys (iM w.params d i o f j m g).all) s [(d,dO w.params (.type "dict") none iv [] i),(o,cO w.params f m g),(f,oD [] j)]:=Go.start P
 have C:s.heap.get? d=some (dO w.params (.type "dict") none iv [] i):=P.has (d,_) EZ
 have N:s.heap.get? o=some (cO w.params f m g):=P.has (o,_) (E2 _ EZ)
 have E:1228<=o:=P.ge (o,cO w.params f m g) (E2 _ EZ)
 have D:d≠o:=by
  have:=P.nd
  intro z;subst z
  exact absurd this (by simp [iM,af.all])
 have t:q.code= .builtin "dict.__init__" ⟨[.ref d, .ref o],[]⟩:=t
 rw [F1]
 show wp _ _ (FK table q.code) _ _ p s
 rw [t,aE _ _ F.entry_dict_init]
 show wp _ _ (Gy "__init__" ⟨[.ref d, .ref o],[]⟩>>=_) _ _ p s
 unfold Gy
 rw [E5,E5]
 refine aL (gA (d:=d) rfl P.base C (.inl rfl) λp=> ?_)
 show wp _ _ (pure (d,[Fq o])) _ _ p s
 refine aL (E3 λp=> ?_)
 show wp _ _ (GE "dict.__init__" d (.ref o) [] .none) _ _ p s
 unfold GE
 rw [E5]
 refine aL (pL N λp=> ?_)
 have M:((cO w.params f m g).cls != .type "dict")=true:=by
  rw [show (cO w.params f m g).cls= .ref 1093 from rfl];rfl
 rw [if_pos M]
 dsimp only
 have k:=fP (uc w o f j m g) H (by show 10<=20;omega) rfl (r:=[(d,dO w.params (.type "dict") none iv [] i)]) (Go.perm G (FD (l₁:=[(d,dO w.params (.type "dict") none iv [] i)]))) (b0:=false) (λ_=>rfl) (p:=p)
  (Q:=λb p n=>b=false/\Go (env w).kt s (keys (iM w.params d i o f j m g).all) n [(o,cO w.params f m g),(f,oD [] j),(d,dO w.params (.type "dict") none iv [] i)]) (E:=λ_ _ _=>False) λ_ n p _ r=>⟨rfl,r⟩
 rw [E5] at k
 rw [E5]
 refine Fs _ _ _ (λv p n h=> ?_) (λ_ _ _ h=>h.elim) _ _ k
 obtain ⟨O,r⟩:v.isNone=false/\Go (env w).kt s (keys (iM w.params d i o f j m g).all) n [(o,cO w.params f m g),(f,oD [] j),(d,dO w.params (.type "dict") none iv [] i)]:=h
 rw [if_neg (by rw [O];exact Fg)]
 unfold Builtin.Dict.merge
 rw [E5,E5]
 refine fP (sR w o f m g) H (by show 10<=20;omega) rfl (r:=[(f,oD [] j),(d,dO w.params (.type "dict") none iv [] i)]) r (b0:=true) (λ_=>rfl) λ_ x p _ l=> ?_
 have l:Go (env w).kt s (keys (iM w.params d i o f j m g).all) x [(o,cO w.params f m g),(f,oD [] j),(d,dO w.params (.type "dict") none iv [] i)]:=l
 have l:=Go.perm l (all':=[(d,dO w.params (.type "dict") none iv [] i),(o,cO w.params f m g),(f,oD [] j)]) (FD (l₁:=[(o,cO w.params f m g),(f,oD [] j)]))
 rw [if_pos rfl]
 show wp _ _ (Hn "dict.__init__" d o) _ _ p x
 refine aL (pN (cls:= .type "dict") (dd:=none) (f:=iv) (r:=[(f,oD [] j)]) D E (EZ) l.after I L λy e A p=> ?_)
 show wp _ _ (ret .none) _ _ p y
 exact B e y trivial A
def yN (x y:Int) (t u:Nat) (z:Int):af:={d:=25,α:=Nat,c:= .builtin "max" ⟨[.int x t, .int y u],[]⟩,need:=[],r:=λv=> .ok (.ret (.int z v))}
theorem Bv (w:E7) (x y:Int) (t u:Nat) (z:Int) (q:max x y=z):ab (env w) (yN x y t u z):=by
 by_cases h:x< y
 .obtain rfl:z=y:=by omega
  exact av (λ_ b=> .seg 0x2001002001001001001001001001001001 λO=> .use _ (fZ w (O 1) (O 0) 0 0 ([(x,t),(z,u)]) (x,t) rfl) [1,1] [] λm i=> .seg 0x1001001003001003003003 λd=> .use _ (fZ w (O 1) (O 0) 1 0 ([(x,t),(z,u)]) (z,u) rfl) [0,0] [] λn j=> .seg 1 λe=> .use _ (dx w ((z,u).1) ((x,t).1) u t h) [] [] λo k=> .seg 0x1001001003001003003003 λf=> .use _ (lr w (O 1) (O 0) 2 0 ([(x,t),(z,u)]) (by trivial)) [0,0] [] λp l=> .seg 343681290243 λg=>b (u) trivial [] [] [])
 .obtain rfl:z=x:=by omega
  exact av (λ_ b=> .seg 0x2001002001001001001001001001001001 λO=> .use _ (fZ w (O 1) (O 0) 0 0 ([(z,t),(y,u)]) (z,t) rfl) [1,1] [] λm i=> .seg 0x1001001003001003003003 λd=> .use _ (fZ w (O 1) (O 0) 1 0 ([(z,t),(y,u)]) (y,u) rfl) [0,0] [] λn j=> .seg 1 λe=> .use _ (dy w ((y,u).1) ((z,t).1) u t h) [] [] λo k=> .seg 281543712976897 λf=> .use _ (lr w (O 1) (O 0) 2 0 ([(z,t),(y,u)]) (by trivial)) [0,0] [] λp l=> .seg 343681290243 λg=>b (t) trivial [] [] [])
def yM (x y:Int) (t u:Nat) (z:Int):af:={d:=25,α:=Nat,c:= .builtin "min" ⟨[.int x t, .int y u],[]⟩,need:=[],r:=λv=> .ok (.ret (.int z v))}
theorem Bp (w:E7) (x y:Int) (t u:Nat) (z:Int) (q:min x y=z):ab (env w) (yM x y t u z):=by
 by_cases h:y< x
 .obtain rfl:z=y:=by omega
  exact av (λ_ b=> .seg 0x2001002001001001001001001001001001 λO=> .use _ (fZ w (O 1) (O 0) 0 0 ([(x,t),(z,u)]) (x,t) rfl) [1,1] [] λm i=> .seg 0x1001001003001003003003 λd=> .use _ (fZ w (O 1) (O 0) 1 0 ([(x,t),(z,u)]) (z,u) rfl) [0,0] [] λn j=> .seg 1 λe=> .use _ (gq w ((z,u).1) ((x,t).1) u t h) [] [] λo k=> .seg 0x1001001003001003003003 λf=> .use _ (lr w (O 1) (O 0) 2 0 ([(x,t),(z,u)]) (by trivial)) [0,0] [] λp l=> .seg 343681290243 λg=>b (u) trivial [] [] [])
 .obtain rfl:z=x:=by omega
  exact av (λ_ b=> .seg 0x2001002001001001001001001001001001 λO=> .use _ (fZ w (O 1) (O 0) 0 0 ([(z,t),(y,u)]) (z,t) rfl) [1,1] [] λm i=> .seg 0x1001001003001003003003 λd=> .use _ (fZ w (O 1) (O 0) 1 0 ([(z,t),(y,u)]) (y,u) rfl) [0,0] [] λn j=> .seg 1 λe=> .use _ (gr w ((y,u).1) ((z,t).1) u t h) [] [] λo k=> .seg 281543712976897 λf=> .use _ (lr w (O 1) (O 0) 2 0 ([(z,t),(y,u)]) (by trivial)) [0,0] [] λp l=> .seg 343681290243 λg=>b (t) trivial [] [] [])
def rK (w:E7) (Y:Lw) (k m:List E4):af:={d:=60,α:=List (Nat×Nat)×Nat×Nat×Nat×Nat,c:= .block [aA (aI w.params) 24] (aq w.params Y),need:=[(Y.fr,bz w.params Y Y.lg k ([es w.params [97,104,101,97,100] Y.k9 (.int Y.a Y.ta),es w.params [109,101,101,116,115] Y.k10 (.ref Y.Mt),es w.params [106,111,105,110,115] Y.k11 (.ref Y.Jn)]++m) Y.fe),(Y.c1,aK (.str ⟨⟨Y.cps⟩⟩ Y.tN)),(Y.c2,aj Y.H),(Y.c11,aj Y.SD),(Y.H,dO w.params (.type "dict") none iv Y.mh Y.er),(Y.SD,dO w.params (.type "dict") none iv Y.ms Y.se)],new:=λx=>[(Y.fr,bz w.params Y Y.lg k ([es w.params [97,104,101,97,100] Y.k9 (.int Y.a Y.ta),es w.params [109,101,101,116,115] Y.k10 (.ref Y.Mt),es w.params [106,111,105,110,115] Y.k11 (.ref Y.Jn)]++(m++[es w.params [104,101,108,100] x.2.2.1 (.ref x.2.2.2.1)])) x.2.2.2.2),(Y.c1,aK (.str ⟨⟨Y.cps⟩⟩ Y.tN)),(Y.c2,aj Y.H),(Y.c11,aj Y.SD),(Y.H,dO w.params (.type "dict") none iv Y.mh Y.er),(Y.SD,dO w.params (.type "dict") none iv Y.ms Y.se),(x.2.2.2.1,ae (x.1.map cv) x.2.1)],post:=λx=>ad x.1=cV Y.mh Y.ms Y.cps}
theorem zm (w:E7) (Y:Lw) (k m:List E4) (hk:KM w.params k m) (h:∀c∈Y.cps,c< 128) (y:∀c∈Y.cps,(∃v,look? Y.mh c=some v)/\∃v,look? Y.ms c=some v) (t:Y.cps.length<=10):ax (env w) (rK w Y k m) (Dn (.block [aA (aI w.params) 24] (aq w.params Y))):=by
 let C:∀{w:E7} {k:List E4} {m:List E4} {Y:Lw} (h:∀c∈Y.cps,c< 128) (e:∀(d i b g j:Nat),ab (env w) {fN w Y d i b (λo=>ad o=cV Y.mh Y.ms Y.cps) 0 g [] j [] with c:=bB (oV w.params) 0 i b (aq w.params Y) d [(⟨⟨[115,108,97,99,107]⟩⟩,Y.c11),(⟨⟨[104,111,117,114,115]⟩⟩,Y.c2)]}),PP (env w) (rK w Y k m):= @λw k m Y h e _ r=>
  .seg 4098 λF=>
  .use _ (fL w Y.cps Y.tN h) [] [] λE G=>
  .seg 1 λO=>
  .use _ (e (O 1) E (O 0) 0 0) [2,0,0,2,2,2,2] [] λx p=>have q:(λ(o:List (Nat×Nat))=>ad o=cV Y.mh Y.ms Y.cps) x.1:=(Fv p);have s:dk w.params x.2.2.1:=(Fe p);
  .or _ _ (s)
  (λn=> .view [0] [] _ _ _ _ ((bC (a:=O 1) (congrArg (λl=>oD l x.2.2.2) n)))
  (.seg 16805895 λf=>
  r (x.1,x.2.1,f 0,O 0,Y.fe+1) q [] [6,6,2,2,2,2,1] []))
  (λn=> .pick _ _ (n) λH u=>
  .pick _ _ (u) λI A=>
  .view [0] [] _ _ _ _ ((bC (a:=O 1) (congrArg (λl=>oD l x.2.2.2) A)))
  (.seg 281543712993287 λf=>
  r (x.1,x.2.1,f 0,O 0,Y.fe+1) q [] [6,6,2,2,2,2,1] []))
 have e:=λ(d i b g j:Nat)=>C3 w Y d i b y t g j
 rcases hk with ⟨rfl | ⟨B,D,rfl⟩,rfl⟩ | ⟨rfl,rfl | ⟨B,D,rfl⟩⟩<;>exact aG _ (C h e)
def mu (e:Expr):Expr:=(eP e).1
def vr (e:Expr):Expr:=(eP e).2.1
def fw (e:Expr):Comprehension:=(eP e).2.2.2.2.1.headD default
def vu (e:Expr):Pos:=(eP e).2.2.1
def di (P:E6):Expr:=dM (bI (aA (aI P) 25))
def dh (P:E6):Expr:=dM (bI (aA (aI P) 26))
def yR (d l i n:Nat) (b:List (Nat×Nat)) (x:Nat×Nat):af:={d:=5,α:=Unit,need:=[(d,aW "list_iterator" l i),(l,ae (b.map cv) n)],r:=λ_=> .ok (.ret (cv x)),put:=λ_=>[aW "list_iterator" l (i+1),ae (b.map cv) n]}
theorem Ec (P:E6):di P= .DictComp (mu (di P)) (vr (di P)) [fw (di P)] (no (di P)) (vu (di P)):=by kernel_rfl
theorem Eb (P:E6):(fw (di P)).ifs=[]:=by kernel_rfl
theorem Ed (P:E6):(fw (di P)).is_async=0:=by kernel_rfl
theorem Ea (P:E6) (i v:E9):Gp (fw (di P)).target i v=pure ():=l6 (by kernel_rfl) i v
def y3 (w:E7) (b:Nat) (lo:List E4) (l:Nat) (x:Nat×Nat):af:={d:=5,α:=Nat×Nat,need:=[(b,oD lo l)],r:=λ_=> .ok (.ret (cv x)),put:=λy=>[oD [es w.params [110,97,109,101] y.1 (cv x)] y.2]}
def y0 (w:E7) (Y:Lw) (b:Nat) (k l:Nat) (x:Nat×Nat) (z:Int):af:={d:=40,α:=Nat,need:=[(b,oD [es w.params [110,97,109,101] k (cv x)] l),(Y.c2,aj Y.H),(Y.c11,aj Y.SD),(Y.H,dO w.params (.type "dict") none iv Y.mh Y.er),(Y.SD,dO w.params (.type "dict") none iv Y.ms Y.se)],r:=λu=> .ok (.ret (.int z u)),new:=λ_=>[(b,oD [es w.params [110,97,109,101] k (cv x)] l),(Y.c2,aj Y.H),(Y.c11,aj Y.SD),(Y.H,dO w.params (.type "dict") none iv Y.mh Y.er),(Y.SD,dO w.params (.type "dict") none iv Y.ms Y.se)]}
theorem D5 (P:E6):dh P= .DictComp (mu (dh P)) (vr (dh P)) [fw (dh P)] (no (dh P)) (vu (dh P)):=by kernel_rfl
theorem D4 (P:E6):(fw (dh P)).ifs=[]:=by kernel_rfl
theorem D6 (P:E6):(fw (dh P)).is_async=0:=by kernel_rfl
theorem D3 (P:E6) (i v:E9):Gp (fw (dh P)).target i v=pure ():=l6 (by kernel_rfl) i v
def y1 (w:E7) (b:Nat) (lo:List E4) (l:Nat) (x:Nat×Nat):af:={d:=5,α:=Nat×Nat,need:=[(b,oD lo l)],r:=λ_=> .ok (.ret (cv x)),put:=λy=>[oD [es w.params [110,97,109,101] y.1 (cv x)] y.2]}
def yZ (w:E7) (Y:Lw) (b:Nat) (k l:Nat) (x:Nat×Nat) (z:Int):af:={d:=40,α:=Nat,need:=[(b,oD [es w.params [110,97,109,101] k (cv x)] l),(Y.c3,aj Y.E),(Y.c4,aj Y.G),(Y.c12,aj Y.Sp),(Y.E,dO w.params (.type "dict") none iv Y.me Y.ee),(Y.G,dO w.params (.type "dict") none iv Y.ml Y.el),(Y.Sp,cO w.params Y.Spd Y.mp Y.spe)],r:=λu=> .ok (.ret (.int z u)),new:=λ_=>[(b,oD [es w.params [110,97,109,101] k (cv x)] l),(Y.c3,aj Y.E),(Y.c4,aj Y.G),(Y.c12,aj Y.Sp),(Y.E,dO w.params (.type "dict") none iv Y.me Y.ee),(Y.G,dO w.params (.type "dict") none iv Y.ml Y.el),(Y.Sp,cO w.params Y.Spd Y.mp Y.spe)]}
theorem t8 {w:E7} {d:Nat} {t:Ctx} (H:bt (env w) d t) (D:5<=d) {b l i n:Nat} {j:List (Nat×Nat)} {x:Nat×Nat} (C:j[i]? =some x) {o s:Fc} {own:List Addr} {A r:List ao} {p:Pos} (m:List Nat) (G:Go (env w).kt o own s A.flatten) (F:take m [[(b,aW "list_iterator" l i)],[(l,ae (j.map cv) n)]] A (· =r)) {Q:Option E9->Pos->Fc->Prop} {E:E9->Pos->Fc->Prop} (B:∀e p,Go (env w).kt o own e ([(b,aW "list_iterator" l (i+1))]::[(l,ae (j.map cv) n)]::r).flatten->Q (some (cv x)) p e):wp (FQ pq w) t (pyNext (.ref b)) Q E p s:=by
 have q:=Dg (t:=tN b) m (tk _ (λ_ J=> .seg 16781313 λO=> .use _ (cr w b l i n cv j x C) [0,0] [] λN M=> .seg 0 λL=>J () trivial [0,0] [] []:PP (env w) (yR b l i n j x))) H D rfl G F (f0:= .ret (cv x)) (λ_=>rfl) (p:=p) (Q:=λf p e=>f= .ret (cv x)/\Q (some (cv x)) p e) (E:=λ_ _ _=>False) λu e p _ v=>⟨rfl,B e p v⟩
 unfold tN at q
 rw [E5] at q
 refine Fs _ _ _ (λr p I k=> ?_) (λ_ _ _ h=>h.elim) _ _ q
 cases r with
 | none=>obtain ⟨g,_⟩:Flow.brk= .ret (cv x)/\_:=k;cases g
 | some y=>
  obtain ⟨g,h⟩:Flow.ret y= .ret (cv x)/\Q (some (cv x)) p I:=k
  injection g with g;subst g
  exact h
theorem u7 {w:E7} {x:Ctx} {b c t u e:Nat} {z:Int} {m:MI} {f s:Fc} {own:List Addr} {A r:List ao} {p:Pos} (o:List Nat) (G:Go (env w).kt f own s A.flatten) (n:take o [[(b,dO w.params (.type "dict") none iv m e)]] A (· =r)) (k:m.length<=1000)
 {Q:Unit->Pos->Fc->Prop} {E:E9->Pos->Fc->Prop} (j:∀e i p,Go (env w).kt f own i ([(b,dO w.params (.type "dict") none iv (aw m c t (z,u)) e)]::r).flatten->Q () p i):wp (FQ pq w) x (dictSet b (.str ⟨⟨[c]⟩⟩ t) (.int z u)) Q E p s:=by
 obtain ⟨v,q,rfl⟩:=bW n
 have d:Go (env w).kt f own s ((b,dO w.params (.type "dict") none iv m e)::v.flatten):=G.perm q.flatten
 have l:=d.inv.has _ EZ
 refine aL (vM (v:=((z,u):Int×Nat)) (f:=iv) l k λF h p=> ?_)
 have h:F (dO w.params (.type "dict") none iv m e)=dO w.params (.type "dict") none iv (aw m c t (z,u)) (fv m c e):=h
 have g:=((ap.start d.pre).toks (s.toks+1)).set F (by exact EZ) (by rw [h];rfl)
 rw [h] at g
 exact j (fv m c e) _ p (Go.step d g)
def gP (w:E7) (Y:Lw) (d e b:Nat) (h:List (Nat×Nat)) (Q:MI->Prop) (i:Nat) (lo:List E4) (l:Nat) (m:MI) (f:Nat):af:={d:=50,α:=MI×Nat×List E4×Nat,c:=dE (di w.params) 0 e b (aq w.params Y) d [(⟨⟨[115,108,97,99,107]⟩⟩,Y.c11),(⟨⟨[104,111,117,114,115]⟩⟩,Y.c2)],need:=[(e,aW "list_iterator" Y.hl i),(Y.hl,ae (h.map cv) Y.hn),(d,oD lo l),(b,dO w.params (.type "dict") none iv m f),(Y.c2,aj Y.H),(Y.c11,aj Y.SD),(Y.H,dO w.params (.type "dict") none iv Y.mh Y.er),(Y.SD,dO w.params (.type "dict") none iv Y.ms Y.se)],new:=λx=>[(d,oD x.2.2.1 x.2.2.2),(b,dO w.params (.type "dict") none iv x.1 x.2.1),(Y.hl,ae (h.map cv) Y.hn),(Y.c2,aj Y.H),(Y.c11,aj Y.SD),(Y.H,dO w.params (.type "dict") none iv Y.mh Y.er),(Y.SD,dO w.params (.type "dict") none iv Y.ms Y.se)],post:=λx=>Q x.1/\dk w.params x.2.2.1}
theorem Ee (w:E7) (Y:Lw) (b n g:Nat) (k:List (Nat×Nat)) (Q:MI->Prop) (i:Nat) (lo:List E4) (l:Nat) (m:MI) (d:Nat) (L:dk w.params lo) (x:Nat×Nat) (z:Int) (h:k[i]? =some x) (v s:Int×Nat) (N:look? Y.mh x.1=some v) (M:look? Y.ms x.1=some s) (S:v.1-s.1=z) (T:m.length<=1000) (U:∀(o l u d:Nat),ab (env w) (gP w Y b n g k Q (i+1) [es w.params [110,97,109,101] o (cv x)] l (aw m x.1 x.2 (z,u)) d)):ab (env w) (gP w Y b n g k Q i lo l m d):=by
 intro t I j hE r p s0 Z P F
 have j:t.handled=none:=j.resolve_left (λz=>nomatch z)
 have H:bt (env w) 50 t:=⟨j,r⟩
 have q:=congrArg (λe=>Code.compLoop e 0 (.ref n) (.ref g) (eU (di w.params) (aq w.params Y) b [(⟨⟨[115,108,97,99,107]⟩⟩,Y.c11),(⟨⟨[104,111,117,114,115]⟩⟩,Y.c2)])) (Ec w.params)
 have J:=I.trans q
 have G:=Go.eq (Go.start P) (ic _)
 rw [F1]
 refine vq J (Eb _) (Ed _) (Ea _) λp=> ?_
 refine t8 H (by omega) h [0,0] G (eG rfl) λs1 p A=>⟨_,rfl,λp=> ?_⟩
 have W:ax (env w) (y3 w b lo l x) (tV (assign (fw (di w.params)).target (eU (di w.params) (aq w.params Y) b [(⟨⟨[115,108,97,99,107]⟩⟩,Y.c11),(⟨⟨[104,111,117,114,115]⟩⟩,Y.c2)]) (cv x)>>=λ_=>Iq (mu (di w.params)) (eU (di w.params) (aq w.params Y) b [(⟨⟨[115,108,97,99,107]⟩⟩,Y.c11),(⟨⟨[104,111,117,114,115]⟩⟩,Y.c2)]))):=by
  rcases L with rfl | ⟨o,va,rfl⟩
  .exact aG _ (λ_ f=> .seg 16781313 λO=>f (O 0,l+1) trivial [0] [] [])
  .exact aG _ (λ_ f=> .seg 16781313 λO=>f (o,l) trivial [0] [] [])
 refine l8 [2] W H (by show 5<=50;omega) rfl A (eG rfl) (v0:=λ_=>cv x) (λ_=>rfl) λy s2 p _ B=> ?_
 refine l8 [0,3,3,3,3] (aG _ (λ_ f=> .seg 0x4001004004004001002 λO=> .use _ (cu w Y.H (Fx "dict") none Y.er (x.1) (x.2) Y.mh v N) [3] [] λx2 h2=> .seg 0x5001005005005002004 λO3=> .use _ (cu w Y.SD (Fx "dict") none Y.se (x.1) (x.2) Y.ms s M) [4] [] λx4 h4=> .seg 1 λO5=> .use _ (bx w (v.1) (s.1) (v.2) (s.2) z S) [] [] λX h6=> .seg 0 λO7=>f (X) trivial [] [2,2,2,1,0] []:PP (env w) (y0 w Y b y.1 y.2 x z))) H (by show 40<=50;omega) rfl B (eG rfl) (v0:=λu=> .int z u) (λ_=>rfl) λu s3 p _ C p=> ?_
 refine u7 [7] C (eG rfl) T λd s4 p D=> ?_
 refine ⟨rfl,q8 (U y.1 y.2 u d) q j rfl r [6,6,1,0,0,0,0,0] D (eG rfl) λy V R E=> ?_⟩
 exact F y V R (Go.sub (U:=(gP w Y b n g k Q i lo l m d).res y) (Go.eq E (eK y _).symm)).after
def gO (w:E7) (Y:Lw) (d e b:Nat) (h:List (Nat×Nat)) (Q:MI->Prop) (i:Nat) (lo:List E4) (l:Nat) (m:MI) (f:Nat):af:={d:=50,α:=MI×Nat×List E4×Nat,c:=dE (dh w.params) 0 e b (aq w.params Y) d [(⟨⟨[115,112,97,114,101]⟩⟩,Y.c12),(⟨⟨[108,97,116,101]⟩⟩,Y.c4),(⟨⟨[101,97,114,108,121]⟩⟩,Y.c3)],need:=[(e,aW "list_iterator" Y.hl i),(Y.hl,ae (h.map cv) Y.hn),(d,oD lo l),(b,dO w.params (.type "dict") none iv m f),(Y.c3,aj Y.E),(Y.c4,aj Y.G),(Y.c12,aj Y.Sp),(Y.E,dO w.params (.type "dict") none iv Y.me Y.ee),(Y.G,dO w.params (.type "dict") none iv Y.ml Y.el),(Y.Sp,cO w.params Y.Spd Y.mp Y.spe)],new:=λx=>[(d,oD x.2.2.1 x.2.2.2),(b,dO w.params (.type "dict") none iv x.1 x.2.1),(Y.hl,ae (h.map cv) Y.hn),(Y.c3,aj Y.E),(Y.c4,aj Y.G),(Y.c12,aj Y.Sp),(Y.E,dO w.params (.type "dict") none iv Y.me Y.ee),(Y.G,dO w.params (.type "dict") none iv Y.ml Y.el),(Y.Sp,cO w.params Y.Spd Y.mp Y.spe)],post:=λx=>Q x.1/\dk w.params x.2.2.1}
theorem D7 (w:E7) (Y:Lw) (b n g:Nat) (k:List (Nat×Nat)) (Q:MI->Prop) (i:Nat) (lo:List E4) (l:Nat) (m:MI) (d:Nat) (M:dk w.params lo) (x:Nat×Nat) (z:Int) (h:k[i]? =some x) (v s:Int×Nat) (T:look? Y.me x.1=some v) (S:look? Y.ml x.1=some s) (q:Int) (N:min v.1 s.1=q) (R:q.natAbs< 1000000) (V:q*aa Y.mp x.1=z) (W:m.length<=1000) (X:∀(o l u d:Nat),ab (env w) (gO w Y b n g k Q (i+1) [es w.params [110,97,109,101] o (cv x)] l (aw m x.1 x.2 (z,u)) d)):ab (env w) (gO w Y b n g k Q i lo l m d):=by
 intro A J j hE t p s0 Fk P I
 have j:A.handled=none:=j.resolve_left (λz=>nomatch z)
 have H:bt (env w) 50 A:=⟨j,t⟩
 have r:=congrArg (λe=>Code.compLoop e 0 (.ref n) (.ref g) (eU (dh w.params) (aq w.params Y) b [(⟨⟨[115,112,97,114,101]⟩⟩,Y.c12),(⟨⟨[108,97,116,101]⟩⟩,Y.c4),(⟨⟨[101,97,114,108,121]⟩⟩,Y.c3)])) (D5 w.params)
 have L:=J.trans r
 have G:=Go.eq (Go.start P) (ic _)
 rw [F1]
 refine vq L (D4 _) (D6 _) (D3 _) λp=> ?_
 refine t8 H (by omega) h [0,0] G (eG rfl) λs1 p B=>⟨_,rfl,λp=> ?_⟩
 have tA:ax (env w) (y1 w b lo l x) (tV (assign (fw (dh w.params)).target (eU (dh w.params) (aq w.params Y) b [(⟨⟨[115,112,97,114,101]⟩⟩,Y.c12),(⟨⟨[108,97,116,101]⟩⟩,Y.c4),(⟨⟨[101,97,114,108,121]⟩⟩,Y.c3)]) (cv x)>>=λ_=>Iq (mu (dh w.params)) (eU (dh w.params) (aq w.params Y) b [(⟨⟨[115,112,97,114,101]⟩⟩,Y.c12),(⟨⟨[108,97,116,101]⟩⟩,Y.c4),(⟨⟨[101,97,114,108,121]⟩⟩,Y.c3)]))):=by
  rcases M with rfl | ⟨o,va,rfl⟩
  .exact aG _ (λ_ f=> .seg 16781313 λO=>f (O 0,l+1) trivial [0] [] [])
  .exact aG _ (λ_ f=> .seg 16781313 λO=>f (o,l) trivial [0] [] [])
 refine l8 [2] tA H (by show 5<=50;omega) rfl B (eG rfl) (v0:=λ_=>cv x) (λ_=>rfl) λy s2 p _ C=> ?_
 refine l8 [0,3,3,3,3,3,3] (aG _ (λ_ f=> .seg 0x5001005005005001002000000 λO=> .use _ (cu w Y.E (Fx "dict") none Y.ee (x.1) (x.2) Y.me v T) [4] [] λx2 h2=> .seg 0x6001006006006002004 λO3=> .use _ (cu w Y.G (Fx "dict") none Y.el (x.1) (x.2) Y.ml s S) [5] [] λx4 h4=> .seg 1 λO5=> .use _ (Bp w (v.1) (s.1) (v.2) (s.2) q N) [] [] λx6 h6=> .seg 0x7001000000000007000007000000000007003006 λO7=> .use _ (dF w Y.Sp Y.Spd Y.mp Y.spe (x.1) (x.2)) [6] [] λx8 h8=> .seg 1 λO9=> .use _ (gp w q (aa Y.mp x.1) x6 x8 z R V) [] [] λac io=> .seg 0 λgt=>f (ac) trivial [] [3,3,3,3,2,1,0] []:PP (env w) (yZ w Y b y.1 y.2 x z))) H (by show 40<=50;omega) rfl C (eG rfl) (v0:=λu=> .int z u) (λ_=>rfl) λu s3 p _ D p=> ?_
 refine u7 [9] D (eG rfl) W λd s4 p E=> ?_
 refine ⟨rfl,q8 (X y.1 y.2 u d) r j rfl t [8,8,1,0,0,0,0,0,0,0] E (eG rfl) λy Z U F=> ?_⟩
 exact I y Z U (Go.sub (U:=(gO w Y b n g k Q i lo l m d).res y) (Go.eq F (eK y _).symm)).after
theorem Eg (w:E7) (Y:Lw) (A j y:Nat) (h:List (Nat×Nat)) (Q:MI->Prop) (f:Nat->Int) (I:(ad h).Nodup) (R:h.length<=900) (L:∀x∈h,∃v s:Int×Nat,look? Y.mh x.1=some v/\look? Y.ms x.1=some s/\v.1-s.1=f x.1) (F:∀m,aH m=(ad h).map (λc=>(c,f c))->Q m):∀(r:List (Nat×Nat)) (i:Nat) (lo:List E4) (l:Nat) (m:MI) (b:Nat),h.drop i=r->i<=h.length->dk w.params lo->aH m=((ad h).take i).map (λc=>(c,f c))->ab (env w) (gP w Y A j y h Q i lo l m b):=by
 intro r
 induction r with
 | nil=>
  intro i lo l m b d G o p
  have e:i=h.length:=by have:=congrArg Fl d;rw [G7] at this;simp at this;omega
  have C:Q m:=F m (by rw [p,e,<-eV,GH])
  rcases o with rfl | ⟨k,D,rfl⟩
  .exact ct (λ_ t=> .seg 68736258049 λO=> .use _ (ch w j Y.hl i Y.hn cv h (aV d)) [0,0] [] λP n=> .seg 3 λE=>t (m,b,[],l) ⟨C, .inl rfl⟩ [] [4,4,1,3,3,3,3] [])
  .exact ct (λ_ t=> .seg 68736258049 λO=> .use _ (ch w j Y.hl i Y.hn cv h (aV d)) [0,0] [] λP n=> .seg 3 λE=>t (m,b,[es w.params [110,97,109,101] k D],l) ⟨C, .inr ⟨k,D,rfl⟩⟩ [] [4,4,1,3,3,3,3] [])
 | cons x r N=>
  intro i lo l m b d G o q
  obtain ⟨g,n⟩:=aQ d
  have S:i< h.length:=(E8.mp g).1
  have hk:ak m=(ad h).take i:=ef q
  have H:m.length<=1000:=by have:=congrArg Fl hk;unfold ak at this;rw [Fo,FN,eV] at this;omega
  have B:(ad h)[i]? =some x.1:=by unfold ad;rw [Fi,g];rfl
  obtain ⟨v,s,p,J,M⟩:=L x (Fz g)
  refine Ee w Y A j y h Q i lo l m b o x (f x.1) g v s p J M H λk l u b=> ?_
  refine N (i+1) _ l _ b n (by omega) (.inr ⟨k,_,rfl⟩) ?_
  rw [fi (by rw [hk];exact hY I B),f5 B]
  unfold aH at q⊢
  rw [Fd,Fd,q];rfl
theorem Ef (w:E7) (Y:Lw) (e i d:Nat) (b:List (Nat×Nat)) (f:Nat->Int) (k:(ad b).Nodup) (j:b.length<=900) (n:∀x∈b,∃v s:Int×Nat,look? Y.mh x.1=some v/\look? Y.ms x.1=some s/\v.1-s.1=f x.1) (l g:Nat):ab (env w) {gP w Y e i d b (λm=>aH m=(ad b).map (λc=>(c,f c))) 0 [] l [] g with c:=bB (di w.params) 0 i d (aq w.params Y) e [(⟨⟨[115,108,97,99,107]⟩⟩,Y.c11),(⟨⟨[104,111,117,114,115]⟩⟩,Y.c2)]}:=
 dq gI (o:=aW "list_iterator" Y.hl 0) rfl (by simp [gP]) (by kernel_rfl) (by kernel_rfl) rfl (Eg w Y e i d b _ f k j n (λm h=>h) b 0 [] l [] g rfl (Gg _) (.inl rfl) rfl)
theorem D9 (w:E7) (Y:Lw) (A j y:Nat) (h:List (Nat×Nat)) (Q:MI->Prop) (f:Nat->Int) (I:(ad h).Nodup) (S:h.length<=900) (M:∀x∈h,∃v s:Int×Nat,look? Y.me x.1=some v/\look? Y.ml x.1=some s/\(min v.1 s.1).natAbs< 1000000/\min v.1 s.1*aa Y.mp x.1=f x.1) (F:∀m,aH m=(ad h).map (λc=>(c,f c))->Q m):∀(r:List (Nat×Nat)) (i:Nat) (lo:List E4) (l:Nat) (m:MI) (b:Nat),h.drop i=r->i<=h.length->dk w.params lo->aH m=((ad h).take i).map (λc=>(c,f c))->ab (env w) (gO w Y A j y h Q i lo l m b):=by
 intro r
 induction r with
 | nil=>
  intro i lo l m b d G o p
  have e:i=h.length:=by have:=congrArg Fl d;rw [G7] at this;simp at this;omega
  have C:Q m:=F m (by rw [p,e,<-eV,GH])
  rcases o with rfl | ⟨k,D,rfl⟩
  .exact ct (λ_ t=> .seg 68736258049 λO=> .use _ (ch w j Y.hl i Y.hn cv h (aV d)) [0,0] [] λR n=> .seg 3 λE=>t (m,b,[],l) ⟨C, .inl rfl⟩ [] [4,4,1,3,3,3,3,3,3] [])
  .exact ct (λ_ t=> .seg 68736258049 λO=> .use _ (ch w j Y.hl i Y.hn cv h (aV d)) [0,0] [] λR n=> .seg 3 λE=>t (m,b,[es w.params [110,97,109,101] k D],l) ⟨C, .inr ⟨k,D,rfl⟩⟩ [] [4,4,1,3,3,3,3,3,3] [])
 | cons x r P=>
  intro i lo l m b d G o q
  obtain ⟨g,n⟩:=aQ d
  have T:i< h.length:=(E8.mp g).1
  have hk:ak m=(ad h).take i:=ef q
  have H:m.length<=1000:=by have:=congrArg Fl hk;unfold ak at this;rw [Fo,FN,eV] at this;omega
  have B:(ad h)[i]? =some x.1:=by unfold ad;rw [Fi,g];rfl
  obtain ⟨v,s,p,L,J,N⟩:=M x (Fz g)
  refine D7 w Y A j y h Q i lo l m b o x (f x.1) g v s p L _ rfl J N H λk l u b=> ?_
  refine P (i+1) _ l _ b n (by omega) (.inr ⟨k,_,rfl⟩) ?_
  rw [fi (by rw [hk];exact hY I B),f5 B]
  unfold aH at q⊢
  rw [Fd,Fd,q];rfl
theorem D8 (w:E7) (Y:Lw) (e i d:Nat) (b:List (Nat×Nat)) (f:Nat->Int) (k:(ad b).Nodup) (j:b.length<=900) (n:∀x∈b,∃v s:Int×Nat,look? Y.me x.1=some v/\look? Y.ml x.1=some s/\(min v.1 s.1).natAbs< 1000000/\min v.1 s.1*aa Y.mp x.1=f x.1) (l g:Nat):ab (env w) {gO w Y e i d b (λm=>aH m=(ad b).map (λc=>(c,f c))) 0 [] l [] g with c:=bB (dh w.params) 0 i d (aq w.params Y) e [(⟨⟨[115,112,97,114,101]⟩⟩,Y.c12),(⟨⟨[108,97,116,101]⟩⟩,Y.c4),(⟨⟨[101,97,114,108,121]⟩⟩,Y.c3)]}:=
 dq gI (o:=aW "list_iterator" Y.hl 0) rfl (by simp [gO]) (by kernel_rfl) (by kernel_rfl) rfl (D9 w Y e i d b _ f k j n (λm h=>h) b 0 [] l [] g rfl (Gg _) (.inl rfl) rfl)
def yT (w:E7) (Y:Lw) (s:Nat):af:={d:=60,α:=Nat×Nat,need:=[(Y.c12,aj Y.Sp),(Y.Sp,cO w.params Y.Spd Y.mp Y.spe),(Y.Spd,oD [] s)],r:=λx=> .ok (.ret (.ref x.1)),new:=λx=>[(Y.c12,aj Y.Sp),(Y.Sp,cO w.params Y.Spd Y.mp Y.spe),(Y.Spd,oD [] s),(x.1,dO w.params (.type "dict") none iv Y.mp x.2)]}
def rQ (w:E7) (Y:Lw) (h:List (Nat×Nat)) (f:Nat->Int) (k m:List E4):af:={d:=70,α:=Nat×MI×Nat,need:=[(Y.fr,bz w.params Y Y.lg k ([es w.params [97,104,101,97,100] Y.k9 (.int Y.a Y.ta),es w.params [109,101,101,116,115] Y.k10 (.ref Y.Mt),es w.params [106,111,105,110,115] Y.k11 (.ref Y.Jn)]++(m++[es w.params [104,101,108,100] Y.k12 (.ref Y.hl)])) Y.fe),(Y.hl,ae (h.map cv) Y.hn),(Y.c2,aj Y.H),(Y.c11,aj Y.SD),(Y.H,dO w.params (.type "dict") none iv Y.mh Y.er),(Y.SD,dO w.params (.type "dict") none iv Y.ms Y.se)],r:=λx=> .ok (.ret (.ref x.1)),new:=λx=>[(Y.fr,bz w.params Y Y.lg k ([es w.params [97,104,101,97,100] Y.k9 (.int Y.a Y.ta),es w.params [109,101,101,116,115] Y.k10 (.ref Y.Mt),es w.params [106,111,105,110,115] Y.k11 (.ref Y.Jn)]++(m++[es w.params [104,101,108,100] Y.k12 (.ref Y.hl)])) Y.fe),(Y.hl,ae (h.map cv) Y.hn),(Y.c2,aj Y.H),(Y.c11,aj Y.SD),(Y.H,dO w.params (.type "dict") none iv Y.mh Y.er),(Y.SD,dO w.params (.type "dict") none iv Y.ms Y.se),(x.1,dO w.params (.type "dict") none iv x.2.1 x.2.2)],post:=λx=>aH x.2.1=(ad h).map (λc=>(c,f c))}
theorem zG (w:E7) (Y:Lw) (h:List (Nat×Nat)) (f:Nat->Int) (k d:List E4) (hk:KM w.params k d) (B:(ad h).Nodup) (y:h.length<=900) (D:∀x∈h,∃v s:Int×Nat,look? Y.mh x.1=some v/\look? Y.ms x.1=some s/\v.1-s.1=f x.1):ax (env w) (rQ w Y h f k d) (tV (Iq (dM (bI (aA (aI w.params) 25))) (aq w.params Y))):=by
 let F:∀{w:E7} {k:List E4} {d:List E4} {Y:Lw} {h:List (Nat×Nat)} {f:Nat->Int} (i:∀(g j e o n:Nat),ab (env w) {gP w Y g j e h (λm=>aH m=(ad h).map (λc=>(c,f c))) 0 [] o [] n with c:=bB (di w.params) 0 j e (aq w.params Y) g [(⟨⟨[115,108,97,99,107]⟩⟩,Y.c11),(⟨⟨[104,111,117,114,115]⟩⟩,Y.c2)]}),PP (env w) (rQ w Y h f k d):= @λw k d Y h f i _ r=>
  .seg 0x1001002001002002001 λO=>
  .use _ (i (O 2) (O 0) (O 1) 0 0) [2,3,0,0,1,1,1,1] [] λb p=>have q:(λ(m:MI)=>aH m=Gv (λ(c:Nat)=>(c,f c)) (ad h)) b.1:=(Fv p);have u:dk w.params b.2.2.1:=(Fe p);
  .or _ _ (u)
  (λo3=> .view [0] [] _ _ _ _ ((bC (a:=O 2) (congrArg (λl=>oD l b.2.2.2) o3)))
  (.seg 1 λt=>
  r (O 1,b.1,b.2.1) q [] [7,2,2,2,2,2,1] []))
  (λo3=> .pick _ _ (o3) λH A=>
  .pick _ _ (A) λI C=>
  .view [0] [] _ _ _ _ ((bC (a:=O 2) (congrArg (λl=>oD l b.2.2.2) C)))
  (.seg 16781313 λt=>
  r (O 1,b.1,b.2.1) q [] [7,2,2,2,2,2,1] []))
 have i:=λ(g j e o n:Nat)=>Ef w Y g j e h f B y D o n
 rcases hk with ⟨rfl | ⟨E,G,rfl⟩,rfl⟩ | ⟨rfl,rfl | ⟨E,G,rfl⟩⟩<;>exact aG _ (F i)
def rP (w:E7) (Y:Lw) (h:List (Nat×Nat)) (f:Nat->Int) (k m:List E4):af:={d:=70,α:=Nat×MI×Nat,need:=[(Y.fr,bz w.params Y Y.lg k ([es w.params [97,104,101,97,100] Y.k9 (.int Y.a Y.ta),es w.params [109,101,101,116,115] Y.k10 (.ref Y.Mt),es w.params [106,111,105,110,115] Y.k11 (.ref Y.Jn)]++(m++[es w.params [104,101,108,100] Y.k12 (.ref Y.hl)])) Y.fe),(Y.hl,ae (h.map cv) Y.hn),(Y.c3,aj Y.E),(Y.c4,aj Y.G),(Y.c12,aj Y.Sp),(Y.E,dO w.params (.type "dict") none iv Y.me Y.ee),(Y.G,dO w.params (.type "dict") none iv Y.ml Y.el),(Y.Sp,cO w.params Y.Spd Y.mp Y.spe)],r:=λx=> .ok (.ret (.ref x.1)),new:=λx=>[(Y.fr,bz w.params Y Y.lg k ([es w.params [97,104,101,97,100] Y.k9 (.int Y.a Y.ta),es w.params [109,101,101,116,115] Y.k10 (.ref Y.Mt),es w.params [106,111,105,110,115] Y.k11 (.ref Y.Jn)]++(m++[es w.params [104,101,108,100] Y.k12 (.ref Y.hl)])) Y.fe),(Y.hl,ae (h.map cv) Y.hn),(Y.c3,aj Y.E),(Y.c4,aj Y.G),(Y.c12,aj Y.Sp),(Y.E,dO w.params (.type "dict") none iv Y.me Y.ee),(Y.G,dO w.params (.type "dict") none iv Y.ml Y.el),(Y.Sp,cO w.params Y.Spd Y.mp Y.spe),(x.1,dO w.params (.type "dict") none iv x.2.1 x.2.2)],post:=λx=>aH x.2.1=(ad h).map (λc=>(c,f c))}
theorem zE (w:E7) (Y:Lw) (h:List (Nat×Nat)) (f:Nat->Int) (k d:List E4) (hk:KM w.params k d) (B:(ad h).Nodup) (y:h.length<=900) (D:∀x∈h,∃v s:Int×Nat,look? Y.me x.1=some v/\look? Y.ml x.1=some s/\(min v.1 s.1).natAbs< 1000000/\min v.1 s.1*aa Y.mp x.1=f x.1):ax (env w) (rP w Y h f k d) (tV (Iq (dM (bI (aA (aI w.params) 26))) (aq w.params Y))):=by
 let F:∀{w:E7} {k:List E4} {d:List E4} {Y:Lw} {h:List (Nat×Nat)} {f:Nat->Int} (i:∀(g j e o n:Nat),ab (env w) {gO w Y g j e h (λm=>aH m=(ad h).map (λc=>(c,f c))) 0 [] o [] n with c:=bB (dh w.params) 0 j e (aq w.params Y) g [(⟨⟨[115,112,97,114,101]⟩⟩,Y.c12),(⟨⟨[108,97,116,101]⟩⟩,Y.c4),(⟨⟨[101,97,114,108,121]⟩⟩,Y.c3)]}),PP (env w) (rP w Y h f k d):= @λw k d Y h f i _ r=>
  .seg 0x1001002001002002001 λO=>
  .use _ (i (O 2) (O 0) (O 1) 0 0) [2,3,0,0,1,1,1,1,1,1] [] λb p=>have q:(λ(m:MI)=>aH m=Gv (λ(c:Nat)=>(c,f c)) (ad h)) b.1:=(Fv p);have u:dk w.params b.2.2.1:=(Fe p);
  .or _ _ (u)
  (λo3=> .view [0] [] _ _ _ _ ((bC (a:=O 2) (congrArg (λl=>oD l b.2.2.2) o3)))
  (.seg 1 λt=>
  r (O 1,b.1,b.2.1) q [] [9,2,2,2,2,2,2,2,1] []))
  (λo3=> .pick _ _ (o3) λH A=>
  .pick _ _ (A) λI C=>
  .view [0] [] _ _ _ _ ((bC (a:=O 2) (congrArg (λl=>oD l b.2.2.2) C)))
  (.seg 16781313 λt=>
  r (O 1,b.1,b.2.1) q [] [9,2,2,2,2,2,2,2,1] []))
 have i:=λ(g j e o n:Nat)=>D8 w Y g j e h f B y D o n
 rcases hk with ⟨rfl | ⟨E,G,rfl⟩,rfl⟩ | ⟨rfl,rfl | ⟨E,G,rfl⟩⟩<;>exact aG _ (F i)
def r8 (w:E7) (Y:Lw) (M d b:Nat) (m:MI) (k e:List E4):af:={d:=60,α:=Nat×Nat,need:=[(Y.fr,bz w.params Y Y.lg k ([es w.params [97,104,101,97,100] Y.k9 (.int Y.a Y.ta),es w.params [109,101,101,116,115] Y.k10 (.ref Y.Mt),es w.params [106,111,105,110,115] Y.k11 (.ref Y.Jn)]++(e++[es w.params [104,101,108,100] Y.k12 (.ref Y.hl)])) Y.fe),(Y.Mt,cO w.params M m d),(M,oD [] b)],r:=λx=> .ok (.ret (.ref x.1)),new:=λx=>[(Y.fr,bz w.params Y Y.lg k ([es w.params [97,104,101,97,100] Y.k9 (.int Y.a Y.ta),es w.params [109,101,101,116,115] Y.k10 (.ref Y.Mt),es w.params [106,111,105,110,115] Y.k11 (.ref Y.Jn)]++(e++[es w.params [104,101,108,100] Y.k12 (.ref Y.hl)])) Y.fe),(Y.Mt,cO w.params M m d),(M,oD [] b),(x.1,dO w.params (.type "dict") none iv m x.2)]}
theorem Cb (w:E7) (Y:Lw) (M d b:Nat) (m:MI) (k e:List E4) (hk:KM w.params k e) (h:m.length<=8) (f:(ak m).Nodup):ax (env w) (r8 w Y M d b m k e) (tV (Iq (fR (bI (aA (aI w.params) 26))) (aq w.params Y))):=by
 let p:∀{w:E7} {k:List E4} {e:List E4} {Y:Lw} {M d b:Nat} {m:MI} (h:m.length<=8) (f:(ak m).Nodup),PP (env w) (r8 w Y M d b m k e):= @λw k e Y M d b m h f _ i=>
  .seg 0x1001001001001001001001001000000 λO=>
  .use _ (pj w (O 0) 0 Y.Mt M b m d h f) [0,1,1] [] λx l=>
  .seg 0 λj=>
  i (O 0,x) trivial [] [3,1,1,0] []
 rcases hk with ⟨rfl | ⟨g,v,rfl⟩,rfl⟩ | ⟨rfl,rfl | ⟨g,v,rfl⟩⟩<;>exact aG _ (p h f)
def fD (P:E6) (x:List E4):Prop:=x=[]\/∃k v,x=[es P [97,108,111,110,101] k v]
def fO (w:E7) (Y:Lw) (b k D:Nat) (Q:MI->Prop) (i f t:Nat) (d m e:List E4) (g:Nat) (h:MI) (de:Nat):af:={d:=60,α:=MI×Nat×List E4×Nat×Nat×Nat,c:=bR (aA (aI w.params) 28) (.ref b) (aq w.params Y),need:=[(b,cq Y.cps Y.tN i),(Y.fr,bz w.params Y Y.lg d ([es w.params [97,104,101,97,100] Y.k9 (.int Y.a Y.ta),es w.params [109,101,101,116,115] Y.k10 (.ref Y.Mt),es w.params [106,111,105,110,115] Y.k11 (.ref Y.Jn)]++(m++([es w.params [104,101,108,100] Y.k12 (.ref Y.hl),es w.params [100,117,101] k (.ref D)]++e))) g),(Y.c2,aj Y.H),(Y.c3,aj Y.E),(Y.c4,aj Y.G),(Y.c7,aK (.str ⟨⟨[f]⟩⟩ t)),(Y.c12,aj Y.Sp),(Y.H,dO w.params (.type "dict") none iv Y.mh Y.er),(Y.E,dO w.params (.type "dict") none iv Y.me Y.ee),(Y.G,dO w.params (.type "dict") none iv Y.ml Y.el),(Y.Sp,cO w.params Y.Spd Y.mp Y.spe),(D,dO w.params (.type "dict") none iv h de)],new:=λx=>[(Y.fr,bz w.params Y Y.lg d ([es w.params [97,104,101,97,100] Y.k9 (.int Y.a Y.ta),es w.params [109,101,101,116,115] Y.k10 (.ref Y.Mt),es w.params [106,111,105,110,115] Y.k11 (.ref Y.Jn)]++(m++([es w.params [104,101,108,100] Y.k12 (.ref Y.hl),es w.params [100,117,101] k (.ref D)]++x.2.2.1))) x.2.2.2.1),(Y.c2,aj Y.H),(Y.c3,aj Y.E),(Y.c4,aj Y.G),(Y.c7,aK (.str ⟨⟨[x.2.2.2.2.1]⟩⟩ x.2.2.2.2.2)),(Y.c12,aj Y.Sp),(Y.H,dO w.params (.type "dict") none iv Y.mh Y.er),(Y.E,dO w.params (.type "dict") none iv Y.me Y.ee),(Y.G,dO w.params (.type "dict") none iv Y.ml Y.el),(Y.Sp,cO w.params Y.Spd Y.mp Y.spe),(D,dO w.params (.type "dict") none iv x.1 x.2.1)],post:=λx=>Q x.1/\fD w.params x.2.2.1}
def dU (m:MI) (b:List Nat):List Nat:=b.filter λc=>decide (0< aa m c)
theorem DL (w:E7) (Y:Lw) (b j D:Nat) (Q:MI->Prop) (L M:List E4) (hk:KM w.params L M) (zF:Nat->Int) (Iz:Y.cps.Nodup) (W:Y.cps.length<=10) (hx:∀c∈Y.cps,∃v s u:Int×Nat,look? Y.mh c=some v/\look? Y.me c=some s/\look? Y.ml c=some u/\(max s.1 u.1).natAbs< 1000000/\(s.1+u.1).natAbs< 1000000/\max s.1 u.1*aa Y.mp c+(s.1+u.1)*(v.1-aa Y.mp c)=zF c) (S:∀rw,aH rw=(dU Y.mh Y.cps).map (λc=>(c,zF c))->Q rw):∀(ac:List Nat) (i d t:Nat) (A:List E4) (f:Nat) (m:MI) (de:Nat),Y.cps.drop i=ac->i<=Y.cps.length->fD w.params A->aH m=(dU Y.mh (Y.cps.take i)).map (λc=>(c,zF c))->ab (env w) (fO w Y b j D Q i d t L M A f m de):=by
 let P:∀{w:E7} {lo:List E4} {L:List E4} {M:List E4} {Y:Lw} {b j D:Nat} {Q:MI->Prop} {i d t f:Nat} {m:MI} {de:Nat} (c:Nat) (v s u:Int×Nat) (z:Int) (h:Y.cps[i]? =some c) (e:look? Y.mh c=some v) (p:look? Y.me c=some s) (r:look? Y.ml c=some u) (q:Int) (E:max s.1 u.1=q) (F:q.natAbs< 1000000) (B:(s.1+u.1).natAbs< 1000000) (IA:m.length<=900) (G:q*aa Y.mp c+(s.1+u.1)*(v.1-aa Y.mp c)=z) (I:0< v.1->∀(t f k y de u1 u2:Nat),ab (env w) (fO w Y b j D Q (i+1) c t L M [es w.params [97,108,111,110,101] k (.int (v.1-aa Y.mp c) y)] f (aw m c u1 (z,u2)) de)) (H:¬0< v.1->∀(t:Nat),ab (env w) (fO w Y b j D Q (i+1) c t L M lo f m de)),PP (env w) (fO w Y b j D Q i d t L M lo f m de):= @λw lo L M Y b j D Q i d t f m de c v s u z h e p r q E F B IA G I H _ l=>
  .seg 68736258049 λT=> .use _ (eH w b Y.tN i Y.cps c h) [0] [] λx J=> .seg 0x8001008008008006003006006 λU=> .use _ (cu w Y.H (Fx "dict") none Y.er c x Y.mh v e) [7] [] λx4 h4=> .seg 1 λO5=> .or (0< v.1) (¬(0< v.1)) (FI _) (λX=> .use _ (dx w (v.1) 0 (v.2) (O5 0) X) [] [] λx7 h7=> .seg 0x1001001001001007004 λO8=> .use _ (cu w Y.H (Fx "dict") none Y.er c x Y.mh v e) [0] [] λN W=> .seg 0xb00100000000000b00000b00000000000b007008 λIJ=> .use _ (dF w Y.Sp Y.Spd Y.mp Y.spe c x) [10] [] λIB IX=> .seg 1 λIK=> .use _ (bx w (v.1) (aa Y.mp c) (v.2) IB (v.1-aa Y.mp c) rfl) [] [] λIv IY=> .seg 0xa00100a00a00a008006000000004004 λIx=> .use _ (cu w Y.E (Fx "dict") none Y.ee c x Y.me s p) [9] [] λJi IZ=> .seg 0xb00100b00b00b009008 λIL=> .use _ (cu w Y.G (Fx "dict") none Y.el c x Y.ml u r) [10] [] λJj I0=> .seg 1 λIM=> .use _ (Bv w (s.1) (u.1) (s.2) (u.2) q E) [] [] λIC I3=> .seg 0x300100000000000300000300000000000300a00b λIN=> .use _ (dF w Y.Sp Y.Spd Y.mp Y.spe c x) [2] [] λID I4=> .seg 1 λIP=> .use _ (gp w q (aa Y.mp c) IC ID (q*aa Y.mp c) F rfl) [] [] λIE I5=> .seg 0x300100300300300a008 λIQ=> .use _ (cu w Y.E (Fx "dict") none Y.ee c x Y.me s p) [2] [] λx25 I6=> .seg 0x300100300300300a009 λIR=> .use _ (cu w Y.G (Fx "dict") none Y.el c x Y.ml u r) [2] [] λJk I7=> .seg 1 λIS=> .use _ (b8 w (s.1) (u.1) (s.2) (u.2) (s.1+u.1) rfl) [] [] λIF I8=> .seg 4102 λIT=> .use _ (gp w (s.1+u.1) (v.1-aa Y.mp c) IF Iv ((s.1+u.1)*(v.1-aa Y.mp c)) B rfl) [] [] λIG I9=> .seg 1 λIU=> .use _ (b8 w (q*aa Y.mp c) ((s.1+u.1)*(v.1-aa Y.mp c)) IE IG z G) [] [] λIw Ja=> .seg 0xc00100c00c00a006 λIV=> .use _ (f6 w D none de c x m z Iw (by omega)) [11] [] λII Jb=> .seg 0 λIW=> .use _ (I X x (kE lo f) (kT lo (Ix 0)) Iv II x Iw) [5,5,5,5,5,5,5,4,2,1,1,0] [] λR gt=>have Jc:Q R.1:=(Fv gt);have Je:fD w.params R.2.2.1:=(Fe gt);l (R.1,R.2.1,R.2.2.1,R.2.2.2.1,R.2.2.2.2.1,R.2.2.2.2.2) gt [] [0,0,0,0,0,0,0,0,0,0,0] []) (λX=> .use _ (dy w (v.1) 0 (v.2) (O5 0) X) [] [] λx7 h7=> .seg 0 λO8=> .use _ (H X x) [1,1,1,1,1,1,1,0,0,0,0,0] [] λN W=>have Jf:Q N.1:=(Fv W);have Jg:fD w.params N.2.2.1:=(Fe W);l (N.1,N.2.1,N.2.2.1,N.2.2.2.1,N.2.2.2.2.1,N.2.2.2.2.2) W [] [0,0,0,0,0,0,0,0,0,0,0] [])
 let It:∀{w:E7} {Y:Lw} {b j D:Nat} {Q:MI->Prop} {i d t f:Nat} {m:MI} {de:Nat} (h:Y.cps[i]? =none) (S:Q m),PP (env w) (fO w Y b j D Q i d t [] [] [] f m de):= @λw Y b j D Q i d t f m de h S _ l=>
  .seg 68736258049 λT=>
  .use _ (cJ w b Y.tN i Y.cps h) [0] [] λx J=>
  .seg 2 λU=>
  .seg 1 λV=>
  l (m,de,[],f,d,t) ⟨S, .inl rfl⟩ [] [3,3,3,3,3,3,3,3,3,3,3] []
 let Iu:∀{w:E7} {Y:Lw} {b j D:Nat} {Q:MI->Prop} {i d t f:Nat} {m:MI} {de:Nat} {k:Nat} {g:E9} (h:Y.cps[i]? =none) (S:Q m),PP (env w) (fO w Y b j D Q i d t [] [] [es w.params [97,108,111,110,101] k g] f m de):= @λw Y b j D Q i d t f m de k g h S _ l=>
  .seg 68736258049 λT=>
  .use _ (cJ w b Y.tN i Y.cps h) [0] [] λx J=>
  .seg 2 λU=>
  .seg 1 λV=>
  l (m,de,[es w.params [97,108,111,110,101] k g],f,d,t) ⟨S, .inr ⟨k,g,rfl⟩⟩ [] [3,3,3,3,3,3,3,3,3,3,3] []
 intro ac
 induction ac with
 | nil=>
  intro i d t A f m de C hi n e
  have Iy:i=Y.cps.length:=by have:=congrArg Fl C;rw [G7] at this;simp at this;omega
  rw [Iy,GH] at e
  have E:=S m e
  rcases hk with ⟨rfl | ⟨k4,v4,rfl⟩,rfl⟩ | ⟨rfl,rfl | ⟨k4,v4,rfl⟩⟩
  .rcases n with rfl | ⟨k,g,rfl⟩
   .exact ct (It (aV C) E)
   .exact ct (Iu (aV C) E)
  .rcases n with rfl | ⟨k,g,rfl⟩
   .exact ct (λ_ l=> .seg 68736258049 λT=> .use _ (cJ w b Y.tN i Y.cps (aV C)) [0] [] λx J=> .seg 2 λU=> .seg 1 λV=>l (m,de,[],f,d,t) ⟨E, .inl rfl⟩ [] [3,3,3,3,3,3,3,3,3,3,3] [])
   .exact ct (λ_ l=> .seg 68736258049 λT=> .use _ (cJ w b Y.tN i Y.cps (aV C)) [0] [] λx J=> .seg 2 λU=> .seg 1 λV=>l (m,de,[es w.params [97,108,111,110,101] k g],f,d,t) ⟨E, .inr ⟨k,g,rfl⟩⟩ [] [3,3,3,3,3,3,3,3,3,3,3] [])
  .rcases n with rfl | ⟨k,g,rfl⟩
   .exact ct (It (aV C) E)
   .exact ct (Iu (aV C) E)
  .rcases n with rfl | ⟨k,g,rfl⟩
   .exact ct (λ_ l=> .seg 68736258049 λT=> .use _ (cJ w b Y.tN i Y.cps (aV C)) [0] [] λx J=> .seg 2 λU=> .seg 1 λV=>l (m,de,[],f,d,t) ⟨E, .inl rfl⟩ [] [3,3,3,3,3,3,3,3,3,3,3] [])
   .exact ct (λ_ l=> .seg 68736258049 λT=> .use _ (cJ w b Y.tN i Y.cps (aV C)) [0] [] λx J=> .seg 2 λU=> .seg 1 λV=>l (m,de,[es w.params [97,108,111,110,101] k g],f,d,t) ⟨E, .inr ⟨k,g,rfl⟩⟩ [] [3,3,3,3,3,3,3,3,3,3,3] [])
 | cons c ac ih=>
  intro i d t A f m de C hi n Z
  obtain ⟨o,J⟩:=aQ C
  have Jh:i< Y.cps.length:=(E8.mp o).1
  have io:ak m=dU Y.mh (Y.cps.take i):=ef Z
  have O:m.length<=900:=by
   have:=congrArg Fl io
   unfold ak dU at this
   rw [Fo] at this
   have h3:=List.length_filter_le (λc=>decide (0< aa Y.mh c)) (Y.cps.take i)
   rw [FN] at h3
   omega
  obtain ⟨v,s,u,e,p,r,F,B,G⟩:=hx c (Fz o)
  have gv:aa Y.mh c=v.1:=by unfold aa;rw [e];rfl
  have nk:c∉ak m:=by
   rw [io]
   exact λz=>hY Iz o (Ia.mp z).1
  have tk:dU Y.mh (Y.cps.take (i+1))=dU Y.mh (Y.cps.take i)++(if 0< v.1 then [c] else []):=by
   unfold dU
   rw [f5 o,List.filter_append,GI,gv]
   by_cases q:0< v.1
   .rw [if_pos (by simpa using q),if_pos q];rfl
   .rw [if_neg (by simpa using q),if_neg q];rfl
  have I:0< v.1->∀(A:List E4) (n:fD w.params A) (t f de u1 u2:Nat),ab (env w) (fO w Y b j D Q (i+1) c t L M A f (aw m c u1 (zF c,u2)) de):=λq A n t f de u1 u2=>ih (i+1) c t A f _ de J (by omega) n (by
   rw [fi nk,tk,if_pos q]
   unfold aH at Z⊢
   rw [Fd,Fd,Z];rfl)
  have H:¬0< v.1->∀(t:Nat),ab (env w) (fO w Y b j D Q (i+1) c t L M A f m de):=λq t=>ih (i+1) c t A f _ de J (by omega) n (by
   rw [tk,if_neg q,FJ];exact Z)
  rcases hk with ⟨rfl | ⟨k4,v4,rfl⟩,rfl⟩ | ⟨rfl,rfl | ⟨k4,v4,rfl⟩⟩
  .rcases n with rfl | ⟨k,g,rfl⟩
   .exact av (P c v s u (zF c) o e p r _ rfl F B O G (λq t f k y de u1 u2=>I q _ (.inr ⟨k,_,rfl⟩) t f de u1 u2) H)
   .exact av (P c v s u (zF c) o e p r _ rfl F B O G (λq t f k y de u1 u2=>I q _ (.inr ⟨k,_,rfl⟩) t f de u1 u2) H)
  .rcases n with rfl | ⟨k,g,rfl⟩
   .exact av (P c v s u (zF c) o e p r _ rfl F B O G (λq t f k y de u1 u2=>I q _ (.inr ⟨k,_,rfl⟩) t f de u1 u2) H)
   .exact av (P c v s u (zF c) o e p r _ rfl F B O G (λq t f k y de u1 u2=>I q _ (.inr ⟨k,_,rfl⟩) t f de u1 u2) H)
  .rcases n with rfl | ⟨k,g,rfl⟩
   .exact av (P c v s u (zF c) o e p r _ rfl F B O G (λq t f k y de u1 u2=>I q _ (.inr ⟨k,_,rfl⟩) t f de u1 u2) H)
   .exact av (P c v s u (zF c) o e p r _ rfl F B O G (λq t f k y de u1 u2=>I q _ (.inr ⟨k,_,rfl⟩) t f de u1 u2) H)
  .rcases n with rfl | ⟨k,g,rfl⟩
   .exact av (P c v s u (zF c) o e p r _ rfl F B O G (λq t f k y de u1 u2=>I q _ (.inr ⟨k,_,rfl⟩) t f de u1 u2) H)
   .exact av (P c v s u (zF c) o e p r _ rfl F B O G (λq t f k y de u1 u2=>I q _ (.inr ⟨k,_,rfl⟩) t f de u1 u2) H)
def rJ (w:E7) (Y:Lw) (zF:Nat->Int) (b t:Nat) (k m:List E4) (f:Nat):af:={d:=75,α:=MI×Nat×List E4×Nat×Nat×Nat×Nat×Nat,c:= .block (((aI w.params).drop 27).take 2) (aq w.params Y),need:=[(Y.fr,bz w.params Y Y.lg k ([es w.params [97,104,101,97,100] Y.k9 (.int Y.a Y.ta),es w.params [109,101,101,116,115] Y.k10 (.ref Y.Mt),es w.params [106,111,105,110,115] Y.k11 (.ref Y.Jn)]++(m++[es w.params [104,101,108,100] Y.k12 (.ref Y.hl)])) f),(Y.c1,aK (.str ⟨⟨Y.cps⟩⟩ Y.tN)),(Y.c2,aj Y.H),(Y.c3,aj Y.E),(Y.c4,aj Y.G),(Y.c7,aK (.str ⟨⟨[b]⟩⟩ t)),(Y.c12,aj Y.Sp),(Y.H,dO w.params (.type "dict") none iv Y.mh Y.er),(Y.E,dO w.params (.type "dict") none iv Y.me Y.ee),(Y.G,dO w.params (.type "dict") none iv Y.ml Y.el),(Y.Sp,cO w.params Y.Spd Y.mp Y.spe)],new:=λx=>[(Y.fr,bz w.params Y Y.lg k ([es w.params [97,104,101,97,100] Y.k9 (.int Y.a Y.ta),es w.params [109,101,101,116,115] Y.k10 (.ref Y.Mt),es w.params [106,111,105,110,115] Y.k11 (.ref Y.Jn)]++(m++([es w.params [104,101,108,100] Y.k12 (.ref Y.hl),es w.params [100,117,101] x.2.2.2.2.2.2.1 (.ref x.2.2.2.2.2.2.2)]++x.2.2.1))) x.2.2.2.1),(Y.c1,aK (.str ⟨⟨Y.cps⟩⟩ Y.tN)),(Y.c2,aj Y.H),(Y.c3,aj Y.E),(Y.c4,aj Y.G),(Y.c7,aK (.str ⟨⟨[x.2.2.2.2.1]⟩⟩ x.2.2.2.2.2.1)),(Y.c12,aj Y.Sp),(Y.H,dO w.params (.type "dict") none iv Y.mh Y.er),(Y.E,dO w.params (.type "dict") none iv Y.me Y.ee),(Y.G,dO w.params (.type "dict") none iv Y.ml Y.el),(Y.Sp,cO w.params Y.Spd Y.mp Y.spe),(x.2.2.2.2.2.2.2,dO w.params (.type "dict") none iv x.1 x.2.1)],post:=λx=>aH x.1=(dU Y.mh Y.cps).map (λc=>(c,zF c))/\fD w.params x.2.2.1}
theorem zl (w:E7) (Y:Lw) (zF:Nat->Int) (d t:Nat) (k b:List E4) (hk:KM w.params k b) (f:Nat) (e:∀c∈Y.cps,c< 128) (o:Y.cps.Nodup) (n:Y.cps.length<=10) (p:∀c∈Y.cps,∃v s u:Int×Nat,look? Y.mh c=some v/\look? Y.me c=some s/\look? Y.ml c=some u/\(max s.1 u.1).natAbs< 1000000/\(s.1+u.1).natAbs< 1000000/\max s.1 u.1*aa Y.mp c+(s.1+u.1)*(v.1-aa Y.mp c)=zF c):ax (env w) (rJ w Y zF d t k b f) (Dn (.block (((aI w.params).drop 27).take 2) (aq w.params Y))):=by
 let r:∀{w:E7} {k:List E4} {b:List E4} {Y:Lw} {zF:Nat->Int} {d t:Nat} {f:Nat} (e:∀c∈Y.cps,c< 128) (g:∀(j l D f de:Nat),ab (env w) (fO w Y j l D (λm=>aH m=(dU Y.mh Y.cps).map (λc=>(c,zF c))) 0 d t k b [] f [] de)),PP (env w) (rJ w Y zF d t k b f):= @λw k b Y zF d t f e g _ B=>
  .seg 68769816578 λO=>
  .use _ (fL w Y.cps Y.tN e) [] [] λA F=>
  .seg 1 λC=>
  .use _ (g A (O 1) (O 0) (f+1) 0) [0,1,2,2,2,2,2,2,2,2,2,0] [] λx i=>have G:(λ(m:MI)=>aH m=Gv (λ(c:Nat)=>(c,zF c)) (dU Y.mh Y.cps)) x.1:=(Fv i);have H:fD w.params x.2.2.1:=(Fe i);
  .seg 0 λE=>
  B (x.1,x.2.1,x.2.2.1,x.2.2.2.1,x.2.2.2.2.1,x.2.2.2.2.2,O 1,O 0) i [] [0,10,0,0,0,0,0,0,0,0,0,0] []
 have g:=λ(j l D f de:Nat)=>DL w Y j l D _ k b hk zF o n p (λm h=>h) Y.cps 0 d t [] f [] de rfl (Gg _) (.inl rfl) rfl
 rcases hk with ⟨rfl | ⟨q,y,rfl⟩,rfl⟩ | ⟨rfl,rfl | ⟨q,y,rfl⟩⟩<;>exact aG _ (r e g)
def r6 (w:E7) (Y:Lw) (k D J e d:Nat) (j:MI) (f m b:List E4):af:={d:=60,α:=Nat×Nat,need:=[(Y.fr,bz w.params Y Y.lg f ([es w.params [97,104,101,97,100] Y.k9 (.int Y.a Y.ta),es w.params [109,101,101,116,115] Y.k10 (.ref Y.Mt),es w.params [106,111,105,110,115] Y.k11 (.ref Y.Jn)]++(m++([es w.params [104,101,108,100] Y.k12 (.ref Y.hl),es w.params [100,117,101] k (.ref D)]++b))) Y.fe),(Y.Jn,cO w.params J j e),(J,oD [] d)],r:=λx=> .ok (.ret (.ref x.1)),new:=λx=>[(Y.fr,bz w.params Y Y.lg f ([es w.params [97,104,101,97,100] Y.k9 (.int Y.a Y.ta),es w.params [109,101,101,116,115] Y.k10 (.ref Y.Mt),es w.params [106,111,105,110,115] Y.k11 (.ref Y.Jn)]++(m++([es w.params [104,101,108,100] Y.k12 (.ref Y.hl),es w.params [100,117,101] k (.ref D)]++b))) Y.fe),(Y.Jn,cO w.params J j e),(J,oD [] d),(x.1,dO w.params (.type "dict") none iv j x.2)]}
def rO (w:E7) (Y:Lw) (k D J e j:Nat) (f:MI) (d m b:List E4):af:={d:=60,α:=Unit,need:=[(Y.fr,bz w.params Y Y.lg d ([es w.params [97,104,101,97,100] Y.k9 (.int Y.a Y.ta),es w.params [109,101,101,116,115] Y.k10 (.ref Y.Mt),es w.params [106,111,105,110,115] Y.k11 (.ref Y.Jn)]++(m++([es w.params [104,101,108,100] Y.k12 (.ref Y.hl),es w.params [100,117,101] k (.ref D)]++b))) Y.fe)],r:=λx=> .ok (.ret (.ref D)),new:=λx=>[(Y.fr,bz w.params Y Y.lg d ([es w.params [97,104,101,97,100] Y.k9 (.int Y.a Y.ta),es w.params [109,101,101,116,115] Y.k10 (.ref Y.Mt),es w.params [106,111,105,110,115] Y.k11 (.ref Y.Jn)]++(m++([es w.params [104,101,108,100] Y.k12 (.ref Y.hl),es w.params [100,117,101] k (.ref D)]++b))) Y.fe)]}
theorem Ca (w:E7) (Y:Lw) (i D J f e:Nat) (j:MI) (k m d:List E4) (hk:KM w.params k m) (g:fD w.params d) (h:j.length<=8) (b:(ak j).Nodup):ax (env w) (r6 w Y i D J f e j k m d) (tV (Iq (fR (bI (aA (aI w.params) 29))) (aq w.params Y))):=by
 let p:∀{w:E7} {k:List E4} {m:List E4} {d:List E4} {Y:Lw} {i D J f e:Nat} {j:MI} (h:j.length<=8) (b:(ak j).Nodup),PP (env w) (r6 w Y i D J f e j k m d):= @λw k m d Y i D J f e j h b _ q=>
  .seg 0x1001001001001001001001001000000 λO=>
  .use _ (pj w (O 0) 0 Y.Jn J e j f h b) [0,1,1] [] λx s=>
  .seg 0 λr=>
  q (O 0,x) trivial [] [3,1,1,0] []
 rcases hk with ⟨rfl | ⟨n,o,rfl⟩,rfl⟩ | ⟨rfl,rfl | ⟨n,o,rfl⟩⟩
 .rcases g with rfl | ⟨l,v,rfl⟩
  .exact aG _ (p h b)
  .exact aG _ (p h b)
 .rcases g with rfl | ⟨l,v,rfl⟩
  .exact aG _ (p h b)
  .exact aG _ (p h b)
 .rcases g with rfl | ⟨l,v,rfl⟩
  .exact aG _ (p h b)
  .exact aG _ (p h b)
 .rcases g with rfl | ⟨l,v,rfl⟩
  .exact aG _ (p h b)
  .exact aG _ (p h b)
theorem zD (w:E7) (Y:Lw) (f D J d j:Nat) (e:MI) (k m b:List E4) (hk:KM w.params k m) (h:fD w.params b):ax (env w) (rO w Y f D J d j e k m b) (tV (Iq (dM (bI (aA (aI w.params) 29))) (aq w.params Y))):=by
 let p:∀{w:E7} {k:List E4} {m:List E4} {b:List E4} {Y:Lw} {f D J d j:Nat} {e:MI},PP (env w) (rO w Y f D J d j e k m b):= @λw k m b Y f D J d j e _ n=>
  .seg 1 λO=>
  n () trivial [] [0] []
 rcases hk with ⟨rfl | ⟨i,l,rfl⟩,rfl⟩ | ⟨rfl,rfl | ⟨i,l,rfl⟩⟩
 .rcases h with rfl | ⟨g,v,rfl⟩
  .exact aG _ (p)
  .exact aG _ (p)
 .rcases h with rfl | ⟨g,v,rfl⟩
  .exact aG _ (p)
  .exact aG _ (p)
 .rcases h with rfl | ⟨g,v,rfl⟩
  .exact aG _ (p)
  .exact aG _ (p)
 .rcases h with rfl | ⟨g,v,rfl⟩
  .exact aG _ (p)
  .exact aG _ (p)
def b6 (pre:Nat->List Nat):List Nat->Prop
 | []=>True
 | [_]=>True
 | c::d::y=>d∈pre c/\b6 pre (d::y)
def wt (h:Nat->Int) (x:List Nat):Int:=(x.map h).sum
section
variable {cps:List Nat} {pre:Nat->List Nat} {h:Nat->Int}
theorem mK (c:Nat) (y:List Nat):wt h (c::y)=h c+wt h y:=rfl
theorem im (v y:List Nat):wt h (v++y)=wt h v+wt h y:=by
 unfold wt;rw [Fd,List.sum_append]
theorem il (y:List Nat):wt h y.reverse=wt h y:=by
 induction y with
 | nil=>rfl
 | cons c y i=>rw [List.reverse_cons,im,i];show wt h y+(h c+0)=h c+wt h y;omega
theorem sI {c:Nat} {y:List Nat} (q:b6 pre (c::y)):b6 pre y:=by
 cases y with
 | nil=>trivial
 | cons d y=>exact q.2
theorem iQ:∀{v:List Nat} {c:Nat} {y:List Nat},b6 pre (v++c::y)<->b6 pre (v++[c])/\b6 pre (c::y)
 | [],c,y=>⟨λq=>⟨trivial,q⟩,λq=>q.2⟩
 | [a],c,y=>⟨λq=>⟨⟨q.1,trivial⟩,q.2⟩,λq=>⟨q.1.1,q.2⟩⟩
 | a::b::v,c,y=>by
  have i:=iQ (v:=b::v) (c:=c) (y:=y)
  exact ⟨λq=>⟨⟨q.1,(i.mp q.2).1⟩,(i.mp q.2).2⟩,λq=>⟨q.1.1,i.mpr ⟨q.1.2,q.2⟩⟩⟩
theorem jE (g:cH cps pre h):∀{y:List Nat} {c:Nat},b6 pre (c::y)->(∀e∈c::y,e∈cps)->wt h (c::y)<=Fn cps pre h c
 | [],c,_,b=>by
  have:=d9 g (b c EZ)
  have:=fW (cps:=cps) (pre:=pre) (h:=h) c
  show h c+0<=_
  omega
 | d::y,c,q,b=>by
  have i:=jE g q.2 λe f=>b e (E2 _ f)
  have:=kY (cps:=cps) (h:=h) c q.1
  have:=d9 g (b c EZ)
  rw [mK];omega
theorem lf (g:cH cps pre h):∀c∈cps,∃y,b6 pre (c::y)/\(∀e∈c::y,e∈cps)/\wt h (c::y)=Fn cps pre h c:=by
 have o:=iT g (P:=λc=>c∈cps->∃y,b6 pre (c::y)/\(∀e∈c::y,e∈cps)/\wt h (c::y)=Fn cps pre h c) λc b n p=>by
  have e:=d9 g b
  rcases i5 (l:=(pre c).map (Fn cps pre h)) with q | q
  .exact ⟨[],trivial,λx i=>(Gb.mp i)▸b,by
    rw [e];show h c+0=h c+mx _
    rw [q]⟩
  .obtain ⟨d,f,m⟩:=Gj.mp q
   obtain ⟨y,j,k,l⟩:=n d f (g.ord c b d f).1
   refine ⟨d::y,⟨f,j⟩,λx i=>(GP.mp i).elim (λz=>z▸b) (k x), ?_⟩
   rw [mK,l,e,m];rfl
 exact λc b=>o c b b
structure fU (cps:List Nat) (pre pre2:Nat->List Nat) (h:Nat->Int):Prop where
 g:cH cps pre h
 g2:cH cps.reverse pre2 h
 eq:∀c∈cps,∀d,d∈pre2 c<->d∈cps/\c∈pre d
variable {pre2:Nat->List Nat}
theorem pO (T:fU cps pre pre2 h):∀(n:Nat) {v:List Nat} {c:Nat} {y:List Nat},v.length=n->b6 pre (v++c::y)->(∀e∈v++c::y,e∈cps)->wt h v<=An cps.reverse pre2 h c
 | 0,v,c,y,f,q,b=>by
  rw [GJ.mp f]
  exact fW c
 | n+1,v,c,y,f,q,b=>by
  obtain ⟨g,d,rfl⟩:∃g d,v=g++[d]:=⟨v.dropLast,v.getLast (λz=>by rw [z] at f;cases f),(List.dropLast_concat_getLast _).symm⟩
  rw [Fm] at q b
  have q:b6 pre (g++d::c::y):=q
  have b:∀e∈g++d::c::y,e∈cps:=b
  have o:=pO T n (v:=g) (c:=d) (y:=c::y) (by simpa using f) q b
  have i:d∈cps:=b d (by simp)
  have j:c∈cps:=b c (by simp)
  have k:c∈pre d:=(iQ.mp q).2.1
  have l:=kY (cps:=cps.reverse) (h:=h) c ((T.eq c j d).mpr ⟨i,k⟩)
  have m:=d9 T.g2 (Gl.mpr i)
  rw [im]
  show _+(h d+0)<=_
  omega
theorem EM (T:fU cps pre pre2 h):∀c∈cps,∃v,b6 pre (v++[c])/\(∀e∈v,e∈cps)/\wt h v=An cps.reverse pre2 h c:=by
 have r:=iT T.g2 (P:=λc=>c∈cps->∃v,b6 pre (v++[c])/\(∀e∈v,e∈cps)/\wt h v=An cps.reverse pre2 h c) λc b p l=>by
  rcases i5 (l:=(pre2 c).map (Fn cps.reverse pre2 h)) with q | q
  .exact ⟨[],trivial,λ_ z=>(nomatch z),q.symm⟩
  .obtain ⟨d,g,n⟩:=Gj.mp q
   obtain ⟨f,m⟩:=(T.eq c l d).mp g
   obtain ⟨v,i,j,k⟩:=p d g f
   refine ⟨v++[d], ?_,λx o=>(GB.mp o).elim (j x) (λz=>(Gb.mp z)▸f), ?_⟩
   .rw [Fm]
    exact iQ.mpr ⟨i,m,trivial⟩
   .rw [im,k]
    have e:=d9 T.g2 (Gl.mpr f)
    have s:An cps.reverse pre2 h c=Fn cps.reverse pre2 h d:=n.symm
    show _+(h d+0)=_
    omega
 exact λc b=>r c (Gl.mpr b) b
theorem xt (T:fU cps pre pre2 h) {r:List Nat} {c:Nat} (q:b6 pre r) (b:∀e∈r,e∈cps) (d:c∈r):wt h r<=Fn cps pre h c+An cps.reverse pre2 h c:=by
 obtain ⟨v,y,rfl⟩:=Hs d
 have g:=pO T _ rfl q b
 have i:=jE T.g (iQ.mp q).2 λe f=>b e (FF _ f)
 rw [im];omega
theorem qH (T:fU cps pre pre2 h) {c:Nat} (b:c∈cps):∃r,b6 pre r/\(∀e∈r,e∈cps)/\c∈r/\wt h r=Fn cps pre h c+An cps.reverse pre2 h c:=by
 obtain ⟨v,d,f,g⟩:=EM T c b
 obtain ⟨y,k,j,l⟩:=lf T.g c b
 refine ⟨v++c::y,iQ.mpr ⟨d,k⟩,λe i=>(GB.mp i).elim (f e) (j e),by simp, ?_⟩
 rw [im,g,l];omega
end
section
variable {N:List NL} {cps:List Nat} {h:Nat->Int}
theorem Br {W:List (List Nat)} {c:Nat} {x:List Nat}:x∈fu N W c<->x∈W\/∃y∈W,fI (ad (au N c)) y=true/\x=y++[c]:=by
 unfold fu dl
 rw [GB,Gj]
 constructor
 .rintro (q | ⟨y,b,rfl⟩)
  .exact .inl q
  .exact .inr ⟨y,(Ia.mp b).1,(Ia.mp b).2,rfl⟩
 .rintro (q | ⟨y,b,hk,rfl⟩)
  .exact .inl q
  .exact .inr ⟨y,Ia.mpr ⟨b,hk⟩,rfl⟩
theorem p9 {p y:List Nat}:fI p y=true<->∀d z,y.reverse=d::z->d∈p:=by
 unfold fI
 rw [<-List.head?_reverse]
 cases y.reverse with
 | nil=>simp
 | cons d z=>simp
theorem sK {pre:Nat->List Nat} {c:Nat} {y:List Nat}:b6 pre (c::y)<->b6 pre y/\∀d z,y=d::z->d∈pre c:=by
 cases y with
 | nil=>exact ⟨λ_=>⟨trivial,λ_ _ z=>(nomatch z)⟩,λ_=>trivial⟩
 | cons d z=>exact ⟨λq=>⟨q.2,λb f e=>by cases e;exact q.1⟩,λq=>⟨q.2 d z rfl,q.1⟩⟩
theorem tM (g:cH cps (λc=>ad (au N c)) h):∀(i:Nat),i<=cps.length->∀x,x∈cb N (cps.take i)<->b6 (λc=>ad (au N c)) x.reverse/\∀e∈x,e∈cps.take i
 | 0,_,x=>by
  show x∈[[]]<->_
  rw [Gb]
  constructor
  .rintro rfl;exact ⟨trivial,λ_ z=>(nomatch z)⟩
  .rintro ⟨_,q⟩
   exact List.eq_nil_iff_forall_not_mem.mpr λe f=>nomatch q e f
 | i+1,T,x=>by
  have n:=tM g i (by omega)
  obtain ⟨c,m⟩:∃c,cps[i]? =some c:=⟨_,Ff (by omega)⟩
  have C:c∈cps:=Fz m
  have O:=hY g.nd m
  rw [f5 m]
  have e:cb N (cps.take i++[c])=fu N (cb N (cps.take i)) c:=by
   unfold cb;rw [List.foldl_append];rfl
  rw [e,Br]
  have u:∀d,d∈ad (au N c)->d∈cps.take i:=λd l=>by
   obtain ⟨o,A⟩:=g.ord c C d l
   have U:cps.idxOf c=i:=by
    obtain ⟨s,j⟩:=E8.mp m
    rw [<-j];exact g.nd.idxOf_getElem i s
   have p:=Gr o
   have B:cps[cps.idxOf d]=d:=List.getElem_idxOf p
   exact Is.mpr ⟨cps.idxOf d,by rw [FN];omega,by rw [GM];exact B⟩
  constructor
  .rintro (q | ⟨y,Q,hk,rfl⟩)
   .obtain ⟨a,b⟩:=(n x).mp q
    exact ⟨a,λe f=>F3 _ (b e f)⟩
   .obtain ⟨a,b⟩:=(n y).mp Q
    rw [List.reverse_append]
    refine ⟨sK.mpr ⟨a,λd z e=>p9.mp hk d z e⟩,λe f=> ?_⟩
    rcases GB.mp f with q | q
    .exact F3 _ (b e q)
    .exact FF _ q
  .rintro ⟨a,b⟩
   by_cases E:c∈x
   .right
    obtain ⟨v,y,t⟩:=Hs (Gl.mpr E)
    rw [t] at a
    have P:v=[]:=by
     rcases List.eq_nil_or_concat v with q | ⟨S,d,rfl⟩
     .exact q
     .exfalso
      rw [List.concat_eq_append,Fm] at a
      have a:b6 _ (S++d::c::y):=a
      have r:c∈ad (au N d):=(iQ.mp a).2.1
      have l:d∈cps.take i++[c]:=b d (Gl.mp (by rw [t];simp))
      rcases GB.mp l with q | q
      .have M:d∈cps:=List.mem_of_mem_take q
       obtain ⟨_,A⟩:=g.ord d M c r
       obtain ⟨k,hk,j⟩:=Is.mp q
       rw [FN] at hk
       rw [GM] at j
       have p:cps.idxOf d=k:=by rw [<-j];exact g.nd.idxOf_getElem k (by omega)
       have B:cps.idxOf c=i:=by
        obtain ⟨s,G⟩:=E8.mp m
        rw [<-G];exact g.nd.idxOf_getElem i s
       omega
      .rw [Gb.mp q] at r
       exact O (u c r)
    subst P
    have a:b6 _ (c::y):=a
    have F:x=y.reverse++[c]:=by
     have:=congrArg HG t
     rw [GG] at this
     rw [this];simp
    have J:∀e∈y,e∈cps.take i:=by
     have:∀{y:List Nat} {c:Nat},b6 (λc=>ad (au N c)) (c::y)->(∀e∈y,e∈cps)->(∀d,d∈ad (au N c)->d∈cps.take i)->∀e∈y,e∈cps.take i:=by
      intro y
      induction y with
      | nil=>intro _ _ _ _ e f;cases f
      | cons d y R=>
       intro c q D I e f
       have l:=I d q.1
       rcases GP.mp f with rfl | f
       .exact l
       .refine R q.2 (λe f=>D e (E2 _ f)) (λw L=> ?_) e f
        obtain ⟨o,A⟩:=g.ord d (D d EZ) w L
        obtain ⟨k,hk,j⟩:=Is.mp l
        rw [FN] at hk
        rw [GM] at j
        have p:cps.idxOf d=k:=by rw [<-j];exact g.nd.idxOf_getElem k (by omega)
        have H:=Gr o
        exact Is.mpr ⟨cps.idxOf w,by rw [FN];omega,by rw [GM];exact List.getElem_idxOf H⟩
     refine this a (λe f=> ?_) u
     have:e∈x:=by rw [F];simp [f]
     rcases GB.mp (b e this) with q | q
     .exact List.mem_of_mem_take q
     .rw [Gb.mp q];exact C
    refine ⟨y.reverse,(n _).mpr ⟨?_,λe f=>J e (Gl.mp f)⟩,p9.mpr λd z e=> ?_,F⟩
    .rw [GG];exact sI a
    .rw [GG] at e
     exact (sK.mp a).2 d z e
   .left
    refine (n x).mpr ⟨a,λe f=> ?_⟩
    rcases GB.mp (b e f) with q | q
    .exact q
    .rw [Gb.mp q] at f;exact absurd f E
end
theorem gJ {p:List Nat->Bool} {f:List Nat->Int} {v:Int}:∀{W:List (List Nat)},v∈bT p W (W.map f)<->∃x∈W,p x=true/\v=f x
 | []=>⟨λq=>(nomatch q),λ⟨_,q,_⟩=>(nomatch q)⟩
 | x::W=>by
  have i:=gJ (p:=p) (f:=f) (v:=v) (W:=W)
  rw [Fu,nl]
  constructor
  .intro q
   by_cases hp:p x=true
   .rw [if_pos hp] at q
    rcases GP.mp q with rfl | q
    .exact ⟨x,EZ,hp,rfl⟩
    .obtain ⟨y,h,b⟩:=i.mp q
     exact ⟨y,E2 _ h,b⟩
   .rw [if_neg hp] at q
    obtain ⟨y,h,b⟩:=i.mp q
    exact ⟨y,E2 _ h,b⟩
  .rintro ⟨y,h,b,rfl⟩
   rcases GP.mp h with rfl | h
   .rw [if_pos b];exact EZ
   .have:=i.mpr ⟨y,h,b,rfl⟩
    split
    .exact E2 _ this
    .exact this
theorem oG {o:List (Int×Nat)} {l:List Int} {M:Int} (e:o.map (λx=>x.1)=l) (d:∀x∈l,0<=x) (f:∀x∈l,x<=M) (h:M∈l):o≠[]/\cU o=M:=by
 refine ⟨λz=> ?_, ?_⟩
 .rw [z] at e;rw [<-e] at h;cases h
 .rw [Bu (λx g=>d _ (by rw [<-e];exact Fa g)),e]
  have a:=gh h
  have b:=fQ f (d M h)
  omega
section
variable {N:List NL} {cps:List Nat} {h:Nat->Int} {pre2:Nat->List Nat}
theorem lb (g:cH cps (λc=>ad (au N c)) h):∀{x:List Nat},(∀e∈x,e∈cps)->0<=wt h x
 | [],_=>Int.le_refl _
 | c::x,q=>by
  have:=lb g (x:=x) λe b=>q e (E2 _ b)
  have:=g.pos c (q c EZ)
  rw [mK];omega
theorem eB (g:cH cps (λc=>ad (au N c)) h) (x:List Nat):x∈cb N cps<->b6 (λc=>ad (au N c)) x.reverse/\∀e∈x,e∈cps:=by
 have:=tM g cps.length (FM _) x
 rwa [GH] at this
theorem EK (g:cH cps (λc=>ad (au N c)) h) (o:List (Int×Nat)) (e:o.map (λx=>x.1)=(cb N cps).map (wt h)):o≠[]/\cU o=mx (cps.map (Fn cps (λc=>ad (au N c)) h)):=by
 refine oG e (λv f=> ?_) (λv f=> ?_) ?_
 .obtain ⟨x,i,rfl⟩:=Gj.mp f
  exact lb g ((eB g x).mp i).2
 .obtain ⟨x,i,rfl⟩:=Gj.mp f
  obtain ⟨a,b⟩:=(eB g x).mp i
  rw [<-il]
  cases k:x.reverse with
  | nil=>exact gV _
  | cons c y=>
   rw [k] at a
   have j:∀e∈c::y,e∈cps:=λe d=>b e (Gl.mp (by rw [k];exact d))
   exact Int.le_trans (jE g a j) (gh (Fa (j c EZ)))
 .rcases i5 (l:=cps.map (Fn cps (λc=>ad (au N c)) h)) with q | q
  .rw [q]
   exact Gj.mpr ⟨[],(eB g []).mpr ⟨trivial,λ_ z=>(nomatch z)⟩,rfl⟩
  .obtain ⟨c,p,r⟩:=Gj.mp q
   obtain ⟨y,l,m,n⟩:=lf g c p
   rw [<-r,<-n]
   refine Gj.mpr ⟨(c::y).reverse,(eB g _).mpr ⟨by rw [GG];exact l,λe d=>m e (Gl.mp d)⟩,il _⟩
theorem rp {c:Nat} {x:List Nat}:dL c x=true<->∃y,x.reverse=c::y:=by
 unfold dL
 rw [<-List.head?_reverse]
 cases x.reverse with
 | nil=>simp
 | cons d z=>simp
theorem DG (g:cH cps (λc=>ad (au N c)) h) {c:Nat} (n:c∈cps) (o:List (Int×Nat)) (e:o.map (λx=>x.1)=bT (dL c) (cb N cps) ((cb N cps).map (wt h))):o≠[]/\cU o=Fn cps (λc=>ad (au N c)) h c:=by
 refine oG e (λv f=> ?_) (λv f=> ?_) ?_
 .obtain ⟨x,i,_,rfl⟩:=gJ.mp f
  exact lb g ((eB g x).mp i).2
 .obtain ⟨x,i,p,rfl⟩:=gJ.mp f
  obtain ⟨a,b⟩:=(eB g x).mp i
  obtain ⟨y,j⟩:=rp.mp p
  rw [<-il,j]
  rw [j] at a
  exact jE g a λe d=>b e (Gl.mp (by rw [j];exact d))
 .obtain ⟨y,k,l,m⟩:=lf g c n
  refine gJ.mpr ⟨(c::y).reverse,(eB g _).mpr ⟨by rw [GG];exact k,λe d=>l e (Gl.mp d)⟩,rp.mpr ⟨y,GG _⟩, ?_⟩
  rw [il,m]
theorem xu (T:fU cps (λc=>ad (au N c)) pre2 h) {c:Nat} (n:c∈cps) (o:List (Int×Nat)) (e:o.map (λx=>x.1)=bT (dK c) (cb N cps) ((cb N cps).map (wt h))):o≠[]/\cU o=Fn cps (λc=>ad (au N c)) h c+An cps.reverse pre2 h c:=by
 refine oG e (λv g=> ?_) (λv g=> ?_) ?_
 .obtain ⟨x,i,_,rfl⟩:=gJ.mp g
  exact lb T.g ((eB T.g x).mp i).2
 .obtain ⟨x,i,f,rfl⟩:=gJ.mp g
  obtain ⟨a,b⟩:=(eB T.g x).mp i
  have f:c∈x:=by simpa [dK] using f
  rw [<-il]
  exact xt T a (λe d=>b e (Gl.mp d)) (Gl.mpr f)
 .obtain ⟨r,j,k,l,m⟩:=qH T n
  refine gJ.mpr ⟨r.reverse,(eB T.g _).mpr ⟨by rw [GG];exact j,λe d=>k e (Gl.mp d)⟩,by simpa [dK] using l, ?_⟩
  rw [il,m]
theorem qI (T:fU cps (λc=>ad (au N c)) pre2 h) {c:Nat} (i:c∈cps):Fn cps (λc=>ad (au N c)) h c+An cps.reverse pre2 h c<=mx (cps.map (Fn cps (λc=>ad (au N c)) h)):=by
 obtain ⟨r,e,b,f,g⟩:=qH T i
 rw [<-g]
 cases r with
 | nil=>cases f
 | cons d y=>exact Int.le_trans (jE T.g e b) (gh (Fa (b d EZ)))
theorem Bj (T:fU cps (λc=>ad (au N c)) pre2 h):mx (cps.reverse.map (Fn cps.reverse pre2 h))=mx (cps.map (Fn cps (λc=>ad (au N c)) h)):=by
 apply Int.le_antisymm
 .refine fQ (λv i=> ?_) (gV _)
  obtain ⟨c,f,rfl⟩:=Gj.mp i
  have k:=Gl.mp f
  have a:=qI T k
  have b:=d9 T.g2 f
  have d:=d9 T.g k
  have e:=fW (cps:=cps) (pre:=(λc=>ad (au N c))) (h:=h) c
  omega
 .refine fQ (λv i=> ?_) (gV _)
  obtain ⟨c,f,rfl⟩:=Gj.mp i
  obtain ⟨y,j,g,n⟩:=lf T.g c f
  rw [<-n]
  obtain ⟨v,d,e⟩:∃v d,c::y=v++[d]:=⟨(c::y).dropLast,(c::y).getLast (by simp),(List.dropLast_concat_getLast _).symm⟩
  rw [e] at j g⊢
  have a:=pO T _ rfl j g
  have l:d∈cps:=g d (by simp)
  have b:=d9 T.g2 (Gl.mpr l)
  have m:=gh (Fa (f:=Fn cps.reverse pre2 h) (Gl.mpr l))
  rw [im]
  show wt h v+(h d+0)<=_
  omega
end
theorem g4:∀{m:MI} {b:List Nat} {f:Nat->Int},aH m=b.map (λc=>(c,f c))->∀c,aa m c=if c∈b then f c else 0
 | [],[],f,_,c=>by simp [aa,look?]
 | [],_::_,f,h,c=>by cases h
 | _::_,[],f,h,c=>by cases h
 | x::m,d::b,f,h,c=>by
  obtain ⟨k,t,v⟩:=x
  have h:(k,v.1)::aH m=(d,f d)::b.map (λc=>(c,f c)):=h
  injection h with e g
  injection e with i j
  have l:=g4 g c
  subst i
  unfold aa look?
  by_cases q:k=c
  .subst q
   rw [if_pos rfl,if_pos EZ];exact j
  .rw [if_neg q]
   have n:¬c=k:=λz=>q z.symm
   have:(c∈k::b)<->c∈b:=by simp [n]
   rw [show ((look? m c).map (·.1)).getD 0=aa m c from rfl,l]
   simp only [this]
theorem g5:∀{m:MI} {c:Nat},c∈ak m->∃v,look? m c=some v
 | [],_,h=>nomatch h
 | (k,t,v)::m,c,h=>by
  unfold look?
  by_cases q:k=c
  .rw [if_pos q];exact ⟨v,rfl⟩
  .rw [if_neg q]
   exact g5 ((GP.mp h).resolve_left λz=>q z.symm)
theorem jo {m:MI} {c:Nat} {v:Int×Nat} (h:look? m c=some v):aa m c=v.1:=by unfold aa;rw [h];rfl
theorem eM {m:MI} {c:Nat} (h:c∈ak m):∃v,look? m c=some v/\v.1=aa m c:=by
 obtain ⟨v,b⟩:=g5 h
 exact ⟨v,b,(jo b).symm⟩
structure Cn (m:MI) (F:Nat->Int):Prop where
 nd:(ak m).Nodup
 get:∀c,aa m c=F c
 key:∀c,c∈ak m<->0< F c
theorem Cn.congr {m:MI} {F G:Nat->Int} (C:Cn m F) (e:∀c,F c=G c):Cn m G:=⟨C.nd,λc=>(C.get c).trans (e c),λc=>by rw [<-e c];exact C.key c⟩
theorem o9 {m:MI} {c:Nat} (h:c∉ak m):aa m c=0:=by
 have:look? m c=none:=by
  induction m with
  | nil=>rfl
  | cons x m i=>
   obtain ⟨k,t,v⟩:=x
   have b:c≠k/\c∉ak m:=by
    unfold ak at h
    rw [Fu,GP,not_or] at h
    exact h
   unfold look?
   rw [if_neg (λz=>b.1 z.symm)]
   exact i b.2
 unfold aa;rw [this];rfl
theorem o1 {m:MI} {k t:Nat} {v:Int×Nat} {c:Nat} (h:c≠k):aa ((k,t,v)::m) c=aa m c:=by
 show ((if k=c then some v else look? m c).map (λx:Int×Nat=>x.1)).getD 0=_
 rw [if_neg λz=>h z.symm];rfl
theorem Cn.nil:Cn [] (λ_=>0):=⟨Gt,λ_=>rfl,λc=>⟨λz=>(nomatch z),λz=>by omega⟩⟩
theorem jf {m:MI} {c t:Nat} {v:Int×Nat} (h:c∉ak m):ak (aw m c t v)=ak m++[c]:=by
 rw [fi h];unfold ak;rw [Fd];rfl
theorem mB {f:Int->Int->Int} {B:MI}:∀{m g i:MI} {F:Nat->Int},bM f B m g i->Cn g F->(ak m).Nodup->(∀c∈ak m,c∉ak g)->
 Cn i (λc=>if c∈ak m/\0< f (aa m c) (aa B c) then f (aa m c) (aa B c) else F c)
 | [],g,i,F,h,C,_,_=>by
  have h:i=g:=h
  subst h
  exact C.congr λc=>by simp [ak]
 | x::m,g,i,F,⟨o,p,A⟩,C,H,s=>by
  obtain ⟨k,t,v⟩:=x
  have l:k∉ak m/\(ak m).Nodup:=GO.mp H
  have w:aa ((k,t,v)::m) k=v.1:=jo (by unfold look?;rw [if_pos rfl])
  have y:∀c,c≠k->aa ((k,t,v)::m) c=aa m c:=λc j=>o1 j
  have kf:k∉ak g:=s k EZ
  have I:F k=0:=by rw [<-C.get k];exact o9 kf
  have n:Cn o (λc=>if c=k/\0< f v.1 (aa B k) then f v.1 (aa B k) else F c):=by
   by_cases d:0< f v.1 (aa B k)
   .obtain ⟨u,rfl⟩:=p.1 d
    refine ⟨?_,λc=> ?_,λc=> ?_⟩
    .rw [jf kf]
     exact Gk.mpr ⟨C.nd,by simp,λa D b r e=>kf (by rw [Gb] at r;rw [<-r,<-e];exact D)⟩
    .show aa (aw g k t (f v.1 (aa B k),u)) c=_
     rw [mi]
     by_cases q:k=c
     .rw [if_pos q,if_pos ⟨q.symm,d⟩]
     .rw [if_neg q,if_neg (λz=>q z.1.symm)];exact C.get c
    .show c∈ak (aw g k t (f v.1 (aa B k),u))<->_
     rw [jf kf,GB,Gb]
     by_cases q:c=k
     .simp only [q,true_and,d,if_true];simp
     .rw [if_neg (λz=>q z.1)];simp [q,C.key c]
   .rw [p.2 d]
    exact C.congr λc=>by rw [if_neg (λz=>d z.2)]
  have G:∀c∈ak m,c∉ak o:=λc j z=>by
   have:=(n.key c).mp z
   have E:c≠k:=λe=>l.1 (e▸j)
   rw [if_neg (λz=>E z.1)] at this
   exact s c (E2 _ j) ((C.key c).mpr this)
  refine (mB A n l.2 G).congr λc=> ?_
  by_cases q:c=k
  .subst q
   rw [if_neg (λz=>l.1 z.1),w]
   by_cases d:0< f v.1 (aa B c)
   .rw [if_pos ⟨rfl,d⟩,if_pos ⟨EZ,d⟩]
   .rw [if_neg (λz=>d z.2),if_neg (λz=>d z.2)]
  .rw [y c q]
   have:(c∈ak ((k,t,v)::m))<->c∈ak m:=by
    show c∈k::ak m<->_
    simp [q]
   simp only [this]
   split
   .rfl
   .rw [if_neg (λz=>q z.1)]
theorem C8 {m:MI} {c:Nat}:bU m c=true<->c∈ak m:=by
 unfold bU
 constructor
 .intro h
  obtain ⟨v,b⟩:=Option.isSome_iff_exists.mp h
  exact Hw λq=>by
   have:look? m c=none:=by
    have:=o9 q
    cases d:look? m c with
    | none=>rfl
    | some v=>
     exfalso
     clear b h this
     induction m with
     | nil=>cases d
     | cons x m i=>
      obtain ⟨k,t,y⟩:=x
      have e:c≠k/\c∉ak m:=by
       unfold ak at q
       rw [Fu,GP,not_or] at q
       exact q
      unfold look? at d
      rw [if_neg (λz=>e.1 z.symm)] at d
      exact i e.2 d
   rw [this] at b;cases b
 .intro h
  obtain ⟨v,b⟩:=g5 h
  rw [b];rfl
theorem pG {f:Int->Int} {A:MI}:∀{m g i:MI} {F:Nat->Int},ds f A m g i->Cn g F->(ak m).Nodup->(∀c∈ak m,c∉ak A->c∉ak g)->
 Cn i (λc=>if c∈ak m/\c∉ak A/\0< f (aa m c) then f (aa m c) else F c)
 | [],g,i,F,h,C,_,_=>by
  have h:i=g:=h
  subst h
  exact C.congr λc=>by simp [ak]
 | x::m,g,i,F,⟨p,r,D⟩,C,J,w=>by
  obtain ⟨k,t,v⟩:=x
  have n:k∉ak m/\(ak m).Nodup:=GO.mp J
  have y:aa ((k,t,v)::m) k=v.1:=jo (by unfold look?;rw [if_pos rfl])
  have B:∀c,c≠k->aa ((k,t,v)::m) c=aa m c:=λc l=>o1 l
  have j:bU A k=false<->k∉ak A:=by
   rw [<-C8];cases bU A k<;>simp
  have o:Cn p (λc=>if c=k/\k∉ak A/\0< f v.1 then f v.1 else F c):=by
   by_cases d:bU A k=false/\0< f v.1
   .obtain ⟨u,rfl⟩:=r.1 d
    have kf:k∉ak g:=w k EZ (j.mp d.1)
    refine ⟨?_,λc=> ?_,λc=> ?_⟩
    .rw [jf kf]
     exact Gk.mpr ⟨C.nd,by simp,λa E b s e=>kf (by rw [Gb] at s;rw [<-s,<-e];exact E)⟩
    .show aa (aw g k t (f v.1,u)) c=_
     rw [mi]
     by_cases q:k=c
     .rw [if_pos q,if_pos ⟨q.symm,j.mp d.1,d.2⟩]
     .rw [if_neg q,if_neg (λz=>q z.1.symm)];exact C.get c
    .show c∈ak (aw g k t (f v.1,u))<->_
     rw [jf kf,GB,Gb]
     by_cases q:c=k
     .rw [if_pos ⟨q,j.mp d.1,d.2⟩];simp [q,d.2]
     .rw [if_neg (λz=>q z.1)];simp [q,C.key c]
   .rw [r.2 d]
    exact C.congr λc=>by rw [if_neg (λz=>d ⟨j.mpr z.2.1,z.2.2⟩)]
  have I:∀c∈ak m,c∉ak A->c∉ak p:=λc l G z=>by
   have:=(o.key c).mp z
   have H:c≠k:=λe=>n.1 (e▸l)
   rw [if_neg (λz=>H z.1)] at this
   exact w c (E2 _ l) G ((C.key c).mpr this)
  refine (pG D o n.2 I).congr λc=> ?_
  by_cases q:c=k
  .subst q
   rw [if_neg (λz=>n.1 z.1),y]
   by_cases d:c∉ak A/\0< f v.1
   .rw [if_pos ⟨rfl,d⟩,if_pos ⟨EZ,d⟩]
   .rw [if_neg (λz=>d z.2),if_neg (λz=>d z.2)]
  .rw [B c q]
   have:(c∈ak ((k,t,v)::m))<->c∈ak m:=by
    show c∈k::ak m<->_
    simp [q]
   simp only [this]
   split
   .rfl
   .rw [if_neg (λz=>q z.1)]
theorem Cj {m:MI} {c t:Nat} {v:Int×Nat} (d:Nat):d∈ak (aw m c t v)<->d=c\/d∈ak m:=by
 by_cases h:c∈ak m
 .rw [oS h]
  constructor
  .exact .inr
  .rintro (rfl | q)
   .exact h
   .exact q
 .rw [jf h,GB,Gb]
  constructor
  .rintro (q | q)
   .exact .inr q
   .exact .inl q
  .rintro (q | q)
   .exact .inr q
   .exact .inl q
theorem Ci {m:MI} {c t:Nat} {v:Int×Nat} (f:(ak m).Nodup):(ak (aw m c t v)).Nodup:=by
 by_cases h:c∈ak m
 .rw [oS h];exact f
 .rw [jf h]
  exact Gk.mpr ⟨f,by simp,λa g b d e=>h (by rw [Gb] at d;rw [<-d,<-e];exact g)⟩
theorem vX:∀{m b d:MI} {F:Nat->Int},ik m b d->Cn b F->(∀c,0<=F c)->(ak m).Nodup->(∀x∈m,0< x.2.2.1)->
 Cn d (λc=>F c+aa m c)
 | [],b,d,F,h,C,_,_,_=>by
  have h:d=b:=h
  subst h
  exact C.congr λc=>by show F c=F c+0;omega
 | x::m,b,d,F,⟨u,h⟩,C,e,n,hp=>by
  obtain ⟨k,t,v⟩:=x
  have f:k∉ak m/\(ak m).Nodup:=GO.mp n
  have i:aa ((k,t,v)::m) k=v.1:=jo (by unfold look?;rw [if_pos rfl])
  have j:∀c,c≠k->aa ((k,t,v)::m) c=aa m c:=λc l=>o1 l
  have p:0< v.1:=hp (k,t,v) EZ
  have h:ik m (aw b k t (v.1+aa b k,u)) d:=h
  have g:Cn (aw b k t (v.1+aa b k,u)) (λc=>if c=k then F k+v.1 else F c):=by
   refine ⟨Ci C.nd,λc=> ?_,λc=> ?_⟩
   .rw [mi]
    by_cases q:k=c
    .rw [if_pos q,if_pos q.symm]
     show v.1+aa b k=_
     rw [C.get k];omega
    .rw [if_neg q,if_neg (λz=>q z.symm)];exact C.get c
   .rw [Cj]
    by_cases q:c=k
    .rw [if_pos q]
     have:=e k
     exact ⟨λ_=>by omega,λ_=> .inl q⟩
    .rw [if_neg q]
     exact ⟨λz=>(C.key c).mp (z.resolve_left q),λz=> .inr ((C.key c).mpr z)⟩
  refine (vX h g (λc=> ?_) f.2 (λx o=>hp x (E2 _ o))).congr λc=> ?_
  .have:=e c;have:=e k;split<;>omega
  .by_cases q:c=k
   .subst q
    rw [if_pos rfl,i,o9 f.1];omega
   .rw [if_neg q,j c q]
theorem Bq {m:MI} {F:Nat->Int} (C:Cn m F):∀x∈m,0< x.2.2.1:=by
 intro x h
 have hk:x.1∈ak m:=Fa h
 have d:look? m x.1=some x.2.2:=by
  have e:=C.nd
  clear C hk
  induction m with
  | nil=>cases h
  | cons y m i=>
   obtain ⟨k,t,v⟩:=y
   have b:k∉ak m/\(ak m).Nodup:=GO.mp e
   unfold look?
   rcases GP.mp h with rfl | h
   .rw [if_pos rfl]
   .rw [if_neg (λz=>b.1 (by rw [z];exact Fa h))]
    exact i h b.2
 have:=(C.key x.1).mp hk
 rw [<-C.get,jo d] at this
 exact this
theorem qh {m b d:MI} {F G:Nat->Int} (h:eE m b d) (C:Cn b F) (e:∀c,0<=F c) (D:Cn m G):Cn d (λc=>F c+G c):=by
 cases b with
 | nil=>
  have h:d=m:=h
  subst h
  refine D.congr λc=> ?_
  have:F c=0:=(C.get c).symm
  omega
 | cons x b=>
  exact (vX h C e D.nd (Bq D)).congr λc=>by rw [D.get c]
theorem nr {m d:MI} {b:List Nat} {f F:Nat->Int} (C:Cn m F) (i:aH d=b.map (λc=>(c,f c))) (g:b.Nodup) (hk:∀c,0< F c<->c∈b) (p:∀c∈b,F c=f c):m.length=d.length/\∀x∈m,∃v,look? d x.1=some v/\v.1=x.2.2.1:=by
 have j:ak d=b:=ef i
 have hp:(ak m).Perm b:=(List.perm_ext_iff_of_nodup C.nd g).mpr λc=>(C.key c).trans (hk c)
 have n:m.length=(ak m).length:=by unfold ak;rw [Fo]
 have u:d.length=(ak d).length:=by unfold ak;rw [Fo]
 refine ⟨by rw [n,u,j];exact hp.length_eq,λx h=> ?_⟩
 have e:x.1∈b:=hp.mem_iff.mp (Fa h)
 obtain ⟨v,q,r⟩:=eM (m:=d) (c:=x.1) (by rw [j];exact e)
 refine ⟨v,q, ?_⟩
 rw [r,g4 i,if_pos e,<-p x.1 e,<-C.get]
 have o:look? m x.1=some x.2.2:=by
  have g:=C.nd
  clear hp n C
  induction m with
  | nil=>cases h
  | cons y m s=>
   obtain ⟨k,t,v⟩:=y
   have l:k∉ak m/\(ak m).Nodup:=GO.mp g
   unfold look?
   rcases GP.mp h with rfl | h
   .rw [if_pos rfl]
   .rw [if_neg (λz=>l.1 (by rw [z];exact Fa h))]
    exact s h l.2
 exact jo o
def cf (f:Nat->Int):Nat->Int
 | 0=>0
 | n+1=>cf f n+f n
theorem gF {f g:Nat->Int}:∀{n:Nat},(∀j,j< n->f j=g j)->cf f n=cf g n
 | 0,_=>rfl
 | n+1,h=>by
  show cf f n+f n=cf g n+g n
  rw [gF λj b=>h j (by omega),h n (by omega)]
theorem m6 (f g:Nat->Int):∀n,cf (λj=>f j+g j) n=cf f n+cf g n
 | 0=>rfl
 | n+1=>by
  show cf (λj=>f j+g j) n+(f n+g n)=(cf f n+f n)+(cf g n+g n)
  rw [m6];omega
theorem m5 {f:Nat->Int} (h:∀j,0<=f j):∀n,0<=cf f n
 | 0=>Int.le_refl _
 | n+1=>by
  have:=m5 h n
  have:=h n
  show 0<=cf f n+f n
  omega
def ind (p q m:Int) (j:Nat):Int:=if p<=(j:Int)/\(j:Int)< q then m else 0
theorem Et (x q p:Int):max 0 (min (x+1) q-p)=max 0 (min x q-p)+(if p<=x/\x< q then 1 else 0):=by
 rcases Int.lt_or_le x q with h | h
 .rw [Int.min_eq_left (show x+1<=q from h),Int.min_eq_left (Int.le_of_lt h)]
  rcases Int.lt_or_le x p with k | k
  .rw [if_neg (λz=>absurd k (Int.not_lt.mpr z.1)),Int.max_eq_left (by omega),Int.max_eq_left (by omega)];rfl
  .rw [if_pos ⟨k,h⟩,H5 (by omega),H5 (by omega)];omega
 .rw [if_neg (λz=>absurd z.2 (Int.not_lt.mpr h)),Hr h,Hr (by omega),Int.add_zero]
theorem iz (p q m:Int) (hp:0<=p):∀n:Nat,cf (ind p q m) n=m*max 0 (min (n:Int) q-p)
 | 0=>by
  have h:=Int.min_le_left ((0:Nat):Int) q
  rw [Int.max_eq_left (by omega),Int.mul_zero];rfl
 | n+1=>by
  show cf (ind p q m) n+ind p q m n=m*max 0 (min ((n:Int)+1) q-p)
  rw [iz p q m hp n,Et,Int.mul_add]
  unfold ind
  split
  .rw [Int.mul_one]
  .rw [Int.mul_zero]
theorem CP {e f p q m d:Int} (h:0<=m) (g:0<=d) (j:Nat):min (ind e f m j) (ind p q d j)=ind (max e p) (min f q) (min m d) j:=by
 unfold ind
 by_cases a:e<=(j:Int)/\(j:Int)< f
 .by_cases b:p<=(j:Int)/\(j:Int)< q
  .rw [if_pos a,if_pos b,if_pos ⟨Int.max_le.mpr ⟨a.1,b.1⟩,Int.lt_min.mpr ⟨a.2,b.2⟩⟩]
  .rw [if_pos a,if_neg b,if_neg (λz=>b ⟨(Int.max_le.mp z.1).2,(Int.lt_min.mp z.2).2⟩),Hr h]
 .by_cases b:p<=(j:Int)/\(j:Int)< q
  .rw [if_neg a,if_pos b,if_neg (λz=>a ⟨(Int.max_le.mp z.1).1,(Int.lt_min.mp z.2).1⟩),Int.min_eq_left g]
  .rw [if_neg a,if_neg b,if_neg (λz=>a ⟨(Int.max_le.mp z.1).1,(Int.lt_min.mp z.2).1⟩),Int.min_self]
theorem tP (x y:Int):max x y+min x y=x+y:=by
 rcases Int.le_total x y with h | h
 .rw [H5 h,Int.min_eq_left h,Int.add_comm]
 .rw [Int.max_eq_left h,Hr h]
theorem Cn.len {m:MI} {F:Nat->Int} {cs:List Nat} (C:Cn m F) (h:∀c,0< F c->c∈cs):m.length<=cs.length:=by
 have:=iA C.nd λc b=>h c ((C.key c).mp b)
 unfold ak at this
 rwa [Fo] at this
structure LD (N NT:List NL) (cps:List Nat) (mh me ml:MI) (LV L2:List Lv):Prop where
 c1:bE N cps mh me
 c2:bE NT cps.reverse mh ml
 T:fU cps (λc=>ad (au N c)) (λc=>ad (au NT c)) (aa mh)
 l1:cA cps (λc=>ad (au N c)) (aa mh) me LV
 l2:cA cps.reverse (λc=>ad (au NT c)) (aa mh) ml L2
 h3:∀c∈cps,0<=aa mh c/\aa mh c<=3
 e3:∀c∈cps,1<=aa me c/\aa me c<=3
 g3:∀c∈cps,1<=aa ml c/\aa ml c<=3
 kh:ak mh=cps
 ke:ak me=cps
 kl:ak ml=cps
section
variable {N NT:List NL} {cps:List Nat} {mh me ml:MI} {LV L2:List Lv}
def fA (N:List NL) (cps:List Nat) (mh:MI) (c:Nat):Int:=An cps (λc=>ad (au N c)) (aa mh) c
def fB (NT:List NL) (cps:List Nat) (mh:MI) (c:Nat):Int:=An cps.reverse (λc=>ad (au NT c)) (aa mh) c
theorem LD.len1 (D:LD N NT cps mh me ml LV L2):(LV.length:Int)=mx (cps.map (Fn cps (λc=>ad (au N c)) (aa mh))):=D.l1.1
theorem LD.len2 (D:LD N NT cps mh me ml LV L2):L2.length=LV.length:=by
 have a:=D.l1.1
 have b:=D.l2.1
 rw [Bj D.T] at b
 omega
theorem LD.fin1 (D:LD N NT cps mh me ml LV L2) {c:Nat} (h:c∈cps):Fn cps (λc=>ad (au N c)) (aa mh) c=aa mh c+fA N cps mh c:=d9 D.T.g h
theorem LD.fin2 (D:LD N NT cps mh me ml LV L2) {c:Nat} (h:c∈cps):Fn cps.reverse (λc=>ad (au NT c)) (aa mh) c=aa mh c+fB NT cps mh c:=d9 D.T.g2 (Gl.mpr h)
def zF (N NT:List NL) (cps:List Nat) (mh:MI) (LV:List Lv) (c:Nat):Int:=(LV.length:Int)-(aa mh c+fA N cps mh c+fB NT cps mh c)
theorem LD.z0 (D:LD N NT cps mh me ml LV L2) {c:Nat} (h:c∈cps):0<=zF N NT cps mh LV c:=by
 have:=qI D.T h
 rw [<-D.len1,D.fin1 h] at this
 have this:aa mh c+fA N cps mh c+fB NT cps mh c<=(LV.length:Int):=this
 unfold zF
 omega
def fF (N:List NL) (cps:List Nat) (mh me:MI) (j c:Nat):Int:=if c∈cps then ind (fA N cps mh c) (fA N cps mh c+aa mh c) (aa me c) j else 0
def fG (N NT:List NL) (cps:List Nat) (mh ml:MI) (LV:List Lv) (j c:Nat):Int:=if c∈cps then ind (fA N cps mh c+zF N NT cps mh LV c) (fA N cps mh c+aa mh c+zF N NT cps mh LV c) (aa ml c) j else 0
theorem LD.front (D:LD N NT cps mh me ml LV L2) {j:Nat} {l:Lv} (h:LV[j]? =some l):Cn l.m (fF N cps mh me j):=by
 obtain ⟨e,g,d,f⟩:=D.l1.2 j l h
 have k:∀c,c∈e<->0< fF N cps mh me j c:=λc=>by
  rw [f]
  unfold fF ind
  by_cases q:c∈cps
  .rw [if_pos q,D.fin1 q]
   have:=(D.e3 c q).1
   show _/\fA N cps mh c<=(j:Int)/\(j:Int)< _+fA N cps mh c<->_
   split
   .rename_i z;exact ⟨λ_=>by omega,λ_=>⟨q,z.1,by have:=z.2;omega⟩⟩
   .rename_i z;exact ⟨λy=>absurd ⟨y.2.1,by have:=y.2.2;omega⟩ z,λy=>by omega⟩
  .rw [if_neg q];exact ⟨λy=>absurd y.1 q,λy=>by omega⟩
 refine ⟨by rw [ef d];exact g,λc=> ?_,λc=>by rw [ef d];exact k c⟩
 rw [g4 d]
 by_cases q:c∈e
 .rw [if_pos q]
  have hk:=(k c).mp q
  have b:=((f c).mp q).1
  unfold fF ind at hk⊢
  rw [if_pos b] at hk⊢
  split
  .rfl
  .rename_i z;rw [if_neg z] at hk;omega
 .rw [if_neg q]
  have hk:=λz=>q ((k c).mpr z)
  unfold fF ind at hk⊢
  split
  .rename_i b
   rw [if_pos b] at hk
   split
   .rename_i z
    rw [if_pos z] at hk
    have:=(D.e3 c b).1
    exact absurd (by omega) hk
   .rfl
  .rfl
theorem LD.rear (D:LD N NT cps mh me ml LV L2) {j:Nat} {l:Lv} (i:j< LV.length) (h:L2[LV.length-1-j]? =some l):Cn l.m (fG N NT cps mh ml LV j):=by
 obtain ⟨e,g,d,f⟩:=D.l2.2 _ l h
 have cast:((LV.length-1-j:Nat):Int)=(LV.length:Int)-1-(j:Int):=by omega
 have k:∀c,c∈e<->0< fG N NT cps mh ml LV j c:=λc=>by
  rw [f,Gl,cast]
  unfold fG ind zF
  by_cases q:c∈cps
  .rw [if_pos q,D.fin2 q]
   have:=(D.g3 c q).1
   show _/\fB NT cps mh c<=_/\_< _+fB NT cps mh c<->_
   split
   .rename_i z;exact ⟨λ_=>by omega,λ_=>⟨q,by have:=z.2;have:=z.1;omega,by have:=z.1;omega⟩⟩
   .rename_i z;exact ⟨λy=>absurd ⟨by have:=y.2.2;omega,by have:=y.2.1;omega⟩ z,λy=>by omega⟩
  .rw [if_neg q];exact ⟨λy=>absurd y.1 q,λy=>by omega⟩
 refine ⟨by rw [ef d];exact g,λc=> ?_,λc=>by rw [ef d];exact k c⟩
 rw [g4 d]
 by_cases q:c∈e
 .rw [if_pos q]
  have hk:=(k c).mp q
  have b:=Gl.mp ((f c).mp q).1
  unfold fG ind at hk⊢
  rw [if_pos b] at hk⊢
  split
  .rfl
  .rename_i z;rw [if_neg z] at hk;omega
 .rw [if_neg q]
  have hk:=λz=>q ((k c).mpr z)
  unfold fG ind at hk⊢
  split
  .rename_i b
   rw [if_pos b] at hk
   split
   .rename_i z
    rw [if_pos z] at hk
    have:=(D.g3 c b).1
    exact absurd (by omega) hk
   .rfl
  .rfl
theorem LD.busy (D:LD N NT cps mh me ml LV L2) {j:Nat} (n:j< LV.length):∃c∈cps,0< fF N cps mh me j c:=by
 have l:=iT D.T.g (P:=λc=>c∈cps->(j:Int)< Fn cps (λc=>ad (au N c)) (aa mh) c->∃d∈cps,fA N cps mh d<=(j:Int)/\(j:Int)< Fn cps (λc=>ad (au N c)) (aa mh) d) λc b k _ i=>by
  by_cases q:fA N cps mh c<=(j:Int)
  .exact ⟨c,b,q,i⟩
  .rcases i5 (l:=((λc=>ad (au N c)) c).map (Fn cps (λc=>ad (au N c)) (aa mh))) with z | z
   .have:fA N cps mh c=0:=z
    omega
   .obtain ⟨d,h,e⟩:=Gj.mp z
    have:fA N cps mh c=Fn cps (λc=>ad (au N c)) (aa mh) d:=e.symm
    exact k d h (D.T.g.ord c b d h).1 (by omega)
 have m:=D.len1
 rcases i5 (l:=cps.map (Fn cps (λc=>ad (au N c)) (aa mh))) with z | z
 .omega
 .obtain ⟨c,b,e⟩:=Gj.mp z
  obtain ⟨d,h,f,g⟩:=l c b b (by omega)
  refine ⟨d,h, ?_⟩
  unfold fF ind
  rw [D.fin1 h] at g
  rw [if_pos h,if_pos ⟨f,by omega⟩]
  have:=(D.e3 d h).1
  omega
end
theorem vT {A B m:MI} {F G:Nat->Int} (C:Cn A F) (d:Cn B G) (f0:∀c,0<=F c) (g0:∀c,0<=G c) (h:bM bn B A [] m):Cn m (λc=>min (F c) (G c)):=by
 refine (mB h Cn.nil C.nd (λ_ _ z=>nomatch z)).congr λc=> ?_
 have k:=C.key c
 have a:=f0 c
 have b:=g0 c
 rw [C.get,d.get]
 unfold bn
 by_cases q:0< F c
 .by_cases r:F c< G c
  .rw [if_pos r,if_pos ⟨k.mpr q,q⟩];omega
  .rw [if_neg r]
   by_cases t:0< G c
   .rw [if_pos ⟨k.mpr q,t⟩];omega
   .rw [if_neg (λz=>t z.2)]
    show (0:Int)=min (F c) (G c)
    omega
 .rw [if_neg (λz=>q (k.mp z.1))]
  show (0:Int)=min (F c) (G c)
  omega
theorem th {A B m:MI} {F G:Nat->Int} (C:Cn A F) (d:Cn B G) (f0:∀c,0<=F c) (g0:∀c,0<=G c) (h:∃e,bM bm B A [] e/\ds ce A B e m):Cn m (λc=>max (F c) (G c)):=by
 obtain ⟨e,g,i⟩:=h
 have D:=mB g Cn.nil C.nd (λ_ _ z=>nomatch z)
 refine (pG i D d.nd (λc n j z=> ?_)).congr λc=> ?_
 .have:=(D.key c).mp z
  rw [if_neg (λy=>j y.1)] at this
  omega
 .have k:=C.key c
  have l:=d.key c
  have a:=f0 c
  have b:=g0 c
  rw [C.get,d.get]
  unfold bm ce
  by_cases q:0< F c
  .rw [if_neg (λz=>z.2.1 (k.mpr q))]
   by_cases r:F c< G c
   .rw [if_pos r,if_pos ⟨k.mpr q,by omega⟩];omega
   .rw [if_neg r,if_pos ⟨k.mpr q,q⟩];omega
  .have f:c∉ak A:=λz=>q (k.mp z)
   rw [if_neg (c:=c∈ak A/\_) (λz=>f z.1)]
   by_cases r:0< G c
   .rw [if_pos ⟨l.mpr r,f,r⟩];omega
   .rw [if_neg (λz=>r z.2.2)];omega
theorem ux {p q m:Int} (h:0<=m) (j:Nat):0<=ind p q m j:=by unfold ind;split<;>omega
section
variable {N NT:List NL} {cps:List Nat} {mh me ml:MI} {LV L2:List Lv}
theorem LD.f0 (D:LD N NT cps mh me ml LV L2) (j c:Nat):0<=fF N cps mh me j c:=by
 unfold fF;split
 .rename_i h;exact ux (by have:=(D.e3 c h).1;omega) j
 .exact Int.le_refl _
theorem LD.g0 (D:LD N NT cps mh me ml LV L2) (j c:Nat):0<=fG N NT cps mh ml LV j c:=by
 unfold fG;split
 .rename_i h;exact ux (by have:=(D.g3 c h).1;omega) j
 .exact Int.le_refl _
theorem kG {j c:Nat} (h:0< fF N cps mh me j c):c∈cps:=by
 unfold fF at h
 exact Hw λq=>by rw [if_neg q] at h;omega
theorem pc {j c:Nat} (h:0< fG N NT cps mh ml LV j c):c∈cps:=by
 unfold fG at h
 exact Hw λq=>by rw [if_neg q] at h;omega
def sM (N NT:List NL) (cps:List Nat) (mh me ml:MI) (LV:List Lv) (i c:Nat):Int:=cf (λj=>min (fF N cps mh me j c) (fG N NT cps mh ml LV j c)) i
def sO (N NT:List NL) (cps:List Nat) (mh me ml:MI) (LV:List Lv) (i c:Nat):Int:=cf (λj=>max (fF N cps mh me j c) (fG N NT cps mh ml LV j c)) i
theorem mZ {f:Nat->Int} {P:Prop} (h:∀j,0< f j->P) (b:∀j,0<=f j):∀n,0< cf f n->P
 | 0,q=>absurd q (Int.lt_irrefl _)
 | n+1,q=>by
  have q:0< cf f n+f n:=q
  by_cases r:0< f n
  .exact h n r
  .exact mZ h b n (by have:=b n;omega)
theorem LD.five (D:LD N NT cps mh me ml LV L2):cps.length<=5:=D.c1.gc.five
theorem LD.lvl (D:LD N NT cps mh me ml LV L2):LV.length<=20:=by
 have d:mx (cps.map (Fn cps (λc=>ad (au N c)) (aa mh)))<=20:=fQ (λx b=>by
  obtain ⟨c,h,rfl⟩:=Gj.mp b
  exact D.c1.gc.top c h) (by omega)
 have:=D.len1
 omega
theorem LD.klc (D:LD N NT cps mh me ml LV L2):pW LV L2 (λi l k=>Cn l (sM N NT cps mh me ml LV i)/\Cn k (sO N NT cps mh me ml LV i)):=by
 have u:=D.five
 have o:∀i c,0< sM N NT cps mh me ml LV i c->c∈cps:=λi c h=>mZ (λj r=>kG (N:=N) (mh:=mh) (me:=me) (j:=j) (by omega)) (λj=>by have:=D.f0 j c;have:=D.g0 j c;omega) i h
 have p:∀i c,0< sO N NT cps mh me ml LV i c->c∈cps:=λi c h=>mZ (P:=c∈cps) (λj r=>by
  by_cases q:0< fF N cps mh me j c
  .exact kG q
  .exact pc (N:=N) (NT:=NT) (mh:=mh) (ml:=ml) (LV:=LV) (j:=j) (by omega)) (λj=>by have:=D.f0 j c;omega) i h
 refine ⟨D.len2,by have:=D.lvl;omega,λi s t e g=> ?_,λi l k h=>⟨FZ (h.1.len (o i)) (by omega),FZ (h.2.len (p i)) (by omega)⟩,λi s t l k y v w x e g h b1 u1 n u2=> ?_⟩
 .have f:i< LV.length:=(E8.mp e).1
  have C:=D.front e
  have d:=D.rear f g
  have A:=λm h=>vT C d (D.f0 i) (D.g0 i) (m:=m) h
  have O:=λm h=>th C d (D.f0 i) (D.g0 i) (m:=m) h
  refine ⟨λz=> ?_,FZ (C.len λc b=>kG b) (by omega),FZ (d.len λc b=>pc b) (by omega),λm h=>⟨FZ ((A m h).len (cs:=cps) λc b=>kG (j:=i) (N:=N) (mh:=mh) (me:=me) (by omega)) (by omega),(A m h).nd⟩,λm h=>⟨FZ ((O m h).len (cs:=cps) λc b=> ?_) (by omega),(O m h).nd⟩⟩
  .obtain ⟨c,_,b⟩:=D.busy f
   have:=(C.key c).mpr b
   rw [z] at this;cases this
  .by_cases q:0< fF N cps mh me i c
   .exact kG q
   .exact pc (N:=N) (NT:=NT) (mh:=mh) (ml:=ml) (LV:=LV) (j:=i) (by omega)
 .have f:i< LV.length:=(E8.mp e).1
  have C:=D.front e
  have d:=D.rear f g
  exact ⟨qh u1 h.1 (λc=>m5 (λj=>by have:=D.f0 j c;have:=D.g0 j c;omega) i) (vT C d (D.f0 i) (D.g0 i) b1),qh u2 h.2 (λc=>m5 (λj=>by have:=D.f0 j c;omega) i) (th C d (D.f0 i) (D.g0 i) n)⟩
theorem LD.kl0 (D:LD N NT cps mh me ml LV L2):Cn [] (sM N NT cps mh me ml LV 0)/\Cn [] (sO N NT cps mh me ml LV 0):=⟨Cn.nil,Cn.nil⟩
def bF (N NT:List NL) (cps:List Nat) (mh:MI) (LV:List Lv) (c:Nat):Int:=if c∈cps then max 0 (aa mh c-zF N NT cps mh LV c) else 0
theorem qN (a h z e l:Int) (n:Nat) (b:0<=a) (i:0<=z) (d:1<=e) (f:1<=l) (g:a+h+z<=(n:Int)):cf (λj=>min (ind a (a+h) e j) (ind (a+z) (a+h+z) l j)) n=min e l*max 0 (h-z):=by
 have E:∀j,min (ind a (a+h) e j) (ind (a+z) (a+h+z) l j)=ind (a+z) (a+h) (min e l) j:=λj=>by
  rw [CP (by omega) (by omega),H5 (by omega),Int.min_eq_left (by omega)]
 rw [gF λj _=>E j,iz _ _ _ (by omega),Hr (show a+h<=(n:Int) by omega),show a+h-(a+z)=h-z by omega]
theorem xx (a h z e l:Int) (n:Nat) (b:0<=a) (g:0<=h) (k:0<=z) (f:1<=e) (i:1<=l) (d:a+h+z<=(n:Int)):cf (λj=>max (ind a (a+h) e j) (ind (a+z) (a+h+z) l j)) n=max e l*max 0 (h-z)+(e+l)*(h-max 0 (h-z)):=by
 have E:=m6 (λj=>max (ind a (a+h) e j) (ind (a+z) (a+h+z) l j)) (λj=>min (ind a (a+h) e j) (ind (a+z) (a+h+z) l j)) n
 rw [gF λj _=>tP _ _,m6,qN a h z e l n b k f i d,iz _ _ _ b,iz _ _ _ (by omega),Hr (show a+h<=(n:Int) by omega),Hr d,show a+h-a=h by omega,show a+h+z-(a+z)=h by omega,H5 g] at E
 have q:=congrArg (· *max 0 (h-z)) (tP e l)
 simp only [Int.add_mul] at q
 rw [Int.add_mul,Int.mul_sub,Int.mul_sub]
 omega
theorem LD.sumM (D:LD N NT cps mh me ml LV L2) (c:Nat):sM N NT cps mh me ml LV LV.length c=if c∈cps then min (aa me c) (aa ml c)*bF N NT cps mh LV c else 0:=by
 by_cases h:c∈cps
 .rw [if_pos h]
  unfold sM bF
  rw [if_pos h]
  have z0:=D.z0 h
  have i:=(D.h3 c h).1
  have b:0<=fA N cps mh c:=fW c
  have f:0<=fB NT cps mh c:=fW c
  have d:=(D.e3 c h).1
  have g:=(D.g3 c h).1
  have k:zF N NT cps mh LV c=(LV.length:Int)-(aa mh c+fA N cps mh c+fB NT cps mh c):=rfl
  refine (gF λj _=> ?_).trans (qN (fA N cps mh c) (aa mh c) (zF N NT cps mh LV c) (aa me c) (aa ml c) LV.length b z0 d g (by omega))
  unfold fF fG
  rw [if_pos h,if_pos h]
 .rw [if_neg h]
  unfold sM
  have e:∀j,min (fF N cps mh me j c) (fG N NT cps mh ml LV j c)=0:=λj=>by unfold fF fG;rw [if_neg h,if_neg h];rfl
  rw [gF (g:=ind 0 0 0) λj _=>by rw [e];unfold ind;split<;>rfl,iz _ _ _ (by omega),Int.zero_mul]
def pi (N NT:List NL) (cps:List Nat) (mh me ml:MI) (LV:List Lv) (c:Nat):Int:=max (aa me c) (aa ml c)*bF N NT cps mh LV c+(aa me c+aa ml c)*(aa mh c-bF N NT cps mh LV c)
theorem LD.sumO (D:LD N NT cps mh me ml LV L2) (c:Nat):sO N NT cps mh me ml LV LV.length c=if c∈cps then pi N NT cps mh me ml LV c else 0:=by
 by_cases h:c∈cps
 .rw [if_pos h]
  unfold sO pi bF
  rw [if_pos h]
  have z0:=D.z0 h
  have f:=(D.h3 c h).1
  have b:0<=fA N cps mh c:=fW c
  have i:0<=fB NT cps mh c:=fW c
  have d:=(D.e3 c h).1
  have g:=(D.g3 c h).1
  have k:zF N NT cps mh LV c=(LV.length:Int)-(aa mh c+fA N cps mh c+fB NT cps mh c):=rfl
  have q:=xx (fA N cps mh c) (aa mh c) (zF N NT cps mh LV c) (aa me c) (aa ml c) LV.length b f z0 d g (by omega)
  refine (gF λj _=> ?_).trans q
  unfold fF fG
  rw [if_pos h,if_pos h]
 .rw [if_neg h]
  unfold sO
  have e:∀j,max (fF N cps mh me j c) (fG N NT cps mh ml LV j c)=0:=λj=>by unfold fF fG;rw [if_neg h,if_neg h];rfl
  rw [gF (g:=ind 0 0 0) λj _=>by rw [e];unfold ind;split<;>rfl,iz _ _ _ (by omega),Int.zero_mul]
end
section
variable {N NT:List NL} {cps:List Nat} {mh me ml:MI} {LV L2:List Lv}
theorem ro {nm:Nat} {e a b:Int} (m:0<=a):∀(L:List Lv) (i:Nat),(∀k l,L[k]? =some l->(aa l.m nm=e<->a<=((i+k:Nat):Int)/\((i+k:Nat):Int)< b))->b<=((i+L.length:Nat):Int)->et nm e i L=iS (max a (i:Int)) (b-max a (i:Int)).toNat
 | [],i,_,d=>by
  have:(b-max a (i:Int)).toNat=0:=by simp at d;omega
  rw [this];rfl
 | l::L,i,f,d=>by
  have g:=ro (nm:=nm) (e:=e) (a:=a) (b:=b) m L (i+1) (λk l hk=>by
   have:=f (k+1) l (by simpa using hk)
   rw [show i+1+k=i+(k+1) by omega];exact this) (by rw [Fb] at d;omega)
  have h:=f 0 l rfl
  rw [Nat.add_zero] at h
  unfold et
  by_cases q:aa l.m nm=e
  .rw [if_pos q,g]
   obtain ⟨j,n⟩:=h.mp q
   rw [show max a ((i+1:Nat):Int)=(i:Int)+1 by omega,show max a (i:Int)=(i:Int) by omega,show (b-(i:Int)).toNat=(b-((i:Int)+1)).toNat+1 by omega]
   rfl
  .rw [if_neg q,g]
   have j:¬(a<=(i:Int)/\(i:Int)< b):=λz=>q (h.mpr z)
   by_cases r:a<=(i:Int)
   .have:(b-max a ((i+1:Nat):Int)).toNat=0:=by omega
    rw [this]
    have:(b-max a (i:Int)).toNat=0:=by omega
    rw [this];rfl
   .rw [show max a ((i+1:Nat):Int)=max a (i:Int) by omega]
theorem uB (mh:MI) (W:List (List Nat)):fs mh W=W.map (wt (aa mh)):=rfl
theorem LD.skc (D:LD N NT cps mh me ml LV L2) {ws:List (List Nat×Nat)} {g:List (Int×Nat)} {j:Int} (e:ws.map (λx=>x.1)=cb N cps) (d:g.map (λx=>x.1)=fs mh (ws.map (λx=>x.1))) (m:j=(LV.length:Nat)):∀c∈cps,∃a,kR c mh me ws g LV j a (zF N NT cps mh LV c):=by
 intro c h
 have B:=D.h3 c h
 have A:=D.e3 c h
 have f:0<=fA N cps mh c:=fW c
 have w:0<=fB NT cps mh c:=fW c
 have z0:=D.z0 h
 have t:zF N NT cps mh LV c=(LV.length:Int)-(aa mh c+fA N cps mh c+fB NT cps mh c):=rfl
 have E:=D.lvl
 obtain ⟨v,i,C⟩:=eM (m:=mh) (c:=c) (by rw [D.kh];exact h)
 obtain ⟨u,n,r⟩:=eM (m:=me) (c:=c) (by rw [D.ke];exact h)
 rw [e] at d
 refine ⟨fA N cps mh c,⟨⟨f,by omega⟩,⟨v,i,by omega,by omega,λo b=> ?_⟩,⟨u,n,v,i, ?_⟩,λo b=> ?_⟩⟩
 .rw [e,d,uB] at b
  obtain ⟨p,q⟩:=DG D.T.g h o b
  refine ⟨p, ?_⟩
  rw [q,D.fin1 h];omega
 .have s:∀k l,LV[k]? =some l->(aa l.m c=u.1<->fA N cps mh c<=((0+k:Nat):Int)/\((0+k:Nat):Int)< fA N cps mh c+aa mh c):=λk l hk=>by
   rw [(D.front hk).get,Nat.zero_add,r]
   unfold fF ind
   rw [if_pos h]
   split
   .rename_i z;exact ⟨λ_=>z,λ_=>rfl⟩
   .rename_i z;exact ⟨λy=>by omega,λy=>absurd y z⟩
  have q:=ro f LV 0 s (by omega)
  rw [q,show max (fA N cps mh c) ((0:Nat):Int)=fA N cps mh c by omega]
  congr 1
  omega
 .rw [e,d,uB] at b
  obtain ⟨p,q⟩:=xu D.T h o b
  refine ⟨p, ?_⟩
  rw [q,D.fin1 h,m,t]
  show _-(_+fB NT cps mh c)=_
  omega
theorem LD.spare (D:LD N NT cps mh me ml LV L2) {m f:MI} (e:aH m=cps.map λc=>(c,zF N NT cps mh LV c)) (h:∃d,bM cB m mh [] d/\ds dJ mh m d f):Cn f (bF N NT cps mh LV):=by
 obtain ⟨d,i,j⟩:=h
 have nd:cps.Nodup:=D.T.g.nd
 have k:=ef e
 have g:=mB i Cn.nil (by rw [D.kh];exact nd) (λ_ _ z=>nomatch z)
 refine (pG j g (by rw [k];exact nd) (λc b l=>absurd (by rw [D.kh,<-k];exact b) l)).congr λc=> ?_
 rw [if_neg (λz=>z.2.1 (by rw [D.kh,<-k];exact z.1)),D.kh]
 unfold bF cB
 by_cases b:c∈cps
 .rw [if_pos b,g4 e,if_pos b]
  by_cases q:0< aa mh c-zF N NT cps mh LV c
  .rw [if_pos ⟨b,q⟩];omega
  .rw [if_neg (λz=>q z.2)]
   show (0:Int)=_
   omega
 .rw [if_neg (λz=>b z.1),if_neg b]
theorem LD.held (D:LD N NT cps mh me ml LV L2) {m:MI} (b:aH m=cps.map λc=>(c,zF N NT cps mh LV c)) (c:Nat):c∈cV mh m cps<->0< bF N NT cps mh LV c:=by
 unfold cV
 rw [Ia,g4 b]
 unfold bF
 by_cases h:c∈cps
 .rw [if_pos h,if_pos h,decide_eq_true_eq]
  exact ⟨λz=>by have:=z.2;omega,λz=>⟨h,by omega⟩⟩
 .rw [if_neg h,if_neg h]
  exact ⟨λz=>absurd z.1 h,λz=>by omega⟩
theorem LD.held_nd (D:LD N NT cps mh me ml LV L2) (m:MI):(cV mh m cps).Nodup:=D.T.g.nd.sublist List.filter_sublist
theorem LD.sp_hi (D:LD N NT cps mh me ml LV L2) (c:Nat):0<=bF N NT cps mh LV c/\(c∈cps->bF N NT cps mh LV c<=aa mh c):=by
 unfold bF
 split
 .rename_i h
  have:=D.z0 h
  have:=(D.h3 c h).1
  exact ⟨by omega,λ_=>by omega⟩
 .rename_i h;exact ⟨Int.le_refl _,λz=>absurd z h⟩
theorem LD.t25 (D:LD N NT cps mh me ml LV L2) {e d m:MI} (f:aH e=cps.map λc=>(c,zF N NT cps mh LV c)) (C:Cn d (bF N NT cps mh LV)) (h:aH m=(cV mh e cps).map λc=>(c,aa mh c-zF N NT cps mh LV c)):d.length=m.length/\∀x∈d,∃v,look? m x.1=some v/\v.1=x.2.2.1:=
 nr C h (D.held_nd e) (λc=>(D.held f c).symm) λc g=>by
  have b:=(D.held f c).mp g
  unfold bF at b⊢
  by_cases q:c∈cps
  .rw [if_pos q] at b⊢;omega
  .rw [if_neg q] at b;omega
theorem LD.t26 (D:LD N NT cps mh me ml LV L2) {d j b m:MI} (i:aH d=cps.map λc=>(c,zF N NT cps mh LV c)) (C:Cn j (bF N NT cps mh LV)) (M:Cn b (sM N NT cps mh me ml LV LV.length)) (h:aH m=(cV mh d cps).map λc=>(c,min (aa me c) (aa ml c)*aa j c)):b.length=m.length/\∀x∈b,∃v,look? m x.1=some v/\v.1=x.2.2.1:=by
 refine nr M h (D.held_nd d) (λc=> ?_) λc f=> ?_
 .rw [D.held i,D.sumM]
  by_cases q:c∈cps
  .rw [if_pos q]
   have e:=(D.e3 c q).1
   have g:=(D.g3 c q).1
   have s:=(D.sp_hi c).1
   constructor
   .intro z
    by_cases r:0< (bF N NT cps mh LV c)
    .exact r
    .have:bF N NT cps mh LV c=0:=by omega
     rw [this,Int.mul_zero] at z;omega
   .intro z;exact Int.mul_pos (by omega) z
  .rw [if_neg q]
   have:bF N NT cps mh LV c=0:=by unfold bF;rw [if_neg q]
   rw [this]
 .have k:=(D.held i c).mp f
  have q:c∈cps:=(Ia.mp f).1
  rw [D.sumM,if_pos q,C.get]
theorem LD.t29 (D:LD N NT cps mh me ml LV L2) {b j m:MI} (C:Cn b (bF N NT cps mh LV)) (J:Cn j (sO N NT cps mh me ml LV LV.length)) (h:aH m=(dU mh cps).map λc=>(c,max (aa me c) (aa ml c)*aa b c+(aa me c+aa ml c)*(aa mh c-aa b c))):j.length=m.length/\∀x∈j,∃v,look? m x.1=some v/\v.1=x.2.2.1:=by
 refine nr J h (D.T.g.nd.sublist List.filter_sublist) (λc=> ?_) λc i=> ?_
 .rw [D.sumO]
  unfold dU
  rw [Ia,decide_eq_true_eq]
  by_cases q:c∈cps
  .rw [if_pos q]
   have e:=(D.e3 c q).1
   have g:=(D.g3 c q).1
   have k:=(D.h3 c q).1
   have s:=(D.sp_hi c).1
   have n:=(D.sp_hi c).2 q
   unfold pi
   have p:0<=max (aa me c) (aa ml c)*bF N NT cps mh LV c:=Int.mul_nonneg (by omega) s
   have l:0<=(aa me c+aa ml c)*(aa mh c-bF N NT cps mh LV c):=Int.mul_nonneg (by omega) (by omega)
   constructor
   .intro z
    refine ⟨q, ?_⟩
    by_cases r:0< (aa mh c)
    .exact r
    .have d:bF N NT cps mh LV c=0:=by omega
     have f:aa mh c-bF N NT cps mh LV c=0:=by omega
     rw [f,d,Int.mul_zero,Int.mul_zero] at z;omega
   .rintro ⟨_,z⟩
    by_cases r:0< (bF N NT cps mh LV c)
    .have:0< max (aa me c) (aa ml c)*bF N NT cps mh LV c:=Int.mul_pos (by omega) r
     omega
    .have:0< (aa me c+aa ml c)*(aa mh c-bF N NT cps mh LV c):=Int.mul_pos (by omega) (by omega)
     omega
  .rw [if_neg q]
   exact ⟨λz=>by omega,λz=>absurd z.1 q⟩
 .have q:c∈cps:=(Ia.mp i).1
  rw [D.sumO,if_pos q,C.get];rfl
end
theorem oT {b:List Nat} (f:b.Nodup) {i c:Nat} (h:b[i]? =some c):b.idxOf c=i:=by
 obtain ⟨d,e⟩:=E8.mp h
 rw [<-e];exact f.idxOf_getElem i d
theorem CQ {b:List Nat} (d:b.Nodup) {i c:Nat} (h:c∈b.take i):c∈b/\b.idxOf c< i:=by
 obtain ⟨k,hk,e⟩:=Is.mp h
 rw [FN] at hk
 rw [GM] at e
 have:=oT d (i:=k) (c:=c) (by rw [<-e];exact Ff (by omega))
 exact ⟨List.mem_of_mem_take h,by omega⟩
theorem uA {b:List Nat} (e:b.Nodup) {c:Nat} (h:c∈b):b.reverse.idxOf c=b.length-1-b.idxOf c:=by
 have d:=Gr h
 have f:b.reverse.Nodup:=(List.reverse_perm b).nodup_iff.mpr e
 refine oT f ?_
 rw [List.getElem?_reverse (by omega)]
 rw [show b.length-1-(b.length-1-b.idxOf c)=b.idxOf c by omega,Ff d]
 rw [List.getElem_idxOf d]
theorem xj {b:List Nat} {pre:Nat->List Nat} {h:Nat->Int} (g:cH b pre h) (f:∀c∈b,h c<=3):∀c∈b,Fn b pre h c<=3*((b.idxOf c:Nat):Int)+3:=by
 have k:=iT g (P:=λc=>c∈b->Fn b pre h c<=3*((b.idxOf c:Nat):Int)+3) λc d j _=>by
  have:An b pre h c<=3*((b.idxOf c:Nat):Int):=fQ (λv i=>by
   obtain ⟨p,hp,rfl⟩:=Gj.mp i
   obtain ⟨e,l⟩:=g.ord c d p hp
   have:=j p hp e
   omega) (by omega)
  have:=d9 g d
  have:=f c d
  omega
 exact λc d=>k c d d
theorem rr {pre:Nat->List Nat} {p:Nat} (hp:(pre p).count p=0):∀{cps:List Nat},(∀c∈cps,(pre c).count p<=2)->(bc cps pre p).length+2*cps.count p<=2*cps.length
 | [],_=>FM _
 | x::cps,h=>by
  have i:=rr hp (cps:=cps) λc b=>h c (E2 _ b)
  have d:=h x EZ
  unfold bc at i⊢
  rw [GN,FU,HX,Fb,List.count_cons]
  by_cases q:x=p
  .subst q
   rw [hp,if_pos (show (x==x)=true by simp)];omega
  .rw [if_neg (show ¬(x==p)=true by simpa using q)];omega
section
variable {N NT:List NL} {cps:List Nat} {n:Nat} {mh me ml:MI}
theorem mM {m:MI} {lo f:Int} (h:∀x∈m,lo<=x.2.2.1/\x.2.2.1<=f) {c:Nat} (d:c∈ak m):lo<=aa m c/\aa m c<=f:=by
 obtain ⟨v,b,e⟩:=eM d
 rw [<-e]
 clear e
 induction m with
 | nil=>cases b
 | cons x m i=>
  obtain ⟨k,t,y⟩:=x
  unfold look? at b
  by_cases q:k=c
  .rw [if_pos q] at b;cases b;exact h (k,t,v) EZ
  .rw [if_neg q] at b
   exact i (λx g=>h x (E2 _ g)) ((GP.mp d).resolve_left λz=>q z.symm) b
theorem nU (b:cps.Nodup) (hk:aU N=cps) {c:Nat} (f:c∈cps):∃i x,N[i]? =some x/\x.c.1=c/\au N c=x.ps/\cps.idxOf c=i:=by
 obtain ⟨x,R,j,e,k,hp,l⟩:=iY (N:=N) (by rw [hk];exact b) (c:=c) (by rw [hk];exact f)
 obtain ⟨i,g,d⟩:=Is.mp j
 have h:N[i]? =some x:=by rw [<-d];exact Ff g
 refine ⟨i,x,h,e,hp,oT b ?_⟩
 rw [<-hk]
 unfold aU
 rw [Fi,h,<-e];rfl
structure mH (N NT:List NL) (cps:List Nat) (mh me ml:MI):Prop where
 c1:bE N cps mh me
 c2:bE NT cps.reverse mh ml
 T:fU cps (λc=>ad (au N c)) (λc=>ad (au NT c)) (aa mh)
 h3:∀c∈cps,0<=aa mh c/\aa mh c<=3
 e3:∀c∈cps,1<=aa me c/\aa me c<=3
 g3:∀c∈cps,1<=aa ml c/\aa ml c<=3
 kh:ak mh=cps
 ke:ak me=cps
 kl:ak ml=cps
theorem mH.ld {b L:List Lv} (D:mH N NT cps mh me ml) (l:cA cps (λc=>ad (au N c)) (aa mh) me b) (d:cA cps.reverse (λc=>ad (au NT c)) (aa mh) ml L):LD N NT cps mh me ml b L:=⟨D.c1,D.c2,D.T,l,d,D.h3,D.e3,D.g3,D.kh,D.ke,D.kl⟩
theorem Bm (M:cps.length=n) (b:cps.Nodup) (P:n<=5) (B:cps≠[]) (J:dH cps n mh me ml N) (V:cY cps N cps.length NT):mH N NT cps mh me ml:=by
 have ct:cps.take n=cps:=by rw [<-M];exact GH
 have o:ak mh=cps:=J.kh.trans ct
 have w:ak me=cps:=J.ke.trans ct
 have y:ak ml=cps:=J.kl.trans ct
 have s:aU N=cps:=J.kn.trans ct
 have kt:aU NT=cps:=V.kt.trans GH
 have l:∀c∈cps,0<=aa mh c/\aa mh c<=3:=λc h=>mM J.vh (by rw [o];exact h)
 have H:∀c∈cps,1<=aa me c/\aa me c<=3:=λc h=>mM J.ve (by rw [w];exact h)
 have I:∀c∈cps,1<=aa ml c/\aa ml c<=3:=λc h=>mM J.vl (by rw [y];exact h)
 have g:cH cps (λc=>ad (au N c)) (aa mh):=⟨b,λc h=>(l c h).1,λc h p hp=>by
  obtain ⟨i,x,f,e,j,r⟩:=nU b s h
  have hp:p∈ad (au N c):=hp
  rw [j] at hp
  have:=CQ b ((J.vn i x f).1 p hp)
  exact ⟨this.1,by rw [r];exact this.2⟩⟩
 have A:∀c∈cps,∀p,(ad (au N c)).count p<=2:=λc h p=>by
  obtain ⟨i,x,f,e,j,r⟩:=nU b s h
  rw [j];exact (J.vn i x f).2.1 p
 have F:∀c∈cps,ad (au NT c)=bc cps (λc=>ad (au N c)) c:=λc h=>by
  obtain ⟨i,x,f,e,j,r⟩:=nU b kt h
  rw [j,V.vt x (Fz f),e]
 have eq:∀c∈cps,∀d,d∈ad (au NT c)<->d∈cps/\c∈ad (au N d):=λc h d=>by
  rw [F c h];exact iG
 have t:cH cps.reverse (λc=>ad (au NT c)) (aa mh):=⟨(List.reverse_perm cps).nodup_iff.mpr b,λc h=>(l c (Gl.mp h)).1,λc h p hp=>by
  have h:=Gl.mp h
  obtain ⟨k,u⟩:=(eq c h p).mp hp
  refine ⟨Gl.mpr k, ?_⟩
  have L:=(g.ord p k c u).2
  have Q:=Gr k
  rw [uA b k,uA b h]
  omega⟩
 have O:∀c∈cps,(ad (au N c)).count c=0:=λc h=>Hl.mpr λz=>by
  have:=(g.ord c h c z).2;omega
 have G:∀{q:List Nat} {E:Nat->List Nat},cH q E (aa mh)->q.length<=5->(∀c∈q,aa mh c<=3)->∀c∈q,Fn q E (aa mh) c<=20:=λg R l c h=>by
  have:=xj g l c h
  have:=Gr h
  omega
 have jb:∀{m:MI} {c:Nat},ak m=cps->c∈cps->∃v,look? m c=some v:=λhk h=>g5 (by rw [hk];exact h)
 have D:mh.length<=8:=by have:=congrArg Fl o;unfold ak at this;rw [Fo] at this;omega
 refine ⟨⟨⟨g,by omega,A,λc h=>jb w h,G g (by omega) λc h=>(l c h).2⟩,B,λc h=>by rw [s];exact h,by rw [s];exact b,λx f=> ?_,D,by rw [o];exact b,λc h=>by rw [o];exact h⟩,
  ⟨⟨t,by rw [Ib];omega,λc h p=> ?_,λc h=>jb y (Gl.mp h),G t (by rw [Ib];omega) λc h=>(l c (Gl.mp h)).2⟩,λz=>B (List.reverse_eq_nil_iff.mp z),λc h=>by rw [kt];exact Gl.mp h,by rw [kt];exact b,λx f=> ?_,D,by rw [o];exact b,λc h=>by rw [o];exact Gl.mp h⟩,
  ⟨g,t,eq⟩,l,H,I,o,w,y⟩
 .obtain ⟨i,r,j⟩:=Is.mp f
  have k:N[i]? =some x:=by rw [<-j];exact Ff r
  have u:=(J.vn i x k).2.2
  have L:N.length=n:=by have:=congrArg Fl s;unfold aU at this;rw [Fo] at this;omega
  omega
 .have h:=Gl.mp h
  rw [F c h,nq _ _ _ b]
  split
  .rename_i hp;exact A p hp c
  .omega
 .have C:x.c.1∈cps:=by rw [<-kt];exact Fa f
  rw [<-eV,V.vt x f]
  have k:=rr (pre:=λc=>ad (au N c)) (p:=x.c.1) (O _ C) (cps:=cps) λc h=>A c h _
  have u:=HY.mpr C
  omega
end
theorem zp (w:E7) (Y:Lw) (L:List Lv) (k:List E4) (q:KF w.params k) (f d t:Nat) (zF:Nat->Int) (g:∀c∈Y.cps,c< 128) (G:Y.cps.Nodup) (H:Y.cps≠[]) (i:Y.lg=(Y.LV.length:Nat)) (E:L.length=Y.LV.length) (D:Y.LV.length<=900) (F:Y.ws.length=Y.hs.length) (B:∀x∈Y.ws,x.1.length<=900) (M:Y.ws.length<=900) (A:Y.cps.length<=5) (C:∀c∈Y.cps,∃a,kR c Y.mh Y.me Y.ws Y.hs Y.LV Y.lg a (zF c)):ax (env w) (rM w Y L k f d t zF) (Dn (.block (((aI w.params).drop 17).take 3) (aq w.params Y))):=by
 let N:∀{w:E7} {k:List E4} {Y:Lw} {L:List Lv} {f d t:Nat} {zF:Nat->Int} (g:∀c∈Y.cps,c< 128) (m e:Nat) (o:(aD Y.LV).length=m) (p:(aD L).length=e) (l:((m:Nat):Int)=Y.lg) (n:((e:Nat):Int)=Y.lg) (I:(aD Y.LV).length<=1000) (J:(aD L).length<=1000) (hk:∀(j S f s:Nat),ab (env w) (gK w Y j S Y.lg (λr=>aH r=Y.cps.map (λc=>(c,zF c))) k [] 0 f d t s [])),PP (env w) (rM w Y L k f d t zF):= @λw k Y L f d t zF g m e o p l n I J hk _ T=>
  .seg 68853694464 λU=>
  .use _ (dv Fq w Y.FA Y.fan (aD Y.LV) m o (by omega)) [13] [] λQ h2=>
  .seg 4098 λX=>
  .use _ (gn w (↑m:Int) Y.lg Q Y.tl l) [] [] λx4 h4=>
  .seg 68753031168 λZ=>
  .use _ (dv Fq w Y.bk Y.n2 (aD L) e p (by omega)) [14] [] λR h6=>
  .seg 4099 λO7=>
  .use _ (gn w (↑e:Int) Y.lg R Y.tl n) [] [] λx8 h8=>
  .seg 68803411980 λO=>
  .use _ (fL w Y.cps Y.tN g) [] [] λP ac=>
  .seg 1 λV=>
  .use _ (hk P (O 0) f 0) [0,3,4,4,4,4,4,4,4,4,4,4,4,2,0] [0] λb y=>
  .seg 0 λW=>
  T ((b.1,(b.2.1.1,b.2.1.2.1,b.2.1.2.2),b.2.2.1,b.2.2.2.1,b.2.2.2.2.1,b.2.2.2.2.2,O 0)) y [] [0,14,0,0,0,0,0,0,0,0,0,0,0,0,1,0] [0]
 have u:(aD Y.LV).length=Y.LV.length:=by unfold aD;rw [Fo]
 have v:(aD L).length=Y.LV.length:=by unfold aD;rw [Fo];exact E
 have hk:=λ(j S f s:Nat)=>ya w {Y with it:=j,SD:=S,fe:=f,se:=s} _ k q G i D F B M A zF C (λr h=>h) H d t
 rcases q with rfl | ⟨k4,v4,rfl⟩<;>exact aG _ (N g Y.LV.length Y.LV.length u v i.symm i.symm (by omega) (by omega) hk)
section
variable {N NT:List NL} {cps:List Nat} {mh me ml ms mp:MI} {LV L2:List Lv} {hd2:List (Nat×Nat)}
theorem oO {m:MI} {l:List Nat} (h:ak m=l):m.length=l.length:=by rw [<-h];unfold ak;rw [Fo]
theorem uD (h:ad hd2=cV mh ms cps):∀x∈hd2,x.1∈cps:=λx b=>by
 have:x.1∈ad hd2:=Fa b
 rw [h] at this
 exact (Ia.mp this).1
theorem uC (h:ad hd2=cV mh ms cps) (b:cps.length<=5):hd2.length<=900:=by
 rw [<-eV,h]
 have:=List.length_filter_le (λc=>decide (aa ms c< aa mh c)) cps
 unfold cV;omega
theorem LD.sp8 (D:LD N NT cps mh me ml LV L2) (C:Cn mp (bF N NT cps mh LV)):mp.length<=8:=by
 have b:=D.five
 exact FZ (C.len (cs:=cps) λc h=>Hw λq=>by unfold bF at h;rw [if_neg q] at h;omega) (by omega)
theorem LD.x25 (D:LD N NT cps mh me ml LV L2) (b:aH ms=cps.map (λc=>(c,zF N NT cps mh LV c))) (f:ad hd2=cV mh ms cps):∀x∈hd2,∃v u:Int×Nat,look? mh x.1=some v/\look? ms x.1=some u/\v.1-u.1=aa mh x.1-zF N NT cps mh LV x.1:=λx j=>by
 have h:=uD f x j
 obtain ⟨v,i,e⟩:=eM (m:=mh) (c:=x.1) (by rw [D.kh];exact h)
 obtain ⟨u,g,d⟩:=eM (m:=ms) (c:=x.1) (by rw [ef b];exact h)
 refine ⟨v,u,i,g, ?_⟩
 rw [e,d,g4 b,if_pos h]
theorem LD.x26 (D:LD N NT cps mh me ml LV L2) (d:ad hd2=cV mh ms cps):∀x∈hd2,∃v u:Int×Nat,look? me x.1=some v/\look? ml x.1=some u/\(min v.1 u.1).natAbs< 1000000/\min v.1 u.1*aa mp x.1=min (aa me x.1) (aa ml x.1)*aa mp x.1:=λx i=>by
 have h:=uD d x i
 obtain ⟨v,g,e⟩:=eM (m:=me) (c:=x.1) (by rw [D.ke];exact h)
 obtain ⟨u,f,b⟩:=eM (m:=ml) (c:=x.1) (by rw [D.kl];exact h)
 have b1:=D.e3 x.1 h
 have j:=D.g3 x.1 h
 exact ⟨v,u,g,f,by omega,by rw [e,b]⟩
theorem LD.x28 (D:LD N NT cps mh me ml LV L2):∀c∈cps,∃v s u:Int×Nat,look? mh c=some v/\look? me c=some s/\look? ml c=some u/\(max s.1 u.1).natAbs< 1000000/\(s.1+u.1).natAbs< 1000000/\max s.1 u.1*aa mp c+(s.1+u.1)*(v.1-aa mp c)=max (aa me c) (aa ml c)*aa mp c+(aa me c+aa ml c)*(aa mh c-aa mp c):=λc h=>by
 obtain ⟨v,i,e⟩:=eM (m:=mh) (c:=c) (by rw [D.kh];exact h)
 obtain ⟨s,f,b⟩:=eM (m:=me) (c:=c) (by rw [D.ke];exact h)
 obtain ⟨u,g,d⟩:=eM (m:=ml) (c:=c) (by rw [D.kl];exact h)
 have b1:=D.e3 c h
 have j:=D.g3 c h
 exact ⟨v,s,u,i,f,g,by omega,by omega,by rw [e,b,d]⟩
end
def fM (w:E7) (Y:Lw) (e:Nat):af:={d:=140,α:=Unit,c:= .func (aI w.params) (aq w.params Y),need:=[(Y.fr,bv [es w.params [115,99,114,105,112,116] Y.k1 (.ref Y.sa)] e Y.sl),(Y.c1,br),(Y.c2,br),(Y.c3,br),(Y.c4,br),(Y.c5,br),(Y.c6,br),(Y.c7,br),(Y.c8,br),(Y.c9,br),(Y.c10,br),(Y.c11,br),(Y.c12,br),(Y.sa,ae (Y.xs.map iv) Y.n0)],r:=λ_=> .ok (.ret (.bool true)),new:=λ_=>[(Y.sa,ae (Y.xs.map iv) Y.n0)],outer:=some []}
def ij (P:E6) (x:List E4):Prop:=x=[]\/∃k b kt,x=[es P [107] k (.int b kt)]
theorem ij.kf {P:E6} {x:List E4} (h:ij P x):KF P x:=by
 rcases h with rfl | ⟨k,b,kt,rfl⟩
 .exact .inl rfl
 .exact .inr ⟨k,_,rfl⟩
theorem zj (w:E7) (Y:Lw) (n:Nat) (k:List E4) (s:ij w.params k) (f:Nat) (d:n<=5) (y:0< n) (v:Y.cps.length=n) (A:Y.cps.Nodup) (B:Y.ys.length=n+n*(n-1)/2):ax (env w) (rI w Y n k f) (Dn (.block (((aI w.params).drop 4).take 5) (aq w.params Y))):=by
 let C:∀{w:E7} {k:List E4} {Y:Lw} {n:Nat} {f:Nat} (d:n<=5) (b:∀(p o e la nd:Nat) (l:Int) (t q r f i g j m:Nat),l=((n:Nat):Int)->ab (env w) {sJ w Y p o e la nd ((n:Nat):Int) (dH Y.cps n) k 0 l t q r f [] br [] [] [] i g j [] m [] with needB:=[]}),PP (env w) (rI w Y n k f):= @λw k Y n f d b _ E=>
  .seg 0x100100100100100100100100100100100100100100500000000b00b009009007007005005 λO=>
  .use _ (lM w (O 6) 0 (↑n:Int) (O 4) Y.tn (O 5) ((↑n:Int)-0) (by omega) rfl) [0] [] λD H=>
  .seg 2 λF=>
  .use _ (b D (O 0) (O 1) (O 2) (O 3) ((↑n:Int)-0) 0 0 0 f 0 0 0 0 (by trivial)) [1,5,5,5,5,5,5,5,5,4,3,2,1] [] λx u=>
  .seg 0 λG=>
  E (((x.1.1,x.1.2.1,x.1.2.2.1,x.1.2.2.2.1,x.1.2.2.2.2),(x.2.1.1,x.2.1.2.1,x.2.1.2.2.1,x.2.1.2.2.2),(x.2.2.1,x.2.2.2.1,x.2.2.2.2.1,x.2.2.2.2.2),O 0,O 1,O 2,O 3)) u [] [0,0,0,0,0,0,0,0,0,0,0] [0]
 have b:=λ(p o e la nd:Nat) (l:Int) (t q r f i g j m:Nat)=>Cm w {Y with nd:=nd} p o e la (dH Y.cps n) k s n d v A B (λ_ _ _ _ h=>h) y l t q r f i g j m
 rcases s with rfl | ⟨I,J,kt,rfl⟩<;>exact aG _ (C d b)
theorem zi (w:E7) (Y:Lw) (j f:Nat) (d:Int) (v:List E4) (D:ij w.params v) (s:Y.cps.Nodup) (p:Y.cps.length<=5) (g:∀c∈Y.cps,c< 128) (r:(aU Y.N).Nodup) (hk:∀c∈Y.cps,c∈aU Y.N) (q:∀x∈Y.N,x.ps.length<=10) (t:Y.cps≠[]):ax (env w) (yu w {Y with fe:=f} j d v) (Dn (.block (((aI w.params).drop 9).take 2) (aq w.params Y))):=by
 rcases D with rfl | ⟨u,y,kt,rfl⟩
 .exact aG _ (have m:∀(i k T f e:Nat),ab (env w) {fc w {Y with k6:=k,T:=T,fe:=f} i j d Y.N (cY Y.cps Y.N Y.cps.length) [] 0 br [] e [] with needB:=[bh Y.N]}:=(λi k T f e=>w2 w {Y with k6:=k,T:=T,fe:=f} i j d Y.N (cY Y.cps Y.N Y.cps.length) s p g r hk q t (λ_ h=>h) e);λ_ o=> .seg 68769816578 λO=> .use _ (fL w Y.cps Y.tN g) [] [] λn C=> .seg 1 λA=> .use _ (m n (O 1) (O 0) (f+1) 0) [0,1,1,1,1,1,0] [0] λb l=> .seg 0 λB=>o ((b.1,b.2.1,(b.2.2.1,b.2.2.2),f+1,O 1,O 0)) l [] [0,0,0,0,0,0] [0,0])
 .exact aG _ (have m:∀(i k T f e:Nat),ab (env w) {fc w {Y with k6:=k,T:=T,fe:=f} i j d Y.N (cY Y.cps Y.N Y.cps.length) [es w.params [107] u (.int y kt)] 0 br [] e [] with needB:=[bh Y.N]}:=(λi k T f e=>w3 w {Y with k6:=k,T:=T,fe:=f} i j d Y.N (cY Y.cps Y.N Y.cps.length) u kt y s p g r hk q t (λ_ h=>h) e);λ_ o=> .seg 68769816578 λO=> .use _ (fL w Y.cps Y.tN g) [] [] λn C=> .seg 1 λA=> .use _ (m n (O 1) (O 0) (f+1) 0) [0,1,1,1,1,1,0] [0] λb l=> .seg 0 λB=>o ((b.1,b.2.1,(b.2.2.1,b.2.2.2),f+1,O 1,O 0)) l [] [0,0,0,0,0,0] [0,0])
theorem zu (w:E7) (Y:Lw) (k:List E4) (d:KF w.params k) (h:cU Y.hs=Y.lg) (b:Y.hs≠[]):ax (env w) (jV w Y k) (Dn (.block [aA (aI w.params) 14] (aq w.params Y))):=by
 rcases d with rfl | ⟨e,v,rfl⟩
 .exact zv w Y h b
 .exact zw w Y e v h b
theorem zq (w:E7) (Y:Lw) (e:Nat) (N:List NL) (k:List E4) (i:KF w.params k) (C:bE Y.N Y.cps Y.mh Y.me) (b:bE N Y.cps.reverse Y.mh Y.ml) (h:∀c∈Y.cps,c< 128) (f:Y.cps.length=3\/Y.cps.length=4\/Y.cps.length=5):fy (env w) (ny w Y e N k) (.func (aI w.params) (aq w.params Y)) (Dn (.block (((aI w.params).drop 15).take 2) (aq w.params Y))):=by
 have d:∀c∈Y.cps.reverse,c< 128:=λc g=>h c (Gl.mp g)
 rcases i with rfl | ⟨j,v,rfl⟩
 .exact zr w Y e N C b h d f
 .exact zt w Y e N j v C b h d f
theorem pY {N:List NL}:∀{cps:List Nat} {W:List (List Nat)},(cps.foldl (fu N) W).length<=W.length*2^cps.length
 | [],W=>by show W.length<=W.length*1;omega
 | c::cps,W=>by
  have i:=pY (N:=N) (cps:=cps) (W:=fu N W c)
  have h:(fu N W c).length<=W.length*2:=by
   have:=pZ (ad (au N c)) c W
   unfold fu
   rw [FU];omega
  have b:(fu N W c).length*2^cps.length<=W.length*2*2^cps.length:=Nat.mul_le_mul_right _ h
  rw [Fb,Nat.pow_succ,Nat.mul_comm (2^cps.length) 2,<-Nat.mul_assoc]
  exact FZ i b
theorem wd {Y:Lw} {h:Nat->Int} (g:cH Y.cps (λc=>ad (au Y.N c)) h) {x:List Nat} (p:x∈cb Y.N Y.cps):x.length<=Y.cps.length:=by
 obtain ⟨a,b⟩:=(eB g x).mp p
 have nd:∀{y:List Nat},b6 (λc=>ad (au Y.N c)) y->(∀e∈y,e∈Y.cps)->y.Nodup/\∀c z,y=c::z->∀e∈z,Y.cps.idxOf e< Y.cps.idxOf c:=by
  intro y
  induction y with
  | nil=>intro _ _;exact ⟨Gt,λ_ _ e=>nomatch e⟩
  | cons c y r=>
   intro q j
   obtain ⟨i,n⟩:=r (sI q) λe f=>j e (E2 _ f)
   have k:∀e∈y,Y.cps.idxOf e< Y.cps.idxOf c:=λe f=>by
    cases y with
    | nil=>cases f
    | cons d z=>
     have o:=(g.ord c (j c EZ) d q.1).2
     rcases GP.mp f with rfl | f
     .exact o
     .have:=n d z rfl e f;omega
   refine ⟨GO.mpr ⟨λz=>by have:=k c z;omega,i⟩,λs z e=> ?_⟩
   injection e with l m
   subst l;subst m
   exact k
 have i:=(nd a λe f=>b e (Gl.mp f)).1
 have:=iA i λe f=>b e (Gl.mp f)
 rwa [Ib] at this
theorem Cl {b:List Nat} {n:Nat} {g m j:MI} {N:List NL} (J:dH b n g m j N) (k:aU N=b) (q:b.length=n) (p:n<=5):∀x∈N,x.ps.length<=10:=λx f=>by
 obtain ⟨i,d,e⟩:=Is.mp f
 have h:N[i]? =some x:=by rw [<-e];exact Ff d
 have l:=(J.vn i x h).2.2
 have o:N.length=n:=by have:=congrArg Fl k;unfold aU at this;rw [Fo] at this;omega
 omega
theorem wj {Y:Lw} {N:List NL} (D:mH Y.N N Y.cps Y.mh Y.me Y.ml) (i:∀c∈Y.cps,c< 128) (j:Y.cps.length<=5) {ws:List (List Nat×Nat)} (h:ws.map (λx=>x.1)=cb Y.N Y.cps):ws.length<=900/\∀x∈ws,x.1.length<=900/\(∀c∈x.1,c< 128)/\∀c∈x.1,∃v,look? Y.mh c=some v:=by
 have d:=congrArg Fl h
 rw [Fo] at d
 have e:=pY (N:=Y.N) (cps:=Y.cps) (W:=[[]])
 have l:2^Y.cps.length<=2^5:=Nat.pow_le_pow_right (by decide) j
 refine ⟨?_,λx k=> ?_⟩
 .rw [d]
  have e:(cb Y.N Y.cps).length<=1*2^Y.cps.length:=e
  omega
 .have g:x.1∈cb Y.N Y.cps:=by rw [<-h];exact Fa k
  have m:=wd D.T.g g
  have f:=((eB D.T.g x.1).mp g).2
  exact ⟨by omega,λc b=>i c (f c b),λc b=>g5 (by rw [D.kh];exact f c b)⟩
theorem zx (w:E7) (Y:Lw) (k t:Nat) (G:(aU Y.N).Nodup) (hk:∀c∈Y.cps,c∈aU Y.N) (m:∀c∈Y.cps,c< 128) (D:Y.cps.length<=5) (r:∀{ws:List (List Nat×Nat)},ws.map (λx=>x.1)=cb Y.N Y.cps->ws.length<=900/\∀x∈ws,x.1.length<=900/\(∀c∈x.1,c< 128)/\∀c∈x.1,∃v,look? Y.mh c=some v):ax (env w) (yw w Y k t) (Dn (.block (((aI w.params).drop 11).take 3) (aq w.params Y))):=by
 have J:=λ(i W f u:Nat)=>wh w Y i (λo=>o.map (λx=>x.1)=cb Y.N Y.cps) G hk m Y.cps 0 k t W f [([],u)] rfl (by
  show 1*2^Y.cps.length<=32
  rw [Nat.one_mul]
  exact Nat.pow_le_pow_right (by decide) D) (λx L=>by rw [Gb.mp L];show 0+_<=10;omega) (λo H=>H)
 exact aG _ (λ_ s=> .seg 68753055750 λj=> .use _ (fL w Y.cps Y.tN m) [] [] λP R=> .seg 1 λQ=> .use _ (J P (j 1) 0 (j 0)) [0,3,3,3,4,0] [0] λb h=> .seg 0x1001005001005005003 λO=> .use _ ((λws q C i A W f B M=>CT w {Y with it:=i,W:=W,wn:=f,ws:=ws} C A (r q).2 (r q).1 B M) (b.1) h (O 2) (O 0) (O 1) (b.2.2.2.1) (b.2.2.2.2) 0 0) [2,0,0,4,5,6] [] λd n=>have p:(λ(N:List (Int×Nat))=>Gv (λ(g:Int×Nat)=>g.1) N=fs Y.mh (Gv (λ(g:List Nat×Nat)=>g.1) b.1)) d.1:=(Fv n);have E:eW w.params d.2.2.1:=(Fe n); .or _ _ (E) (λe=> .view [0] [] _ _ _ _ ((bC (a:=O 2) (congrArg (λl=>oD l d.2.2.2) e))) (.seg 184594433 λy=>s ((b.1,d.1,(b.2.1,b.2.2.1),(b.2.2.2.1,b.2.2.2.2),O 1,d.2.1)) ⟨h,p⟩ [] [9,3,4,4,4,5,4,3,2,1] [0])) (λe=> .pick _ _ (e) λS F=> .pick _ _ (F) λT I=> .view [0] [] _ _ _ _ ((bC (a:=O 2) (congrArg (λl=>oD l d.2.2.2) I))) (.seg 0xb00b001001001 λy=>s ((b.1,d.1,(b.2.1,b.2.2.1),(b.2.2.2.1,b.2.2.2.2),O 1,d.2.1)) ⟨h,p⟩ [] [9,3,4,4,4,5,4,3,2,1] [0])))
def yv (w:E7) (Y:Lw) (L:Nat) (b:List (Int×Nat)):af:={d:=25,α:=List E4×Nat×List (Int×Nat)×Nat,c:= .block [aA (aI w.params) 3] (aq w.params Y),need:=[(Y.fr,bv [es w.params [115,99,114,105,112,116] Y.k1 (.ref Y.sa),es w.params [115,105,122,101] Y.k2 (.int Y.nn Y.tn),es w.params [99,101,108,108,115] Y.k3 (.ref Y.y)] Y.fe Y.sl),(Y.sa,ae (b.map iv) Y.n0),(Y.y,ae (Y.ys.map iv) Y.yn)],new:=λx=>[(Y.fr,bv ([es w.params [115,99,114,105,112,116] Y.k1 (.ref Y.sa),es w.params [115,105,122,101] Y.k2 (.int Y.nn Y.tn),es w.params [99,101,108,108,115] Y.k3 (.ref Y.y)]++(x.1++[])) x.2.1 Y.sl),(Y.sa,ae (b.map iv) Y.n0),(Y.y,ae (x.2.2.1.map iv) x.2.2.2)],post:=λx=>ij w.params x.1/\x.2.2.1.length=L}
theorem zk (w:E7) (Y:Lw) (L:Nat) (g:List (Int×Nat)) (i:Y.ys.length=L) (l:L≠0) (n:L<=20) (q:g.length<=63):ax (env w) (yv w Y L g) (Dn (.block [aA (aI w.params) 3] (aq w.params Y))):=by
 cases g with
 | nil=>exact aG _ (λ_ h=> .seg 0x1001000000000000 λj=> .use _ (dv iv w Y.sa Y.n0 ([]) 0 rfl (by trivial)) [1] [] λe m=> .seg 0x1001001001001001001001001001001001001001 λO=> .use _ (lM w (O 2) 0 0 (O 0) e (O 1) 0 (by trivial) rfl) [0] [] λf o=> .seg 2 λk=> .seg 137455738881 λr=> .use _ (cg w f 0 0 1 0 0 0 (by trivial)) [1] [] λv u=> .seg 4098 λt=>h ([],Y.fe,Y.ys,Y.yn) ⟨.inl rfl,i⟩ [] [5,4,4] [])
 | cons x d=>exact aG _ (λ_ h=> .seg 0x1001000000000000 λj=> .use _ (dv iv w Y.sa Y.n0 (x::d) (Fl (x::d)) rfl (by omega)) [1] [] λe m=> .seg 0x1001001001001001001001001001001001001001 λO=> .use _ (lM w (O 2) 0 ((↑(Fl (x::d)):Int)) (O 0) e (O 1) ((↑(Fl (x::d)):Int)-0) (by omega) rfl) [0] [] λf o=> .seg 2 λk=> .use _ (Eu w {Y with it:=f,xs:=x::d} L l n q (by simp) ((↑(Fl (x::d)):Int)-0) 0 0 0 Y.fe Y.yn (by trivial) i) [1,2,1,1] [] λb p=> .seg 0 λs=>h ([es w.params [107] b.1.1 (.int b.1.2.1 b.1.2.2)],b.2.1,b.2.2.1,b.2.2.2) ⟨.inr ⟨_,_,_,rfl⟩,p⟩ [] [0,0,0] [])
theorem C0 (w:E7) (Y:Lw) (g:Nat) (l:((Y.xs.map (λx:Int×Nat=>x.1)).sum).fmod 3=0) (k:Y.cps=[97,98,99]) (m:Y.nn=3):ax (env w) (iO w Y g 6) (Dn (.block ((aI w.params).take 3) (aq w.params Y))):=by
 unfold iO
 rw [k,m]
 exact aG _ (λ_ r=> .seg 0x1001003001003003001001001000000 λO=> .use _ (jL w (O 1) Y.sa Y.n0 (O 3) 0 (O 2) Y.xs ((Y.xs.map (λx:Int×Nat=>x.1)).sum) rfl) [1,3,0] [] λp B=> .seg 1 λi=> .use _ (eO w ((Y.xs.map (λx:Int×Nat=>x.1)).sum) 3 p (i 0) 0 (by trivial) l) [] [] λq C=> .seg 1 λu=> .use _ (b8 w 3 0 (O 0) q 3 rfl) [] [] λe D=> .seg 68753039362 λj=> .seg 0x2001002002002004004004001001001001001 λb=> .seg 0x1007007001002001001001001001001 λd=> .use _ (bx w 3 1 e (d 12) 2 rfl) [] [] λn v=> .seg 1 λs=> .use _ (gp w 3 2 e n 6 (by trivial) rfl) [] [] λo y=> .seg 1 λh=> .use _ (g9 w 6 2 o (h 0) 3 (by trivial) (by trivial) rfl) [] [] λE A=> .seg 563018706460674 λt=> .seg 0xa00a001004001001004001004001004001002001001001001001001 λf=>r (((j 0,e,f 2,g+1+1,b 0),f 1,[(10,b 1),(13,b 2),(29,b 3),(2,d 1),(0,d 2),(0,d 3)],0)) (by trivial) [] [9,9,8,0] [])
theorem CZ (w:E7) (Y:Lw) (g:Nat) (l:((Y.xs.map (λx:Int×Nat=>x.1)).sum).fmod 3=1) (k:Y.cps=[97,98,99,100]) (m:Y.nn=4):ax (env w) (iO w Y g 10) (Dn (.block ((aI w.params).take 3) (aq w.params Y))):=by
 unfold iO
 rw [k,m]
 exact aG _ (λ_ r=> .seg 0x1001003001003003001001001000000 λd=> .use _ (jL w (d 1) Y.sa Y.n0 (d 3) 0 (d 2) Y.xs ((Y.xs.map (λx:Int×Nat=>x.1)).sum) rfl) [1,3,0] [] λp B=> .seg 1 λi=> .use _ (eO w ((Y.xs.map (λx:Int×Nat=>x.1)).sum) 3 p (i 0) 1 (by trivial) l) [] [] λq C=> .seg 1 λu=> .use _ (b8 w 3 1 (d 0) q 4 rfl) [] [] λe D=> .seg 68753039362 λj=> .seg 0x2001002002002004004004001001001001001 λb=> .seg 0x1007007001002001001001001001001 λO=> .use _ (bx w 4 1 e (O 12) 3 rfl) [] [] λn v=> .seg 1 λs=> .use _ (gp w 4 3 e n 12 (by trivial) rfl) [] [] λo y=> .seg 1 λh=> .use _ (g9 w 12 2 o (h 0) 6 (by trivial) (by trivial) rfl) [] [] λE A=> .seg 563018706460674 λt=> .seg 0xa00a001004001001004001004001004001002001001001001001001 λf=>r (((j 0,e,f 2,g+1+1,b 0),f 1,[(10,b 1),(13,b 2),(29,b 3),(20,b 4),(2,O 1),(0,O 2),(0,O 3),(0,O 4),(3,O 5),(2,O 6)],0)) (by trivial) [] [9,9,8,0] [])
theorem CY (w:E7) (Y:Lw) (h:Nat) (l:((Y.xs.map (λx:Int×Nat=>x.1)).sum).fmod 3=2) (k:Y.cps=[97,98,99,100,101]) (m:Y.nn=5):ax (env w) (iO w Y h 15) (Dn (.block ((aI w.params).take 3) (aq w.params Y))):=by
 unfold iO
 rw [k,m]
 exact aG _ (λ_ r=> .seg 0x1001003001003003001001001000000 λd=> .use _ (jL w (d 1) Y.sa Y.n0 (d 3) 0 (d 2) Y.xs ((Y.xs.map (λx:Int×Nat=>x.1)).sum) rfl) [1,3,0] [] λp B=> .seg 1 λj=> .use _ (eO w ((Y.xs.map (λx:Int×Nat=>x.1)).sum) 3 p (j 0) 2 (by trivial) l) [] [] λq C=> .seg 1 λu=> .use _ (b8 w 3 2 (d 0) q 5 rfl) [] [] λe D=> .seg 68753039362 λg=> .seg 0x2001002002002004004004001001001001001 λb=> .seg 0x1007007001002001001001001001001 λO=> .use _ (bx w 5 1 e (O 12) 4 rfl) [] [] λn v=> .seg 1 λs=> .use _ (gp w 5 4 e n 20 (by trivial) rfl) [] [] λo y=> .seg 1 λi=> .use _ (g9 w 20 2 o (i 0) 10 (by trivial) (by trivial) rfl) [] [] λE A=> .seg 563018706460674 λt=> .seg 0xa00a001004001001004001004001004001002001001001001001001 λf=>r (((g 0,e,f 2,h+1+1,g 1),f 1,[(10,b 0),(13,b 1),(29,b 2),(20,b 3),(27,b 4),(2,O 1),(0,O 2),(0,O 3),(0,O 4),(3,O 5),(2,O 6),(0,O 7),(0,O 8),(2,O 9),(0,O 10)],0)) (by trivial) [] [9,9,8,0] [])
theorem BU (w:E7) (g:Lw) (o:Nat) (IC:g.xs.length<=63):∃π:Pc w (aq w.params g) (.func (aI w.params) (aq w.params g)) (fM w g o),gz (some []) [] 140 π (.run (aI w.params)) (bg (fM w g o).need++[]):=by
 let Iy:∀(w:E7) (z z2 n1:Nat) (Y:Lw) (m O:MI) (V:m.length=O.length) (hs:∀x∈m,∃Iz,look? O x.1=some Iz/\Iz.1=x.2.2.1),PP (env w) ({bl [(z,dO w.params (.type "dict") none iv m n1),(z2,dO w.params (.type "dict") none iv O Y.n2)] (.ret (.bool false)) with d:=20}):= @λw z z2 n1 Y m O V hs _ P=>
  .seg 281543712972801 λR=>
  .use _ (DS w z z2 m O n1 Y.n2 V hs) [0,0] [] λb h2=>
  .seg 0 λO3=>
  P () trivial [0,0] [] []
 let IF:∀(Y:Lw) (c0 t0:Nat) (N:List NL) (Q:List Lv) (l:List E4) (s:KF w.params l) (D:LD Y.N N Y.cps Y.mh Y.me Y.ml Y.LV Q) (hw:Y.ws.map (λx=>x.1)=cb Y.N Y.cps) (ac:Y.hs.map (λx=>x.1)=fs Y.mh (Y.ws.map (λx=>x.1))) (W:Y.lg=(Y.LV.length:Nat)) (i:∀c∈Y.cps,c< 128) (h9:∀x∈Y.ws,x.1.length<=900) (Ix:Y.ws.length<=900),Pc w (aq w.params Y) (.func (aI w.params) (aq w.params Y)) (fM w g o):=λY c0 t0 N Q l s D hw ac W i h9 Ix=>
  have B:Y.cps.length<=5:=D.five
  have j:Y.cps.Nodup:=D.T.g.nd
  have V:Y.ws.length=Y.hs.length:=by
   have:=congrArg Fl ac
   unfold fs at this
   simpa using this.symm
  have It:Y.cps.length<=10:=by omega
  .blk _ _ ((zp w Y Q l s Y.fe c0 t0 (zF Y.N N Y.cps Y.mh Y.LV) i j D.c1.ne W D.len2 (by have:=D.lvl;omega) V h9 Ix B (D.skc hw ac W)).c _) .next 3 [0,0,0,0,16,16,14,2,17,4,4,12,11,5,5,7] λd E=>
  have E:aH d.1=Y.cps.map (λc=>(c,zF Y.N N Y.cps Y.mh Y.LV c)):=E
  have gt:ak d.1=Y.cps:=ef E
  let Y:Lw:={Y with ms:=d.1,k9:=d.2.1.1,a:=d.2.1.2.1,ta:=d.2.1.2.2,fe:=d.2.2.1,se:=d.2.2.2.2.2.1,SD:=d.2.2.2.2.2.2}
  .blk _ _ ((zn w Y Q l s Y.fe (λmm jj=>Cn mm (sM Y.N N Y.cps Y.mh Y.me Y.ml Y.LV Y.LV.length)/\Cn jj (sO Y.N N Y.cps Y.mh Y.me Y.ml Y.LV Y.LV.length)) W _ D.klc D.kl0 (λmm jj h=>h)).c _) .next 3 [0,6,11,11,12,19] λb A=>
  have A:(Cn b.1.1 (sM Y.N N Y.cps Y.mh Y.me Y.ml Y.LV Y.LV.length)/\Cn b.2.1.1 (sO Y.N N Y.cps Y.mh Y.me Y.ml Y.LV Y.LV.length))/\KM w.params b.2.2.1.1 b.2.2.1.2:=A
  have few:=D.klc.few Y.LV.length _ _ A.1
  have hk:=A.2
  let Y:Lw:={Y with Mt:=b.1.2.2.1,Jn:=b.2.1.2.2.1,fe:=b.2.2.2.1,k10:=b.2.2.2.2.1,k11:=b.2.2.2.2.2}
  .blk _ _ ((xT w Y (by have:=oO D.kh;omega) (by have:=D.kh;show (ak Y.mh).Nodup;rw [this];exact j) (by have:=oO gt;show d.1.length<=8;omega) (by show (ak d.1).Nodup;rw [gt];exact j) (λz=>by have:=oO D.kh;rw [z] at this;exact D.c1.ne (GJ.mp this.symm))).c _) .next 1 [31,11,15,15,18] λf ID=>
  have C:Cn f.1 (bF Y.N N Y.cps Y.mh Y.LV):=D.spare E ID
  let Y:Lw:={Y with mp:=f.1,spe:=f.2.1,Sp:=f.2.2.1,Spd:=f.2.2.2.1}
  .blk _ _ ((zm w Y b.2.2.1.1 b.2.2.1.2 hk i (λc U=>⟨g5 (by have:=D.kh;show c∈ak Y.mh;rw [this];exact U),g5 (by show c∈ak d.1;rw [gt];exact U)⟩) It).c _) .next 1 [7,16,1,1,1,1] λq r=>
  have r:ad q.1=cV Y.mh d.1 Y.cps:=r
  let Y:Lw:={Y with hn:=q.2.1,k12:=q.2.2.1,hl:=q.2.2.2.1,fe:=q.2.2.2.2}
  .cmp _ _ (λ(y:Nat×Nat) (z:Nat×MI×Nat)=>{bl [(y.1,dO w.params (.type "dict") none iv f.1 y.2),(z.1,dO w.params (.type "dict") none iv z.2.1 z.2.2)] (.ret (.bool false)) with d:=20}) .NotEq (bI (aA (aI w.params) 25)) (λy:Nat×Nat=>y.1) (λz:Nat×MI×Nat=>z.1) true false [7,7,7] [4,9,5,5,5,5] [10,6]
   (aG _ (λ_ P=> .seg 0x1001001001001001001001001000000 λR=> .use _ (pj w (R 0) 0 Y.Sp Y.Spd f.2.2.2.2 f.1 Y.spe (D.sp8 C) C.nd) [0,1,1] [] λb h2=> .seg 0 λO3=>P (R 0,b) trivial [] [3,1,1,0] []:PP (env w) (yT w Y f.2.2.2.2)))
   (zG w Y q.1 (λc=>aa Y.mh c-zF Y.N N Y.cps Y.mh Y.LV c) b.2.2.1.1 b.2.2.1.2 hk (by rw [r];exact D.held_nd _) (uC r B) (D.x25 E r)) (λ_ _=>rfl)
   (λy z _ hz=>have t:=D.t25 E C (m:=z.2.1) (r▸hz);aG _ (Iy w y.1 z.1 y.2 {Lw.z with n2:=z.2.2} f.1 z.2.1 t.1 t.2)) λ_ _ _ _ _ _=>
  .cmp _ _ (λ(y:Nat×Nat) (z:Nat×MI×Nat)=>{bl [(y.1,dO w.params (.type "dict") none iv b.1.1 y.2),(z.1,dO w.params (.type "dict") none iv z.2.1 z.2.2)] (.ret (.bool false)) with d:=20}) .NotEq (bI (aA (aI w.params) 26)) (λy:Nat×Nat=>y.1) (λz:Nat×MI×Nat=>z.1) true false [2,14,14] [0,5,20,26,9,22,27,9] [11,8]
   (Cb w Y b.1.2.2.2.1 b.1.2.1 b.1.2.2.2.2 b.1.1 b.2.2.1.1 b.2.2.1.2 hk few.1 A.1.1.nd)
   (zE w Y q.1 (λc=>min (aa Y.me c) (aa Y.ml c)*aa Y.mp c) b.2.2.1.1 b.2.2.1.2 hk (by rw [r];exact D.held_nd _) (uC r B) (D.x26 r)) (λ_ _=>rfl)
   (λy z _ hz=>have t:=D.t26 E C A.1.1 (m:=z.2.1) (r▸hz);aG _ (Iy w y.1 z.1 y.2 {Lw.z with n2:=z.2.2} b.1.1 z.2.1 t.1 t.2)) λ_ _ _ _ _ _=>
  .blk _ _ ((zl w Y (λc=>max (aa Y.me c) (aa Y.ml c)*aa Y.mp c+(aa Y.me c+aa Y.ml c)*(aa Y.mh c-aa Y.mp c)) d.2.2.2.1 d.2.2.2.2.1 b.2.2.1.1 b.2.2.1.2 hk Y.fe i j It D.x28).c _) .next 2 [2,18,13,3,3,22,3,11,3,3,3] λe H=>
  have H:aH e.1=(dU Y.mh Y.cps).map (λc=>(c,max (aa Y.me c) (aa Y.ml c)*aa Y.mp c+(aa Y.me c+aa Y.ml c)*(aa Y.mh c-aa Y.mp c)))/\fD w.params e.2.2.1:=H
  have t29:=D.t29 C A.1.2 H.1
  let Y:Lw:={Y with fe:=e.2.2.2.1}
  .cmp _ _ (λ(y:Nat×Nat) (_:Unit)=>{bl [(y.1,dO w.params (.type "dict") none iv b.2.1.1 y.2),(e.2.2.2.2.2.2.2,dO w.params (.type "dict") none iv e.1 e.2.1)] (.ret (.bool true)) with d:=20}) .Eq (bI (aA (aI w.params) 29)) (λy:Nat×Nat=>y.1) (λ_:Unit=>e.2.2.2.2.2.2.2) false true [0,24,24] [0] [3,13]
   (Ca w Y e.2.2.2.2.2.2.1 e.2.2.2.2.2.2.2 b.2.1.2.2.2.1 b.2.1.2.1 b.2.1.2.2.2.2 b.2.1.1 b.2.2.1.1 b.2.2.1.2 e.2.2.1 hk H.2 few.2 A.1.2.nd)
   (zD w Y e.2.2.2.2.2.2.1 e.2.2.2.2.2.2.2 b.2.1.2.2.2.1 b.2.1.2.1 b.2.1.2.2.2.2 b.2.1.1 b.2.2.1.1 b.2.2.1.2 e.2.2.1 hk H.2) (λ_ _=>rfl)
   (λy _ _ _=>aG _ (λ_ P=> .seg 281543712972801 λR=> .use _ (DT w y.1 e.2.2.2.2.2.2.2 b.2.1.1 e.1 y.2 e.2.1 t29.1 t29.2) [0,0] [] λb h2=> .seg 0 λO3=>P () trivial [0,0] [] [])) λ_ _ _ _ _ _=>
  .fin () trivial 99 [40]
 let IE:∀(n:Nat) (Y:Lw) (l:List E4) (s:ij w.params l) (F:n=3\/n=4\/n=5) (p:Y.cps.length=n) (j:Y.cps.Nodup) (i:∀c∈Y.cps,c< 128) (M:Y.ys.length=n+n*(n-1)/2),Pc w (aq w.params Y) (.func (aI w.params) (aq w.params Y)) (fM w g o):=λn Y l s F p j i M=>
  have B:n<=5:=by omega
  have X:Y.cps.length<=5:=by omega
  have Iw:Y.cps≠[]:=λz=>by rw [z] at p;simp at p;omega
  .blk _ _ ((zj w Y n l s Y.fe B (by omega) p j M).c _) .next 5 [0,1,1,1,1,1,1,1] λd hJ=>
  let Y:Lw:={Y with k5:=d.1.1,fe:=d.1.2.2.2.1,mh:=d.2.1.1,me:=d.2.1.2.1,ml:=d.2.1.2.2.1,N:=d.2.1.2.2.2,er:=d.2.2.1.1,ee:=d.2.2.1.2.1,el:=d.2.2.1.2.2.1,en:=d.2.2.1.2.2.2,H:=d.2.2.2.1,E:=d.2.2.2.2.1,G:=d.2.2.2.2.2.1,nd:=d.2.2.2.2.2.2,nn:=((n:Nat):Int)}
  have J:dH Y.cps n Y.mh Y.me Y.ml Y.N:=hJ
  have kn:aU Y.N=Y.cps:=by rw [J.kn,<-p];exact GH
  have Iu:(aU Y.N).Nodup:=by rw [kn];exact j
  have hk:∀c∈Y.cps,c∈aU Y.N:=λc U=>by rw [kn];exact U
  .blk _ _ ((zi w Y d.1.2.2.1 Y.fe d.1.2.1 l s j X i Iu hk (Cl J kn p B) Iw).c _) .next 2 [0,0,3,10,7,7] λb Z=>
  have Z:cY Y.cps Y.N Y.cps.length b.1:=Z
  have G:=Bm p j B Iw J Z
  let Y:Lw:={Y with fe:=b.2.2.2.1,k6:=b.2.2.2.2.1,T:=b.2.2.2.2.2}
  have wl:∀{ws:List (List Nat×Nat)},ws.map (λx=>x.1)=cb Y.N Y.cps->_:=λ{ws}=>wj (Y:=Y) G i X (ws:=ws)
  .blk _ _ ((zx w Y b.2.2.1.1 b.2.2.1.2 Iu hk i X wl).c _) .next 3 [1,7,1,1,12,12,1,7,2] λf v=>
  have v:f.1.map (λx=>x.1)=cb Y.N Y.cps/\f.2.1.map (λx=>x.1)=fs Y.mh (f.1.map (λx=>x.1)):=v
  have Iv:=EK G.T.g f.2.1 (by rw [v.2,v.1];rfl)
  let Y:Lw:={Y with ws:=f.1,hs:=f.2.1,W:=f.2.2.2.1.1,wn:=f.2.2.2.1.2,V:=f.2.2.2.2.1,vn:=f.2.2.2.2.2,lg:=cU f.2.1,v1:= .ref Y.sa,v2:= .int ((n:Nat):Int) Y.tn,v3:= .ref Y.y,v5:= .int d.1.2.1 d.1.2.2.1}
  .blk _ _ ((zu w Y l s.kf rfl Iv.1).c _) .next 1 [11,5,8] λq _=>
  let Y:Lw:={Y with k7:=q.1,tl:=q.2.1,fe:=q.2.2}
  .blk _ _ (zq w Y b.2.1 b.1 l s.kf G.c1 G.c2 i (by rw [show Y.cps.length=n from p];exact F)) .next 2 [0,2,2,11,11,2,14,4,7,4,8,8,5,5] λe T=>
  let Y:Lw:={Y with LV:=e.1.1,FA:=e.1.2.1,fan:=e.1.2.2,bk:=e.2.1.2.1,n2:=e.2.1.2.2,k8:=e.2.2.1,fe:=e.2.2.2.1,sl:=e.2.2.2.2}
  have T:cA Y.cps (λc=>ad (au Y.N c)) (aa Y.mh) Y.me Y.LV/\cA Y.cps.reverse (λc=>ad (au b.1 c)) (aa Y.mh) Y.ml e.2.1.1:=T
  have D:=G.ld T.1 T.2
  IF Y f.2.2.1.1 f.2.2.1.2 b.1 e.2.1.1 l s.kf D v.1 v.2 (Iv.2.trans D.len1.symm) i (λx k=>((wl v.1).2 x k).1) (wl v.1).1
 let rw:∀(n L:Nat) (Y:Lw) (F:n=3\/n=4\/n=5) (p:Y.cps.length=n) (j:Y.cps.Nodup) (i:∀c∈Y.cps,c< 128) (S:L=n+n*(n-1)/2) (M:Y.ys.length=L),Pc w (aq w.params Y) (.func (aI w.params) (aq w.params Y)) (fM w g o):=λn L Y F p j i S M=>
  have h0:L≠0:=by rw [S];rcases F with rfl | rfl | rfl<;>decide
  have IB:L<=20:=by rw [S];rcases F with rfl | rfl | rfl<;>decide
  .blk _ _ ((zk w Y L g.xs M h0 IB IC).c _) .next 1 [0,1,1] λx k=>
  let Y:Lw:={Y with fe:=x.2.1,ys:=x.2.2.1,yn:=x.2.2.2}
  have k:ij w.params x.1/\x.2.2.1.length=L:=k
  IE n Y x.1 k.1 F p j i (k.2.trans S)
 let io:Pc w (aq w.params g) (.func (aI w.params) (aq w.params g)) (fM w g o):=
  .or _ _ (show ((g.xs.map (λx:Int×Nat=>x.1)).sum).fmod 3=0\/(((g.xs.map (λx:Int×Nat=>x.1)).sum).fmod 3=1\/((g.xs.map (λx:Int×Nat=>x.1)).sum).fmod 3=2) by rw [GL _ (by omega)];omega)
   (λI=>let u:Lw:={g with cps:=[97,98,99],nn:=3}; .blk _ _ ((C0 w u o I rfl rfl).c _) .next 3 [0,0,11] λx k=>rw 3 6 {u with k2:=x.1.1,tn:=x.1.2.1,k3:=x.1.2.2.1,y:=x.2.1,fe:=x.1.2.2.2.1,tN:=x.1.2.2.2.2,ys:=x.2.2.1,yn:=x.2.2.2} (.inl rfl) rfl (show ([97,98,99]:List Nat).Nodup by decide) (show ∀c∈([97,98,99]:List Nat),c< 128 by decide) rfl k)
   (λh=> .or _ _ h (λI=>let u:Lw:={g with cps:=[97,98,99,100],nn:=4}; .blk _ _ ((CZ w u o I rfl rfl).c _) .next 3 [0,0,11] λx k=>rw 4 10 {u with k2:=x.1.1,tn:=x.1.2.1,k3:=x.1.2.2.1,y:=x.2.1,fe:=x.1.2.2.2.1,tN:=x.1.2.2.2.2,ys:=x.2.2.1,yn:=x.2.2.2} (.inr (.inl rfl)) rfl (show ([97,98,99,100]:List Nat).Nodup by decide) (show ∀c∈([97,98,99,100]:List Nat),c< 128 by decide) rfl k)
    (λI=>let u:Lw:={g with cps:=[97,98,99,100,101],nn:=5}; .blk _ _ ((CY w u o I rfl rfl).c _) .next 3 [0,0,11] λx k=>rw 5 15 {u with k2:=x.1.1,tn:=x.1.2.1,k3:=x.1.2.2.1,y:=x.2.1,fe:=x.1.2.2.2.1,tN:=x.1.2.2.2.2,ys:=x.2.2.1,yn:=x.2.2.2} (.inr (.inr rfl)) rfl (show ([97,98,99,100,101]:List Nat).Nodup by decide) (show ∀c∈([97,98,99,100,101]:List Nat),c< 128 by decide) rfl k))
 have IA:gz (some []) [] 140 io (.run (aI w.params)) (bg (fM w g o).need++[])=mW [] 140 io (.run (aI w.params)) (bg (fM w g o).need++[]):=by kernel_rfl
 exact ⟨io,IA.mpr (qp ..)⟩
theorem BX (w:E7) (Y:Lw) (e:Nat) (i:Y.xs.length<=63):ab (env w) (fM w Y e):=by
 intro b l h j o p s F P k
 have h:b.handled=none:=h.resolve_left (λz=>nomatch z)
 have H:bt (env w) 140 b:=⟨h,o⟩
 have d:b.code= .func (aI w.params) (aq w.params Y):=l
 have G:=Go.eq (Go.start P) (ic _)
 rw [F1,d]
 show wp _ _ (do point;match<-(Hb (aI w.params) (aq w.params Y)).onRaise (leaving (aq w.params Y)) with | .ret v=>ret v | _=>ret .none) _ _ p s
 rw [E5]
 refine aL (wpAny_point λp=> ?_)
 rw [E5,Gs]
 obtain ⟨t,q⟩:=BU w Y e i
 refine s7 H (FM _) d (es0:=some []) (λes m=>by cases m;exact j [] rfl) (λx f r p Z _ n g=> ?_) t (.run _) _ p s G q
 cases n
 exact k () r trivial (Go.sub (U:=[(Y.sa,ae (Y.xs.map iv) Y.n0)]) (r:=(Z++[]).flatten) g).after
def yS (w:E7) (Y:Lw):af:={d:=150,α:=Unit,c:= .call (.ref 1227) ⟨[.ref Y.sa],[]⟩,need:=[(Y.sa,ae (Y.xs.map iv) Y.n0)],r:=λ_=> .ok (.ret (.bool true)),new:=λ_=>[(Y.sa,ae (Y.xs.map iv) Y.n0)],outer:=some []}
theorem BV (w:E7) (s n:Nat) (x:List (Int×Nat)) (r:x.length<=63):ab (env w) (yS w {Lw.z with sa:=s,n0:=n,xs:=x}):=av (λ_ v=> .seg 0xd00d000000001 λO=> .use _ ((λq b g h i j k l m o d e f t p u=>BX w {Lw.z with fr:=q,c1:=b,c2:=g,c3:=h,c4:=i,c5:=j,c6:=k,c7:=l,c8:=m,c9:=o,c10:=d,c11:=e,c12:=f,sa:=s,n0:=n,k1:=t,sl:=u,xs:=x} p r) (O 0) (O 1) (O 2) (O 3) (O 4) (O 5) (O 6) (O 7) (O 8) (O 9) (O 10) (O 11) (O 12) (O 13) 1 (#[])) [12,11,10,9,8,7,6,5,4,3,2,1,0,0] [] λA y=>v () trivial [] [0] [])
abbrev rowO:OpenRow:=PySem.Challenge.rw_io0005_01.row
theorem BR:LeftO rowO.prog (qv pw) (ky pw) (λ_=>true) (obsZ kQ) (valZ base 1228 1959) 22000:=
 (congrArg (λp=>LeftO p (qv p) (ky p) (λ_=>true) (obsZ kQ) (valZ base 1228 1959) 22000) sW).mpr BQ
def gj:DefRec×List (Str×Expr):=(defOf (qv pw) rowO.name).get (by kernel_rfl)
theorem C5:defOf (qv pw) rowO.name=some (gj.1,gj.2):=by kernel_rfl
theorem hp:rowO.prog.theDef rowO.name=some (gj.1.params,gj.1.body,gj.1.scope):=by kernel_rfl
theorem hk:kwWritten? gj.1.params.kwonlyargs gj.1.params.kw_defaults=some gj.2:=by kernel_rfl
theorem C6:rowO.prog.bare:=⟨rfl,rfl,rfl,rfl,rfl,by decide+kernel⟩
theorem bo:(chainsOk (qv pw)&&opensWell rowO.prog&&(frees rowO.toRowW&&rowO.within.isEmpty))=true:=by kernel_rfl
theorem CV:rowO.toRowW.promised:=by w_witness2
def wc:Prop:=∀(w:E7) (s:Fc) (n:List Int) (i:List E9),AllIn s.heap (base w.params)->s.heap.objs.size=1229->
 s.heap.get? 1228=some {cls:= .type "list",data:= .seq i.toArray}->IntsAre i n->n.length<=63->(PyData.list (n.map PyData.int)).layable0=true->s.gens= #[]->
 Fp (FQ pq w) callerA (PySem.call (.ref 1227) [.ref 1228]) (λv d=>v= .bool true/\(∀b o,s.heap.get? b=some o->d.heap.get? b=some o)/\d.gens= #[]/\d.os=s.os) (λ_ _=>False) s
theorem vU {h d:Heap} (k:∀b o,h.get? b=some o->d.get? b=some o):∀{K:Frag},AllIn h K->AllIn d K
 | [],_=>trivial
 | _::_,⟨a,b⟩=>⟨k _ _ a,vU k b⟩
theorem zz (H:wc):PySem.Challenge.rw_io0005_01.Holds:=by
 refine BW λM=> ?_
 refine holds_openX (XP:=λ_ _=>True) BR (λ_ _=>trivial) (λ_ _ _ _ _=>trivial) C5 hp hk (λio _=>recFacts_nil rfl) (by rfl) M bo C6 CV ?_
 intro w N s mg mb G y fa gt pm S V U kV ho Z Y W v n Q It R L C q E F t
 obtain ⟨f,i,l,X⟩:=z_facts (K:=base) (as:=kQ) (λ_=>by kernel_rfl) y
 have g:AllIn s.heap (base w.params):=vU L.keeps f
 have d:Frag.In (base w.params) s.heap:=InK.keeps w N.heap s.heap i L.keeps
 refine Ground.open G ?_
 intro T B D O P
 wrow_args C q E F t
 rename_i J _ _ r _ _ _ _ _ I _ k _ _ _ j _ ac _
 obtain ⟨h,b⟩:=script_at L
 have A:=script_obj L k
 rw [l] at h b
 subst h
 x_fa T d v
 have e:FQ rowO.prog w=FQ pq w:=congrArg (λp=>FQ p w) sW
 rw [e]
 refine wpAny_mono (H w s J I g b A j (by omega) r n) ?_ ?_
 .rintro rw s' ⟨rfl,hk,o,x⟩
  exact ⟨.inl ⟨_,_,[],rfl,λ_=>rfl,ReadsW.bool true,(by kernel_rfl),λ_=>⟨Gt,λ_ u=>(nomatch u)⟩⟩, .of_keep hk,x, .of_eq o⟩
 .intro _ _ m;exact m.elim
theorem vA:∀l:List (Code×Pos),cF l<=HR l
 | []=>FM _
 | (c,p)::l=>by
  have i:=vA l
  have h:c.frames+(if c.isCreation=true then 1 else 0)<=c.cUnits:=by
   cases c with
   | builtin id b=>
    show _<=1+3*_
    split<;>omega
   | call f b=>
    rw [if_neg (show ¬(Code.call f b).isCreation=true from λz=>nomatch z)]
    show 0+0<=1
    omega
   | _=>
    rw [if_neg (λz=>nomatch z)]
    show _+0<=3*_
    omega
  rw [unitsOf_cons]
  unfold cF at i⊢
  simp only [Fu,List.sum_cons,GI]
  split at h<;>rename_i q
  .rw [if_pos q,Fb];omega
  .rw [if_neg q];omega
theorem uq:∀{i:List E9} {d:List Int},IntsAre i d->∃b:List (Int×Nat),i=b.map iv/\d=b.map (λx=>x.1)
 | _,_, .nil=>⟨[],rfl,rfl⟩
 | _,_, .cons n t h=>by
  obtain ⟨b,e,f⟩:=uq h
  exact ⟨(n,t)::b,by rw [e];rfl,by rw [f];rfl⟩
theorem Cd (P:E6):kt P 1228=none:=by kernel_rfl
theorem EA:wc:=by
 intro w s F E k C f t g y r
 obtain ⟨i,rfl,rfl⟩:=uq t
 rw [Fo] at g
 refine wpAny_call λe p m l=> ?_
 obtain ⟨b1,u,b3,v,j⟩:=l
 have D:HR e.below<=4:=j
 have B:=vA e.below
 refine BV w 1228 0 i g e m (.inr b1) (λes n=>by cases n;exact b3 [] rfl) ⟨by show _+4*150<=640;omega,by show _+10*150<=2000;omega⟩ p s _ ⟨EF k,λq h=> ?_, ?_,λq h=> ?_,λq h=> ?_,by omega⟩ λx G _ A=>⟨rfl,λb o d=> ?_,A.same.gens.trans r,A.same.os⟩
 .rw [Gb.mp h];exact f
 .exact GO.mpr ⟨λz=>(nomatch z),Gt⟩
 .rw [Gb.mp h];exact Cd w.params
 .rw [Gb.mp h];exact FM _
 .by_cases q:b=1228
  .subst q
   rw [f] at d
   cases d
   exact A.has (1228,ae (i.map iv) 0) EZ
  .exact A.keep b o d λz=>q (Gb.mp z)
theorem final:PySem.Challenge.rw_io0005_01.Holds:=zz EA
end Mine
theorem PySem.Challenge.cw_io0005_01_holds : PySem.Challenge.rw_io0005_01.Holds :=
 Mine.final
