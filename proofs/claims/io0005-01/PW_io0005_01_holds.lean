import PyProof.Rows.All
import Wide.FinOn
import OpenK.ZGo
import KE.KSuperObj
import Lean
import PySem.Challenge.RW_io0005_01
open PySem PySem.W PyProof.Rows PySem.Calls PySem.W.X
set_option Elab.async false
set_option linter.all false
set_option maxRecDepth 100000
set_option maxHeartbeats 8000000
set_option genInjectivity false
set_option genSizeOf false
set_option bootstrap.genMatcherCode false
namespace Mine
open Sem (wp finPost)
open _root_.And renaming right -> Fg, left -> Fx
open _root_.Bool renaming false_ne_true -> Fi, false_eq_true -> Ge, true -> HN
open _root_.Classical renaming em -> FK, byContradiction -> Hy
open _root_.Int renaming toNat_natCast -> F4, fmod_eq_emod_of_nonneg -> GN, min_eq_right -> Ht, max_eq_right -> H8
open _root_.List renaming mem_cons_self -> E2, mem_cons_of_mem -> E4, getElem?_eq_some_iff -> Fa, mem_map_of_mem -> Fc, length_cons -> Fd, map_append -> Ff, getElem?_eq_getElem -> Fh, mem_cons -> Fj, getElem?_map -> Fl, mem_map -> Fm, length -> Fo, append_assoc -> Fp, length_map -> Fq, mem_append -> Ft, getElem?_toArray -> Fv, map_cons -> Fw, exists_cons_of_ne_nil -> FC, mem_of_getElem? -> FD, perm_append_comm -> FG, mem_append_right -> FH, mem_reverse -> FI, append_nil -> FL, length_take -> FQ, length_append -> FW, replicate -> FX, mem_singleton -> FZ, mem_append_left -> F5, mem_iff_getElem -> F8, nodup_cons -> Gb, mem_singleton -> Gd, flatten_append -> Gf, mem_map -> Gl, nodup_append -> Gm, mem_reverse -> Gn, mem_filter -> Gp, idxOf_lt_length_of_mem -> Gt, nodup_nil -> Gv, map -> Gx, map_congr_left -> Gz, mem_append -> GE, nodup_cons -> GF, reverse_reverse -> GI, take_length -> GJ, filter_cons -> GK, length_eq_zero_iff -> GL, getD_eq_getElem?_getD -> GM, getElem_take -> GO, flatMap_cons -> GP, nodup_cons -> GQ, mem_cons -> GR, map_map -> GU, length_drop -> Ha, length_pos_iff -> He, length_nil -> Hh, count_pos_iff -> Hm, count_eq_zero -> Hn, append_of_mem -> Hu, drop_eq_getElem_cons -> Hx, nil_append -> HB, find?_append -> HD, reverse -> HJ, flatMap_append -> HL, range'_succ -> HP, find?_cons_of_neg -> HR, range' -> HW, foldl_cons -> HY, length_replicate -> HZ, count_pos_iff -> H1, cons_append -> H7, mem_filter -> Ic, length_reverse -> Ie, mem_iff_getElem -> Iu
open _root_.Monad renaming toBind -> HX
open _root_.Nat renaming le_refl -> FO, le_trans -> F2, zero_le -> Gi, le_of_ble_eq_true -> GW, ble -> G9
open _root_.Option renaming some -> FF, map_some -> GD, bind_eq_some_iff -> H2, map_eq_some_iff -> H5
open _root_.PySem renaming wpAny_bind -> E3, wpAny_pure -> E5, DictEntry -> E6, Params -> E8, World -> E9, Value -> Fb, Shared -> Fe, wpAny -> Fr, denote -> FM, wpAny_seqItems -> FN, wpAny_dictEntries -> FS, model -> FT, rawInt -> FV, wpAny_field -> F1, wpCode_iff_wp -> F3, wpAny_setField -> Ga, wpAny_newObj_type -> Gg, wpAny_holding -> Gj, wpAny_dictEpoch -> Gk, Fin -> Gq, letOwnedTupleGo -> Gr, sizeLine -> Gw, strKind_is -> Gy, wpAny_standAt -> GB, wpAny_updateSeq -> GV, wpAny_typeNameOfWhole_itemiter -> GX, wpAny_rule -> GZ, wpAny_typeNameOfWhole_valiter -> Hb, wpAny_typeNameOfWhole_keyiter -> Hc, execs -> Hd, theTreesLotGoes -> Hf, recursionLimit -> Hv, wpAny_typeNameOf_itemiter -> Hw, wpAny_typeNameOf_valiter -> HF, wpAny_typeNameOf_keyiter -> HG, Result -> HI, loadName -> HK, wpAny_call_entry -> HO, unitsOf -> HT, noteFrame -> HU, newFields -> HV, wpAny_fieldsOf -> H3, markedBehindIn -> H4, wpAny_letGo -> H9, wpAny_fresh -> Ia, slicePicked -> Ib, execs_cons -> Ir, eval -> Is
open _root_.PySem.Builtin.Dict renaming showsAll -> Gs, selfAndRest -> GA, updateFrom -> GG, mergeDict -> Hp, dictSlotNone -> HA, samePairs -> HS, noArgs -> Ig
open _root_.PySem.Builtin.Dict_items renaming ownsTuple -> Gc, newIterator -> GY, dictOf -> Hz, ownedTupleFields -> Iq
open _root_.PySem.Builtin.Int renaming intBits -> Hi
open _root_.PySem.Builtin.List renaming listItems -> Fy, listSubscript? -> GH, listExtendWith -> Hj
open _root_.PySem.Builtin.Str renaming subAt -> HE, occurrences -> HM
open _root_.PySem.Code renaming isCreation -> HC
open _root_.PySem.Fin renaming done -> GS
open _root_.PySem.Heap renaming get?_push_of_some -> Ho, lt_size -> It
open _root_.PySem.Obj renaming mapSeq -> FJ, mapFields -> F9, mapDictKeys -> Hg
open _root_.PySem.Sem renaming wp_bind' -> E7, wp_mono -> Fu, wp_onRaise -> Gu, wp_holding -> HQ
open _root_.PySem.Value renaming ref -> Fs, type -> Fz, none -> FY, int -> Gh, str -> GT
open _root_.PySem.W renaming SharedT -> Hs
open _root_.PySem.W.Fast renaming tw12456147031677567982 -> FU, tw14364793385576792824 -> F6, tw11892475500146522536 -> F7, te14364793385576792824 -> Hk, te11892475500146522536 -> Hl, tw3180786681173009314 -> Hq, tw2956504954644400088 -> Hr, tw15578638425004381011 -> Ih, tw12377390311714414960 -> Ii, tw10795953022449502792 -> Ij, tw10648789137845014744 -> Ik, tw10156331382660048174 -> Il, te10156331382660048174 -> Ip
open _root_.Std.Legacy.Range renaming forIn_eq_forIn_range' -> G7
local macro_rules | `(tactic| omega) => `(tactic| first | assumption | decide | exact F2 (by assumption) (by decide) | exact F2 (by assumption) (F2 (by assumption) (by decide)) | exact F2 (Nat.le_of_lt (by assumption)) (F2 (by assumption) (by decide)) | lia | omega +splitDisjunctions)
theorem ws:PySem.Challenge.rw_io0005_01.wellSaid=true:=by rw[PySem.W.Fast.te9446332074065402090];kernel_rfl
theorem BX (h:PySem.Challenge.rw_io0005_01.row.wellSaid=true->PySem.Challenge.rw_io0005_01.row.Holds):PySem.Challenge.rw_io0005_01.Holds:=holds_law ws h
noncomputable abbrev pw:Program:=PySem.Challenge.pw_io0005_01
noncomputable abbrev pq:Program:=pw
theorem sX:pw=pq:=rfl
noncomputable def ly (i:Nat):Stmt:=pq.main.body.getD i (.Pass default)
noncomputable def nE:Expr:=.Name ⟨⟨[]⟩⟩ default
noncomputable def sP (s:Stmt):Expr×Expr×List Stmt×List Stmt×List ExceptHandler×Pos×List (Str×Arguments×Scope):=match s with
 |.FunctionDef n a b _ _ _ c _ _ p=>(nE,nE,b,[],[],p,[(n,a,c)])
 |.ClassDef _ _ _ b _ _ _ _ _ _ p=>(nE,nE,b,[],[],p,[])
 |.Return v p=>(nE,v.getD nE,[],[],[],p,[])
 |.Assign _ v p=>(nE,v,[],[],[],p,[])
 |.For t v b o p=>(t,v,b,o,[],p,[])
 |.While v b o p=>(nE,v,b,o,[],p,[])
 |.If v b o p=>(nE,v,b,o,[],p,[])
 |.Try b h _ _ p=>(nE,nE,b,[],h,p,[])
 |.Expr v p=>(nE,v,[],[],[],p,[])
 | _=>(nE,nE,[],[],[],default,[])
noncomputable def eP (e:Expr):Expr×Expr×Pos×Scope×List Comprehension×List Str:=match e with
 |.Compare l _ r p=>(l,r.headD e,p,default,[],[])
 |.BinOp l _ r p=>(l,r,p,default,[],[])
 |.ListComp l g c p=>(l,e,p,c,g,[])
 |.DictComp l r g c p=>(l,r,p,c,g,[])
 |.Call f a _ p=>(f,a.headD e,p,default,[],[])
 |.Name n p=>(e,e,p,default,[],[n])
 |.Attribute o n p=>(o,e,p,default,[],[n])
 | _=>(e,e,default,default,[],[])
noncomputable def cL (i j:Nat):Stmt:=(sP (ly i)).2.2.1.getD j (.Pass default)
noncomputable def rr:Nat->Nat->List Nat
 | 0,_=>[]
 | f+1,n=>match G9 n 1 with
  | true=>[]
  | false=>(n %256)::rr f (n/256)
noncomputable def sn (n:Nat):Str:=⟨⟨rr 200 n⟩⟩
noncomputable def vs (n:Nat) (t:Tok):Fb:=.str (sn n) t
noncomputable def de (P:E8) (n:Nat) (t:Tok) (v:Fb):E6:=⟨PyData.keyHash P (sn n),.str (sn n) t,v⟩
noncomputable def cj (s:Stmt) (q:Nat) (a:List (Str×Addr)) (dflt k d p code ct:Fb):FuncData:=match(sP s).2.2.2.2.2.2 with
 | x::_=>{name:=x.1,qualname:=sn q,params:=x.2.1,body:=.stmts (sP s).2.2.1,scope:=x.2.2,globals:=3,closure:=a,defaults:=dflt,kwdefaults:=k,doc:=d,pyModule:=p,annotations:=none,code:=code,closureTuple:=ct,builtins:=0}
 | []=>default
noncomputable def o0 (P:E8):Obj:=⟨(.type "dict"),none,(.dict ⟨[de P 0x15f5f656d616e5f5f 1 (vs 0x1736e69746c697562 160),de P 98902597500690271 2 (.builtin "builtins.__doc__:str#opaque"),de P 0x15f5f6567616b6361705f5f 3 (.builtin "builtins.__package__:str#opaque"),de P 0x15f5f726564616f6c5f5f 4 (.builtin "builtins.__loader__:shared#opaque"),de P 0x15f5f636570735f5f 5 (.builtin "builtins.__spec__#opaque"),de P 0x15f5f7373616c635f646c6975625f5f 6 (.builtin "__build_class__"),de P 0x15f5f74726f706d695f5f 7 (.builtin "__import__"),de P 24339041 8 (.builtin "abs"),de P 23882849 9 (.builtin "all"),de P 24735329 10 (.builtin "any"),de P 1552251319137 11 (.builtin "ascii"),de P 24013154 12 (.builtin "bin"),de P 0x1746e696f706b61657262 13 (.builtin "breakpoint"),de P 0x1656c62616c6c6163 14 (.builtin "callable"),de P 24275043 15 (.builtin "chr"),de P 0x1656c69706d6f63 16 (.builtin "compile"),de P 0x1727474616c6564 17 (.builtin "delattr"),de P 24275300 18 (.builtin "dir"),de P 391904717334884 19 (.builtin "divmod"),de P 6113293925 20 (.builtin "eval"),de P 5962561637 21 (.builtin "exec"),de P 409436773576550 22 (.builtin "format"),de P 0x172747461746567 23 (.builtin "getattr"),de P 0x1736c61626f6c67 24 (.builtin "globals"),de P 0x172747461736168 25 (.builtin "hasattr"),de P 6047359336 26 (.builtin "hash"),de P 24667496 27 (.builtin "hex"),de P 91241 28 (.builtin "id"),de P 1599698136681 29 (.builtin "input"),de P 0x165636e6174736e697369 30 (.builtin "isinstance"),de P 0x17373616c636275737369 31 (.builtin "issubclass"),de P 6214218857 32 (.builtin "iter"),de P 1590840027489 33 (.builtin "aiter"),de P 24012140 34 (.builtin "len"),de P 408384304279404 35 (.builtin "locals"),de P 24666477 36 (.builtin "max"),de P 24013165 37 (.builtin "min"),de P 6249014638 38 (.builtin "next"),de P 1599747747425 39 (.builtin "anext"),de P 24404847 40 (.builtin "oct"),de P 23360111 41 (.builtin "ord"),de P 24604528 42 (.builtin "pow"),de P 1599580238448 43 (.builtin "print"),de P 6214935922 44 (.builtin "repr"),de P 1530861547378 45 (.builtin "round"),de P 0x172747461746573 46 (.builtin "setattr"),de P 391861884841843 47 (.builtin "sorted"),de P 23950707 48 (.builtin "sum"),de P 6231843190 49 (.builtin "vars"),de P 5996703566 50 .none,de P 0x173697370696c6c45 51 .ellipsis,de P 0x16465746e656d656c706d49746f4e 52 .notImplemented,de P 1535239807302 53 (.bool false),de P 5997163092 54 (.bool true),de P 6114209634 55 (.type "bool"),de P 0x17765697679726f6d656d 56 (.type "memoryview"),de P 0x1796172726165747962 57 (.type "bytearray"),de P 1595134998882 58 (.type "bytes"),de P 0x1646f6874656d7373616c63 59 (.type "classmethod"),de P 0x178656c706d6f63 60 (.type "complex"),de P 6247639396 61 (.type "dict"),de P 0x165746172656d756e65 62 (.type "enumerate"),de P 407255047235942 63 (.type "filter"),de P 1599362526310 64 (.type "float"),de P 0x17465736e657a6f7266 65 (.type "frozenset"),de P 0x179747265706f7270 66 (.type "property"),de P 24407657 67 (.type "int"),de P 6248687980 68 (.type "list"),de P 24142189 69 (.type "map"),de P 409445228765807 70 (.type "object"),de P 1535038611826 71 (.type "range"),de P 0x16465737265766572 72 (.type "reversed"),de P 24405363 73 (.type "set"),de P 1534971178099 74 (.type "slice"),de P 0x1646f6874656d636974617473 75 (.type "staticmethod"),de P 24278131 76 (.type "str"),de P 1590839768435 77 (.type "super"),de P 1535122634100 78 (.type "tuple"),de P 5996837236 79 (.type "type"),de P 24144250 80 (.type "zip"),de P 0x15f5f67756265645f5f 81 (.bool true),de P 0x16e6f6974706563784565736142 82 (.type "BaseException"),de P 0x170756f72476e6f6974706563784565736142 83 (.type "BaseExceptionGroup"),de P 0x16e6f69747065637845 84 (.type "Exception"),de P 0x174697845726f746172656e6547 85 (.type "GeneratorExit"),de P 0x1747075727265746e496472616f6279654b 86 (.type "KeyboardInterrupt"),de P 0x1746978456d6574737953 87 (.type "SystemExit"),de P 0x1726f727245636974656d6874697241 88 (.type "ArithmeticError"),de P 0x1726f7272456e6f69747265737341 89 (.type "AssertionError"),de P 0x1726f727245657475626972747441 90 (.type "AttributeError"),de P 0x1726f727245726566667542 91 (.type "BufferError"),de P 0x1726f727245464f45 92 (.type "EOFError"),de P 0x1726f72724574726f706d49 93 (.type "ImportError"),de P 0x1726f72724570756b6f6f4c 94 (.type "LookupError"),de P 0x1726f72724579726f6d654d 95 (.type "MemoryError"),de P 0x1726f727245656d614e 96 (.type "NameError"),de P 0x1726f727245534f 97 (.type "OSError"),de P 0x1726f72724565636e657265666552 98 (.type "ReferenceError"),de P 0x1726f727245656d69746e7552 99 (.type "RuntimeError"),de P 0x16e6f69746172657449636e797341706f7453 100 (.type "StopAsyncIteration"),de P 0x16e6f69746172657449706f7453 101 (.type "StopIteration"),de P 0x1726f7272457861746e7953 102 (.type "SyntaxError"),de P 0x1726f7272456d6574737953 103 (.type "SystemError"),de P 0x1726f72724565707954 104 (.type "TypeError"),de P 0x1726f72724565756c6156 105 (.type "ValueError"),de P 0x1676e696e726157 106 (.type "Warning"),de P 0x1726f727245746e696f50676e6974616f6c46 107 (.type "FloatingPointError"),de P 0x1726f727245776f6c667265764f 108 (.type "OverflowError"),de P 0x1726f7272456e6f6973697669446f72655a 109 (.type "ZeroDivisionError"),de P 0x1676e696e7261577365747942 110 (.type "BytesWarning"),de P 0x1676e696e7261576e6f697461636572706544 111 (.type "DeprecationWarning"),de P 0x1676e696e726157676e69646f636e45 112 (.type "EncodingWarning"),de P 0x1676e696e726157657275747546 113 (.type "FutureWarning"),de P 0x1676e696e72615774726f706d49 114 (.type "ImportWarning"),de P 0x1676e696e7261576e6f697461636572706544676e69646e6550 115 (.type "PendingDeprecationWarning"),de P 0x1676e696e726157656372756f736552 116 (.type "ResourceWarning"),de P 0x1676e696e726157656d69746e7552 117 (.type "RuntimeWarning"),de P 0x1676e696e7261577861746e7953 118 (.type "SyntaxWarning"),de P 0x1676e696e72615765646f63696e55 119 (.type "UnicodeWarning"),de P 0x1676e696e72615772657355 120 (.type "UserWarning"),de P 0x1726f7272454f49676e696b636f6c42 121 (.type "BlockingIOError"),de P 0x1726f727245737365636f7250646c696843 122 (.type "ChildProcessError"),de P 0x1726f7272456e6f697463656e6e6f43 123 (.type "ConnectionError"),de P 0x1726f727245737473697845656c6946 124 (.type "FileExistsError"),de P 0x1726f727245646e756f46746f4e656c6946 125 (.type "FileNotFoundError"),de P 0x1726f7272456465747075727265746e49 126 (.type "InterruptedError"),de P 0x1726f72724579726f746365726944417349 127 (.type "IsADirectoryError"),de P 0x1726f72724579726f74636572694441746f4e 128 (.type "NotADirectoryError"),de P 0x1726f7272456e6f697373696d726550 129 (.type "PermissionError"),de P 0x1726f72724570756b6f6f4c737365636f7250 130 (.type "ProcessLookupError"),de P 0x1726f72724574756f656d6954 131 (.type "TimeoutError"),de P 0x1726f7272456e6f697461746e65646e49 132 (.type "IndentationError"),de P 0x1726f7272457475706e496574656c706d6f636e495f 133 (.type "_IncompleteInputError"),de P 0x1726f7272457865646e49 134 (.type "IndexError"),de P 0x1726f72724579654b 135 (.type "KeyError"),de P 0x1726f727245646e756f46746f4e656c75646f4d 136 (.type "ModuleNotFoundError"),de P 0x1726f7272456465746e656d656c706d49746f4e 137 (.type "NotImplementedError"),de P 0x1726f7272456e6f6974617a696c616e69466e6f68747950 138 (.type "PythonFinalizationError"),de P 0x1726f7272456e6f69737275636552 139 (.type "RecursionError"),de P 0x1726f7272456c61636f4c646e756f626e55 140 (.type "UnboundLocalError"),de P 0x1726f72724565646f63696e55 141 (.type "UnicodeError"),de P 0x1726f727245657069506e656b6f7242 142 (.type "BrokenPipeError"),de P 0x1726f727245646574726f62416e6f697463656e6e6f43 143 (.type "ConnectionAbortedError"),de P 0x1726f727245646573756665526e6f697463656e6e6f43 144 (.type "ConnectionRefusedError"),de P 0x1726f72724574657365526e6f697463656e6e6f43 145 (.type "ConnectionResetError"),de P 0x1726f727245626154 146 (.type "TabError"),de P 0x1726f72724565646f63654465646f63696e55 147 (.type "UnicodeDecodeError"),de P 0x1726f72724565646f636e4565646f63696e55 148 (.type "UnicodeEncodeError"),de P 0x1726f7272456574616c736e61725465646f63696e55 149 (.type "UnicodeTranslateError"),de P 0x170756f72476e6f69747065637845 150 (.type "ExceptionGroup"),de P 0x1726f727245746e656d6e6f7269766e45 151 (.type "OSError"),de P 0x1726f7272454f49 152 (.type "OSError"),de P 6147108975 153 (.builtin "open"),de P 6248035697 154 (.builtin "builtins.quit#opaque"),de P 6248036453 155 (.builtin "builtins.exit#opaque"),de P 0x1746867697279706f63 156 (.builtin "builtins.copyright#opaque"),de P 0x173746964657263 157 (.builtin "builtins.credits#opaque"),de P 0x165736e6563696c 158 (.builtin "builtins.license#opaque"),de P 6181119336 159 (.builtin "builtins.help#opaque")]⟩ 159), #[]⟩
noncomputable def o2 (P:E8):Obj:=⟨.none,none,(.dict ⟨[de P 0x1736e6f697463656c6c6f635f2e646564616f6c2e74726f706d69 185 (.bool true),de P 0x1726574726f706d496e69746c6975422e62696c74726f706d695f6e657a6f72665f2e7373616c63 187 (.ref 15),de P 0x174726f706d692e64656863746177 208 (.ref 19),de P 0x163657053656c75646f4d2e62696c74726f706d695f6e657a6f72665f2e7373616c63 218 (.ref 23),de P 0x168636f70652d64656b6f6f622e73656c75646f6d2e737973 247 (.int 4 0),de P 0x1736e6f697463656c6c6f635f2e6465646e616c2e73656c75646f6d2e737973 248 (.bool true),de P 0x1736e6f697463656c6c6f635f2e6469616c2d726574616c2e74726f706d69 263 (.bool true),de P 0x17972617262696c2e64656863746177 265 (.ref 28),de P 0x1737463656a626f2d7972617262696c2e64656863746177 0 (.str ⟨⟨[13,31]⟩⟩ 0),de P 0x1736e6f697463656c6c6f635f2e706565642d7972617262696c2e64656863746177 266 (.str ⟨⟨[4,0,0,12,4,0,0,12,4,0,0,3,4,0,0,12,8,4,100,105,99,116,2]⟩⟩ 0),de P 0x171706165685f2e646564616f6c2e74726f706d69 278 (.bool true),de P 0x1736369736142726564616f4c5f2e6c616e72657478655f62696c74726f706d695f6e657a6f72665f2e7373616c63 283 (.ref 34),de P 0x1726564616f4c656c69462e6c616e72657478655f62696c74726f706d695f6e657a6f72665f2e7373616c63 299 (.ref 39),de P 0x1726564616f4c656c69466e6f69736e657478452e6c616e72657478655f62696c74726f706d695f6e657a6f72665f2e7373616c63 320 (.ref 44),de P 0x171706165685f2e6469616c2d726574616c2e74726f706d69 368 (.bool true)]⟩ 15), #[]⟩
noncomputable def o3 (P:E8):Obj:=⟨(.type "dict"),none,(.dict ⟨[de P 0x15f5f656d616e5f5f 165 (vs 0x131305f353030306f695f77616c 1945),de P 98902597500690271 166 .none,de P 0x15f5f6567616b6361705f5f 167 .none,de P 0x15f5f726564616f6c5f5f 168 (.builtin "__main__.__loader__#opaque"),de P 0x15f5f636570735f5f 169 .none,de P 0x15f5f736e6f697461746f6e6e615f5f 170 (.ref 6),de P 0x15f5f736e69746c6975625f5f 171 (.ref 4),de P 0x15f5f656c69665f5f 173 (vs 0x179702e7475632f6d69616c632f 172),de P 0x15f5f6465686361635f5f 174 .none,de P 1535273690468 272 (.type "collections.deque"),de P 0x179666970616568 375 (.builtin "_heapq.heapify"),de P 0x16563616c70657270616568 378 (.builtin "_heapq.heapreplace"),de P 1565186422623 391 (.ref 60),de P 0x173746e656d656c655f746e756f635f 403 (.ref 67),de P 99488645215633985 429 (.ref 84),de P 0x1656b694c4342415f 472 (.ref 117),de P 0x16174656d5f6e69616c705f6362615f 479 (.ref 126),de P 0x1726574695f7361685f6362615f 486 (.ref 133),de P 0x16e656c5f7361685f6362615f 493 (.ref 140),de P 0x1736e6961746e6f635f7361685f6362615f 500 (.ref 147),de P 0x179786f7270676e697070616d5f73695f6362615f 507 (.ref 154),de P 0x16e6f697463656c6c6f635f6e69746c6975625f73695f6362615f 514 (.ref 161),de P 0x1656c626172657449 555 (.ref 194),de P 1530710878547 592 (.ref 224),de P 0x172656e6961746e6f43 639 (.ref 260),de P 0x16e6f697463656c6c6f43 669 (.ref 283),de P 24405331 826 (.ref 399),de P 0x1676e697070614d 914 (.ref 471),de P 0x177656956676e697070614d 982 (.ref 521),de P 0x1776569567379654b 1042 (.ref 568),de P 0x177656956736d657449 1106 (.ref 613),de P 0x1776569567365756c6156 1149 (.ref 648),de P 0x17473656772616c6e 1157 (.ref 656),de P 0x1746e695f73695f 1167 (.ref 663),de P 392991376701279 1176 (.ref 670),de P 1565187731551 1183 (.ref 677),de P 0x16e65766947746f4e5f 1203 (.ref 687),de P 1573726021731 1278 (.ref 734),de P 409436639225202 1342 (.ref 786),de P 0x170616d72617473 1391 (.ref 823),de P 0x17265747465676d657469 1449 (.ref 867),de P 0x17265746e756f43 1762 (.ref 1093),de P 0x154554f5f45444f4e5f 1767 (.int (-1) 1766),de P 0x1454e4f445f45444f4e5f 1770 (.int (-2) 1769),de P 0x16f666e4965646f4e5f 1807 (.ref 1116),de P 0x1726f727245656c637943 1825 (.ref 1131),de P 0x1726574726f536c616369676f6c6f706f54 1944 (.ref 1213),de P 0x1736c6576656c5f77616c5f 1952 (.ref 1222),de P 24600940 1958 (.ref 1227)]⟩ 49), #[]⟩
noncomputable def Ap (P:E8):Obj:=⟨(.type "dict"),none,(.dict ⟨[de P 0x15f5f656c75646f6d5f5f 413 (vs 23290465 404),de P 0x15f5f6f6e656e696c74737269665f5f 417 (.int 12 416),de P 0x17265747369676572 425 (.ref 81),de P 0x15f5f736574756269727474615f6369746174735f5f 426 (.ref 82),de P 98902597500690271 427 .none]⟩ 2), #[]⟩
noncomputable def Ao (P:E8):Obj:=⟨(.type "type"),none,(.cls ⟨(sn 99488645215633985),[(.type "type")],[(.ref 84),(.type "type"),(.type "object")],83,(sn 99488645215633985),true,[],[(.ref 117)],false,none,false⟩), #[(some (.ref 68)),none,(some (vs 99488645215633985 406)),(some (vs 99488645215633985 414)),(some (.builtin "type.__new__")),(some (.bool true))]⟩
noncomputable def Af (P:E8):Obj:=⟨(.type "code"),none,(.fields ⟨[(vs 0x15f5f6b6365686365636e6174736e695f5f 444),(vs 0x15f5f6b6365686365636e6174736e695f5f2e656b694c4342415f 445),(vs 0x179702e7475632f6d69616c632f 446),(.int 19 0),(.int 2 0),(.int 0 0),(.int 0 0),(.int 3 0),(.ref 94),(.bool true),(.int 379 0),(.ref 95),.none,(.ref 96),(.ref 97),(.ref 98),(.int 450 0),(.int 19 0),(vs 0x179702e7475632f6d69616c632f 451)]⟩), #[]⟩
noncomputable def A8 (P:E8):Obj:=⟨(.type "function"),none,(.func (cj (cL 8 0) 0x15f5f6b6365686365636e6174736e695f5f2e656b694c4342415f [] .none .none .none (vs 0x16362612e736e6f697463656c6c6f63 430) (.ref 99) .none)), #[]⟩
noncomputable def AK (P:E8):Obj:=⟨(.type "dict"),none,(.dict ⟨[de P 0x15f5f656c75646f6d5f5f 439 (vs 0x16362612e736e6f697463656c6c6f63 430),de P 0x15f5f6f6e656e696c74737269665f5f 443 (.int 17 442),de P 0x15f5f6b6365686365636e6174736e695f5f 452 (.ref 100),de P 0x15f5f6b636568637373616c636275735f5f 460 (.ref 107),de P 0x17265747369676572 468 (.ref 114),de P 0x15f5f736574756269727474615f6369746174735f5f 469 (.ref 115),de P 98902597500690271 470 .none]⟩ 2), #[]⟩
noncomputable def AH (P:E8):Obj:=⟨(.type "type"),none,(.cls ⟨(sn 0x1656b694c4342415f),[(.ref 84)],[(.ref 117),(.ref 84),(.type "type"),(.type "object")],116,(sn 0x1656b694c4342415f),true,[],[],false,none,false⟩), #[(some (.ref 87)),none,(some (vs 0x1656b694c4342415f 432)),(some (vs 0x1656b694c4342415f 440)),(some (.builtin "type.__new__")),(some (.bool true))]⟩
noncomputable def Aw (P:E8):Obj:=⟨(.type "code"),none,(.fields ⟨[(vs 0x179786f7270676e697070616d5f73695f6362615f 501),(vs 0x179786f7270676e697070616d5f73695f6362615f 502),(vs 0x179702e7475632f6d69616c632f 503),(.int 44 0),(.int 1 0),(.int 0 0),(.int 0 0),(.int 3 0),(.ref 148),(.bool true),(.int 379 0),(.ref 149),.none,(.ref 150),(.ref 151),(.ref 152),(.int 505 0),(.int 44 0),(vs 0x179702e7475632f6d69616c632f 506)]⟩), #[]⟩
noncomputable def Av (P:E8):Obj:=⟨(.type "function"),none,(.func (cj (ly 13) 0x179786f7270676e697070616d5f73695f6362615f [] .none .none .none (vs 0x16362612e736e6f697463656c6c6f63 430) (.ref 153) .none)), #[]⟩
noncomputable def At (P:E8):Obj:=⟨(.type "code"),none,(.fields ⟨[(vs 0x1646e696b5f6362615f 902),(vs 0x1646e696b5f6362615f2e676e697070614d 903),(vs 0x179702e7475632f6d69616c632f 904),(.int 226 0),(.int 2 0),(.int 0 0),(.int 0 0),(.int 3 0),(.ref 461),(.bool true),(.int 379 0),(.ref 462),.none,(.ref 463),(.ref 464),(.ref 465),(.int 907 0),(.int 226 0),(vs 0x179702e7475632f6d69616c632f 908)]⟩), #[]⟩
noncomputable def As (P:E8):Obj:=⟨(.type "function"),none,(.func (cj (cL 25 9) 0x1646e696b5f6362615f2e676e697070614d [] .none .none .none (vs 0x16362612e736e6f697463656c6c6f63 430) (.ref 466) .none)), #[]⟩
noncomputable def Ar (P:E8):Obj:=⟨(.type "dict"),none,(.dict ⟨[de P 0x15f5f656c75646f6d5f5f 841 (vs 0x16362612e736e6f697463656c6c6f63 430),de P 0x15f5f6f6e656e696c74737269665f5f 845 (.int 191 844),de P 0x15f5f73746f6c735f5f 846 (.ref 410),de P 0x15f5f6d6574697465675f5f 854 (.ref 417),de P 24405351 863 (.ref 425),de P 0x15f5f736e6961746e6f635f5f 871 (.ref 432),de P 6232302955 878 (.ref 439),de P 1595268232297 885 (.ref 446),de P 408354575638902 892 (.ref 453),de P 386338505711455 900 (.ref 460),de P 0x15f5f64657372657665725f5f 901 .none,de P 0x1646e696b5f6362615f 909 (.ref 467),de P 0x15f5f736574756269727474615f6369746174735f5f 910 (.ref 468),de P 98902597500690271 911 .none,de P 0x15f5f687361685f5f 912 .none,de P 0x15f5f73646f6874656d74636172747362615f5f 921 (.ref 474)]⟩ 4), #[]⟩
noncomputable def Aq (P:E8):Obj:=⟨(.ref 117),none,(.cls ⟨(sn 0x1676e697070614d),[(.ref 283)],[(.ref 471),(.ref 283),(.ref 224),(.ref 194),(.ref 260),(.type "object")],470,(sn 0x1676e697070614d),false,[],[],true,none,false⟩), #[(some (.ref 403)),none,(some (vs 0x1676e697070614d 834)),(some (vs 0x1676e697070614d 842)),(some (.builtin "object.__new__")),(some (.bool false))]⟩
noncomputable def Am (P:E8):Obj:=⟨(.type "cell"),none,(.cell (some (.ref 1093))), #[]⟩
noncomputable def Al (P:E8):Obj:=⟨(.type "tuple"),none,(.seq ⟨[.none]⟩ 0), #[]⟩
noncomputable def tu (P:E8):Obj:=⟨(.type "code"),none,(.fields ⟨[(vs 0x15f5f74696e695f5f 1464),(vs 0x15f5f74696e695f5f2e7265746e756f43 1465),(vs 0x179702e7475632f6d69616c632f 1466),(.int 507 0),(.int 2 0),(.int 2 0),(.int 0 0),(.int 11 0),(.ref 881),(.bool true),(.int 379 0),(.ref 882),.none,(.ref 883),(.ref 884),(.ref 885),(.int 1471 0),(.int 507 0),(vs 0x179702e7475632f6d69616c632f 1472)]⟩), #[]⟩
noncomputable def lS (P:E8):Obj:=⟨(.type "function"),none,(.func (cj (cL 44 0) 0x15f5f74696e695f5f2e7265746e756f43 [((sn 0x15f5f7373616c635f5f),874)] (.ref 879) .none .none (vs 0x1736e6f697463656c6c6f632e333133797063 1450) (.ref 886) (.ref 880))), #[]⟩
noncomputable def Ak (P:E8):Obj:=⟨(.type "code"),none,(.fields ⟨[(vs 0x15f5f676e697373696d5f5f 1474),(vs 0x15f5f676e697373696d5f5f2e7265746e756f43 1475),(vs 0x179702e7475632f6d69616c632f 1476),(.int 511 0),(.int 2 0),(.int 0 0),(.int 0 0),(.int 3 0),(.ref 888),(.bool true),(.int 379 0),(.ref 889),.none,(.ref 890),(.ref 891),(.ref 892),(.int 1479 0),(.int 511 0),(vs 0x179702e7475632f6d69616c632f 1480)]⟩), #[]⟩
noncomputable def Aj (P:E8):Obj:=⟨(.type "function"),none,(.func (cj (cL 44 1) 0x15f5f676e697373696d5f5f2e7265746e756f43 [] .none .none .none (vs 0x1736e6f697463656c6c6f632e333133797063 1450) (.ref 893) .none)), #[]⟩
noncomputable def Ai (P:E8):Obj:=⟨(.type "tuple"),none,(.seq ⟨[.none]⟩ 0), #[]⟩
noncomputable def tt (P:E8):Obj:=⟨(.type "code"),none,(.fields ⟨[(vs 393025501294709 1525),(vs 0x16574616470752e7265746e756f43 1526),(vs 0x179702e7475632f6d69616c632f 1527),(.int 530 0),(.int 2 0),(.int 2 0),(.int 0 0),(.int 11 0),(.ref 930),(.bool true),(.int 379 0),(.ref 931),.none,(.ref 932),(.ref 933),(.ref 934),(.int 1535 0),(.int 530 0),(vs 0x179702e7475632f6d69616c632f 1536)]⟩), #[]⟩
noncomputable def lR (P:E8):Obj:=⟨(.type "function"),none,(.func (cj (cL 44 6) 0x16574616470752e7265746e756f43 [((sn 0x15f5f7373616c635f5f),874)] (.ref 928) .none .none (vs 0x1736e6f697463656c6c6f632e333133797063 1450) (.ref 935) (.ref 929))), #[]⟩
noncomputable def Ah (P:E8):Obj:=⟨(.type "tuple"),none,(.seq ⟨[.none]⟩ 0), #[]⟩
noncomputable def Ag (P:E8):Obj:=⟨(.type "code"),none,(.fields ⟨[(vs 0x17463617274627573 1538),(vs 0x174636172746275732e7265746e756f43 1539),(vs 0x179702e7475632f6d69616c632f 1540),(.int 544 0),(.int 2 0),(.int 2 0),(.int 0 0),(.int 11 0),(.ref 938),(.bool true),(.int 379 0),(.ref 939),.none,(.ref 940),(.ref 941),(.ref 942),(.int 1547 0),(.int 544 0),(vs 0x179702e7475632f6d69616c632f 1548)]⟩), #[]⟩
noncomputable def oa (P:E8):Obj:=⟨(.type "function"),none,(.func (cj (cL 44 7) 0x174636172746275732e7265746e756f43 [] (.ref 937) .none .none (vs 0x1736e6f697463656c6c6f632e333133797063 1450) (.ref 943) .none)), #[]⟩
noncomputable def A7 (P:E8):Obj:=⟨(.type "code"),none,(.fields ⟨[(vs 98902593307369311 1647),(vs 0x15f5f6275735f5f2e7265746e756f43 1648),(vs 0x179702e7475632f6d69616c632f 1649),(.int 618 0),(.int 2 0),(.int 0 0),(.int 0 0),(.int 3 0),(.ref 1023),(.bool true),(.int 379 0),(.ref 1024),.none,(.ref 1025),(.ref 1026),(.ref 1027),(.int 1656 0),(.int 618 0),(vs 0x179702e7475632f6d69616c632f 1657)]⟩), #[]⟩
noncomputable def lU (P:E8):Obj:=⟨(.type "function"),none,(.func (cj (cL 44 19) 0x15f5f6275735f5f2e7265746e756f43 [] .none .none .none (vs 0x1736e6f697463656c6c6f632e333133797063 1450) (.ref 1028) .none)), #[]⟩
noncomputable def AZ (P:E8):Obj:=⟨(.type "code"),none,(.fields ⟨[(vs 386338523144031 1659),(vs 0x15f5f726f5f5f2e7265746e756f43 1660),(vs 0x179702e7475632f6d69616c632f 1661),(.int 631 0),(.int 2 0),(.int 0 0),(.int 0 0),(.int 3 0),(.ref 1030),(.bool true),(.int 379 0),(.ref 1031),.none,(.ref 1032),(.ref 1033),(.ref 1034),(.int 1669 0),(.int 631 0),(vs 0x179702e7475632f6d69616c632f 1670)]⟩), #[]⟩
noncomputable def lT (P:E8):Obj:=⟨(.type "function"),none,(.func (cj (cL 44 20) 0x15f5f726f5f5f2e7265746e756f43 [] .none .none .none (vs 0x1736e6f697463656c6c6f632e333133797063 1450) (.ref 1035) .none)), #[]⟩
noncomputable def AY (P:E8):Obj:=⟨(.type "code"),none,(.fields ⟨[(vs 98902601778683743 1672),(vs 0x15f5f646e615f5f2e7265746e756f43 1673),(vs 0x179702e7475632f6d69616c632f 1674),(.int 645 0),(.int 2 0),(.int 0 0),(.int 0 0),(.int 3 0),(.ref 1037),(.bool true),(.int 379 0),(.ref 1038),.none,(.ref 1039),(.ref 1040),(.ref 1041),(.int 1682 0),(.int 645 0),(vs 0x179702e7475632f6d69616c632f 1683)]⟩), #[]⟩
noncomputable def om (P:E8):Obj:=⟨(.type "function"),none,(.func (cj (cL 44 21) 0x15f5f646e615f5f2e7265746e756f43 [] .none .none .none (vs 0x1736e6f697463656c6c6f632e333133797063 1450) (.ref 1042) .none)), #[]⟩
noncomputable def AX (P:E8):Obj:=⟨(.type "dict"),none,(.dict ⟨[de P 0x15f5f656c75646f6d5f5f 1459 (vs 0x1736e6f697463656c6c6f632e333133797063 1450),de P 0x15f5f6f6e656e696c74737269665f5f 1463 (.int 505 1462),de P 0x15f5f74696e695f5f 1473 (.ref 887),de P 0x15f5f676e697373696d5f5f 1481 (.ref 894),de P 1565003116404 1488 (.ref 901),de P 0x16e6f6d6d6f635f74736f6d 1496 (.ref 909),de P 0x173746e656d656c65 1503 (.ref 916),de P 0x17379656b6d6f7266 1524 (.ref 926),de P 393025501294709 1537 (.ref 936),de P 0x17463617274627573 1549 (.ref 944),de P 6332378979 1556 (.ref 951),de P 0x15f5f6563756465725f5f 1563 (.ref 958),de P 0x15f5f6d6574696c65645f5f 1572 (.ref 966),de P 0x15f5f727065725f5f 1580 (.ref 973),de P 386338505711455 1590 (.ref 980),de P 386338304974687 1598 (.ref 987),de P 386338304843615 1608 (.ref 994),de P 386338556501855 1616 (.ref 1001),de P 386338304515935 1626 (.ref 1008),de P 386338556174175 1634 (.ref 1015),de P 98902601610911583 1646 (.ref 1022),de P 98902593307369311 1658 (.ref 1029),de P 386338523144031 1671 (.ref 1036),de P 98902601778683743 1684 (.ref 1043),de P 98902666220953439 1694 (.ref 1050),de P 98902614513442655 1704 (.ref 1057),de P 0x16576697469736f705f7065656b5f 1710 (.ref 1062),de P 0x15f5f646461695f5f 1720 (.ref 1069),de P 0x15f5f627573695f5f 1730 (.ref 1076),de P 98902661925527391 1741 (.ref 1083),de P 0x15f5f646e61695f5f 1752 (.ref 1090),de P 0x15f5f736574756269727474615f6369746174735f5f 1753 (.ref 1091),de P 0x15f5f746369645f5f 1756 (.ref 1094),de P 0x15f5f6665726b6165775f5f 1758 (.ref 1095),de P 98902597500690271 1759 .none,de P 0x15f5f687361685f5f 1760 .none]⟩ 6), #[]⟩
noncomputable def oj (P:E8):Obj:=⟨(.type "type"),none,(.cls ⟨(sn 0x17265746e756f43),[(.type "dict")],[(.ref 1093),(.type "dict"),(.type "object")],1092,(sn 0x17265746e756f43),true,[],[],false,none,false⟩), #[(some (.ref 871)),none,(some (vs 0x17265746e756f43 1452)),(some (vs 0x17265746e756f43 1460)),(some (.builtin "dict.__new__")),(some (.bool true))]⟩
noncomputable def AW (P:E8):Obj:=⟨(.type "code"),none,(.fields ⟨[(vs 0x15f5f74696e695f5f 1787),(vs 0x15f5f74696e695f5f2e6f666e4965646f4e5f 1788),(vs 0x179702e7475632f6d69616c632f 1789),(.int 705 0),(.int 2 0),(.int 0 0),(.int 0 0),(.int 3 0),(.ref 1106),(.bool true),(.int 379 0),(.ref 1107),.none,(.ref 1108),(.ref 1109),(.ref 1110),(.int 1792 0),(.int 705 0),(vs 0x179702e7475632f6d69616c632f 1793)]⟩), #[]⟩
noncomputable def AV (P:E8):Obj:=⟨(.type "function"),none,(.func (cj (cL 48 1) 0x15f5f74696e695f5f2e6f666e4965646f4e5f [] .none .none .none (vs 0x162696c68706172672e333133797063 1763) (.ref 1111) .none)), #[]⟩
noncomputable def AU (P:E8):Obj:=⟨(.type "dict"),none,(.dict ⟨[de P 0x15f5f656c75646f6d5f5f 1778 (vs 0x162696c68706172672e333133797063 1763),de P 0x15f5f6f6e656e696c74737269665f5f 1782 (.int 702 1781),de P 0x15f5f73746f6c735f5f 1786 (.ref 1105),de P 0x15f5f74696e695f5f 1794 (.ref 1112),de P 0x15f5f736574756269727474615f6369746174735f5f 1798 (.ref 1113),de P 5996048238 1800 (.ref 1117),de P 0x173726f7373656365646572706e 1802 (.ref 1118),de P 0x173726f73736563637573 1804 (.ref 1119),de P 98902597500690271 1805 .none]⟩ 5), #[]⟩
noncomputable def AT (P:E8):Obj:=⟨(.type "type"),none,(.cls ⟨(sn 0x16f666e4965646f4e5f),[(.type "object")],[(.ref 1116),(.type "object")],1115,(sn 0x16f666e4965646f4e5f),false,[(sn 5996048238),(sn 0x173726f7373656365646572706e),(sn 0x173726f73736563637573)],[],false,none,false⟩), #[none,none,(some (vs 0x16f666e4965646f4e5f 1771)),(some (vs 0x16f666e4965646f4e5f 1779)),(some (.builtin "object.__new__")),(some (.bool false))]⟩
noncomputable def AS (P:E8):Obj:=⟨(.type "member_descriptor"),none,(.fields ⟨[(vs 5996048238 1799),(.ref 1116),(.builtin "proto.slot"),(.builtin "proto.slot#set"),(.int 2 0)]⟩), #[]⟩
noncomputable def AR (P:E8):Obj:=⟨(.type "member_descriptor"),none,(.fields ⟨[(vs 0x173726f7373656365646572706e 1801),(.ref 1116),(.builtin "proto.slot"),(.builtin "proto.slot#set"),(.int 1 0)]⟩), #[]⟩
noncomputable def AQ (P:E8):Obj:=⟨(.type "member_descriptor"),none,(.fields ⟨[(vs 0x173726f73736563637573 1803),(.ref 1116),(.builtin "proto.slot"),(.builtin "proto.slot#set"),(.int 0 0)]⟩), #[]⟩
noncomputable def AP (P:E8):Obj:=⟨(.type "tuple"),none,(.seq ⟨[.none]⟩ 0), #[]⟩
noncomputable def AO (P:E8):Obj:=⟨(.type "code"),none,(.fields ⟨[(vs 0x15f5f74696e695f5f 1838),(vs 0x15f5f74696e695f5f2e726574726f536c616369676f6c6f706f54 1839),(vs 0x179702e7475632f6d69616c632f 1840),(.int 713 0),(.int 2 0),(.int 0 0),(.int 0 0),(.int 3 0),(.ref 1143),(.bool true),(.int 379 0),(.ref 1144),.none,(.ref 1145),(.ref 1146),(.ref 1147),(.int 1845 0),(.int 713 0),(vs 0x179702e7475632f6d69616c632f 1846)]⟩), #[]⟩
noncomputable def AN (P:E8):Obj:=⟨(.type "function"),none,(.func (cj (cL 50 0) 0x15f5f74696e695f5f2e726574726f536c616369676f6c6f706f54 [] (.ref 1142) .none .none (vs 0x162696c68706172672e333133797063 1763) (.ref 1148) .none)), #[]⟩
noncomputable def AM (P:E8):Obj:=⟨(.type "code"),none,(.fields ⟨[(vs 0x16f666e6965646f6e5f7465675f 1848),(vs 0x16f666e6965646f6e5f7465675f2e726574726f536c616369676f6c6f706f54 1849),(vs 0x179702e7475632f6d69616c632f 1850),(.int 722 0),(.int 2 0),(.int 0 0),(.int 0 0),(.int 3 0),(.ref 1150),(.bool true),(.int 379 0),(.ref 1151),.none,(.ref 1152),(.ref 1153),(.ref 1154),(.int 1854 0),(.int 722 0),(vs 0x179702e7475632f6d69616c632f 1855)]⟩), #[]⟩
noncomputable def AL (P:E8):Obj:=⟨(.type "function"),none,(.func (cj (cL 50 1) 0x16f666e6965646f6e5f7465675f2e726574726f536c616369676f6c6f706f54 [] .none .none .none (vs 0x162696c68706172672e333133797063 1763) (.ref 1155) .none)), #[]⟩
noncomputable def AJ (P:E8):Obj:=⟨(.type "code"),none,(.fields ⟨[(vs 23356513 1857),(vs 0x16464612e726574726f536c616369676f6c6f706f54 1858),(vs 0x179702e7475632f6d69616c632f 1859),(.int 727 0),(.int 2 0),(.int 0 0),(.int 0 0),(.int 7 0),(.ref 1157),(.bool true),(.int 379 0),(.ref 1158),.none,(.ref 1159),(.ref 1160),(.ref 1161),(.int 1866 0),(.int 727 0),(vs 0x179702e7475632f6d69616c632f 1867)]⟩), #[]⟩
noncomputable def oi (P:E8):Obj:=⟨(.type "function"),none,(.func (cj (cL 50 2) 0x16464612e726574726f536c616369676f6c6f706f54 [] .none .none .none (vs 0x162696c68706172672e333133797063 1763) (.ref 1162) .none)), #[]⟩
noncomputable def AI (P:E8):Obj:=⟨(.type "code"),none,(.fields ⟨[(vs 0x165726170657270 1869),(vs 0x1657261706572702e726574726f536c616369676f6c6f706f54 1870),(vs 0x179702e7475632f6d69616c632f 1871),(.int 736 0),(.int 1 0),(.int 0 0),(.int 0 0),(.int 3 0),(.ref 1164),(.bool true),(.int 379 0),(.ref 1165),.none,.none,.none,(.ref 1166),(.int 1872 0),(.int 736 0),(vs 0x179702e7475632f6d69616c632f 1873)]⟩), #[]⟩
noncomputable def kq (P:E8):Obj:=⟨(.type "function"),none,(.func (cj (cL 50 3) 0x1657261706572702e726574726f536c616369676f6c6f706f54 [] .none .none .none (vs 0x162696c68706172672e333133797063 1763) (.ref 1167) .none)), #[]⟩
noncomputable def AG (P:E8):Obj:=⟨(.type "code"),none,(.fields ⟨[(vs 0x179646165725f746567 1875),(vs 0x179646165725f7465672e726574726f536c616369676f6c6f706f54 1876),(vs 0x179702e7475632f6d69616c632f 1877),(.int 744 0),(.int 1 0),(.int 0 0),(.int 0 0),(.int 3 0),(.ref 1169),(.bool true),(.int 379 0),(.ref 1170),.none,(.ref 1171),(.ref 1172),(.ref 1173),(.int 1882 0),(.int 744 0),(vs 0x179702e7475632f6d69616c632f 1883)]⟩), #[]⟩
noncomputable def oh (P:E8):Obj:=⟨(.type "function"),none,(.func (cj (cL 50 4) 0x179646165725f7465672e726574726f536c616369676f6c6f706f54 [] .none .none .none (vs 0x162696c68706172672e333133797063 1763) (.ref 1174) .none)), #[]⟩
noncomputable def AE (P:E8):Obj:=⟨(.type "code"),none,(.fields ⟨[(vs 0x16576697463615f7369 1885),(vs 0x16576697463615f73692e726574726f536c616369676f6c6f706f54 1886),(vs 0x179702e7475632f6d69616c632f 1887),(.int 755 0),(.int 1 0),(.int 0 0),(.int 0 0),(.int 3 0),(.ref 1176),(.bool true),(.int 379 0),(.ref 1177),.none,(.ref 1178),(.ref 1179),(.ref 1180),(.int 1889 0),(.int 755 0),(vs 0x179702e7475632f6d69616c632f 1890)]⟩), #[]⟩
noncomputable def AD (P:E8):Obj:=⟨(.type "function"),none,(.func (cj (cL 50 5) 0x16576697463615f73692e726574726f536c616369676f6c6f706f54 [] .none .none .none (vs 0x162696c68706172672e333133797063 1763) (.ref 1181) .none)), #[]⟩
noncomputable def AC (P:E8):Obj:=⟨(.type "code"),none,(.fields ⟨[(vs 5996703588 1899),(vs 0x1656e6f642e726574726f536c616369676f6c6f706f54 1900),(vs 0x179702e7475632f6d69616c632f 1901),(.int 763 0),(.int 1 0),(.int 0 0),(.int 0 0),(.int 7 0),(.ref 1190),(.bool true),(.int 379 0),(.ref 1191),.none,(.ref 1192),(.ref 1193),(.ref 1194),(.int 1910 0),(.int 763 0),(vs 0x179702e7475632f6d69616c632f 1911)]⟩), #[]⟩
noncomputable def kp (P:E8):Obj:=⟨(.type "function"),none,(.func (cj (cL 50 7) 0x1656e6f642e726574726f536c616369676f6c6f706f54 [] .none .none .none (vs 0x162696c68706172672e333133797063 1763) (.ref 1195) .none)), #[]⟩
noncomputable def AB (P:E8):Obj:=⟨(.type "code"),none,(.fields ⟨[(vs 0x1656c6379635f646e69665f 1913),(vs 0x1656c6379635f646e69665f2e726574726f536c616369676f6c6f706f54 1914),(vs 0x179702e7475632f6d69616c632f 1915),(.int 786 0),(.int 1 0),(.int 0 0),(.int 0 0),(.int 3 0),(.ref 1197),(.bool true),(.int 379 0),(.ref 1198),.none,(.ref 1199),(.ref 1200),(.ref 1201),(.int 1923 0),(.int 786 0),(vs 0x179702e7475632f6d69616c632f 1924)]⟩), #[]⟩
noncomputable def gT (P:E8):Obj:=⟨(.type "function"),none,(.func (cj (cL 50 8) 0x1656c6379635f646e69665f2e726574726f536c616369676f6c6f706f54 [] .none .none .none (vs 0x162696c68706172672e333133797063 1763) (.ref 1202) .none)), #[]⟩
noncomputable def AA (P:E8):Obj:=⟨(.type "dict"),none,(.dict ⟨[de P 0x15f5f656c75646f6d5f5f 1833 (vs 0x162696c68706172672e333133797063 1763),de P 0x15f5f6f6e656e696c74737269665f5f 1837 (.int 711 1836),de P 0x15f5f74696e695f5f 1847 (.ref 1149),de P 0x16f666e6965646f6e5f7465675f 1856 (.ref 1156),de P 23356513 1868 (.ref 1163),de P 0x165726170657270 1874 (.ref 1168),de P 0x179646165725f746567 1884 (.ref 1175),de P 0x16576697463615f7369 1891 (.ref 1182),de P 0x15f5f6c6f6f625f5f 1898 (.ref 1189),de P 5996703588 1912 (.ref 1196),de P 0x1656c6379635f646e69665f 1925 (.ref 1203),de P 0x1726564726f5f636974617473 1932 (.ref 1210),de P 0x15f5f736574756269727474615f6369746174735f5f 1937 (.ref 1211),de P 0x15f5f746369645f5f 1939 (.ref 1214),de P 0x15f5f6665726b6165775f5f 1941 (.ref 1215),de P 98902597500690271 1942 .none]⟩ 4), #[]⟩
noncomputable def Az (P:E8):Obj:=⟨(.type "type"),none,(.cls ⟨(sn 0x1726574726f536c616369676f6c6f706f54),[(.type "object")],[(.ref 1213),(.type "object")],1212,(sn 0x1726574726f536c616369676f6c6f706f54),true,[],[],false,none,false⟩), #[none,none,(some (vs 0x1726574726f536c616369676f6c6f706f54 1826)),(some (vs 0x1726574726f536c616369676f6c6f706f54 1834)),(some (.builtin "object.__new__")),(some (.bool true))]⟩
noncomputable def Ay (P:E8):Obj:=⟨(.type "code"),none,(.fields ⟨[(vs 0x1736c6576656c5f77616c5f 1947),(vs 0x1736c6576656c5f77616c5f 1948),(vs 0x179702e7475632f6d69616c632f 1949),(.int 818 0),(.int 4 0),(.int 0 0),(.int 0 0),(.int 3 0),(.ref 1218),(.bool true),(.int 379 0),(.ref 1219),.none,.none,.none,(.ref 1220),(.int 1950 0),(.int 818 0),(vs 0x179702e7475632f6d69616c632f 1951)]⟩), #[]⟩
noncomputable def kj (P:E8):Obj:=⟨(.type "function"),none,(.func (cj (ly 52) 0x1736c6576656c5f77616c5f [] .none .none .none (vs 0x131305f353030306f695f77616c 1945) (.ref 1221) .none)), #[]⟩
noncomputable def Ax (P:E8):Obj:=⟨(.type "code"),none,(.fields ⟨[(vs 24600940 1953),(vs 24600940 1954),(vs 0x179702e7475632f6d69616c632f 1955),(.int 840 0),(.int 1 0),(.int 0 0),(.int 0 0),(.int 3 0),(.ref 1223),(.bool true),(.int 379 0),(.ref 1224),.none,.none,.none,(.ref 1225),(.int 1956 0),(.int 840 0),(vs 0x179702e7475632f6d69616c632f 1957)]⟩), #[]⟩
noncomputable def kg (P:E8):Obj:=⟨(.type "function"),none,(.func (cj (ly 53) 24600940 [] .none .none .none (vs 0x131305f353030306f695f77616c 1945) (.ref 1226) .none)), #[]⟩
noncomputable def kP:List Nat:=[0,2,3,83,84,99,100,116,117,153,154,466,467,470,471,874,879,886,887,893,894,928,935,936,937,943,944,1028,1029,1035,1036,1042,1043,1092,1093,1111,1112,1115,1116,1117,1118,1119,1142,1148,1149,1155,1156,1162,1163,1167,1168,1174,1175,1181,1182,1195,1196,1202,1203,1212,1213,1221,1222,1226,1227]
noncomputable def base (P:E8):Frag:=[(0,o0 P),(2,o2 P),(3,o3 P),(83,Ap P),(84,Ao P),(99,Af P),(100,A8 P),(116,AK P),(117,AH P),(153,Aw P),(154,Av P),(466,At P),(467,As P),(470,Ar P),(471,Aq P),(874,Am P),(879,Al P),(886,tu P),(887,lS P),(893,Ak P),(894,Aj P),(928,Ai P),(935,tt P),(936,lR P),(937,Ah P),(943,Ag P),(944,oa P),(1028,A7 P),(1029,lU P),(1035,AZ P),(1036,lT P),(1042,AY P),(1043,om P),(1092,AX P),(1093,oj P),(1111,AW P),(1112,AV P),(1115,AU P),(1116,AT P),(1117,AS P),(1118,AR P),(1119,AQ P),(1142,AP P),(1148,AO P),(1149,AN P),(1155,AM P),(1156,AL P),(1162,AJ P),(1163,oi P),(1167,AI P),(1168,kq P),(1174,AG P),(1175,oh P),(1181,AE P),(1182,AD P),(1195,AC P),(1196,kp P),(1202,AB P),(1203,gT P),(1212,AA P),(1213,Az P),(1221,Ay P),(1222,kj P),(1226,Ax P),(1227,kg P)]
noncomputable def iw:List Obj->Nat->BT->BT
 | [],_,t=>t
 | o::l,i,t=>iw l (i+1) (t.ins i o)
theorem CA (o:Obj):∀(n:Nat) (t:BT),(∀j,j<n->(t.get j).isSome=true)->((t.ins n o).get n).isSome=true:=by
 intro n
 induction n using Nat.strongRecOn with
 | ind n i=>
  intro t a
  cases t with
  | nil=>
   by_cases h:n=0
   .subst h;rfl
   .exact absurd (a 0 (by omega)) (by simp[BT.get])
  | node v l r=>
   rw[BT.ins_node]
   by_cases h:n=0
   .subst h;rw[if_pos rfl,BT.get_node,if_pos rfl];rfl
   .rw [if_neg h]
    by_cases p:n %2=1
    .rw [if_pos p,BT.get_node,if_neg h,if_pos p]
     refine i (n/2) (by omega) l λj b=>?_
     have:=a (2*j+1) (by omega)
     rw[BT.get_node,if_neg (by omega),if_pos (by omega),show(2*j+1)/2=j by omega]at this
     exact this
    .rw [if_neg p,BT.get_node,if_neg h,if_neg p]
     refine i (n/2-1) (by omega) r λj b=>?_
     have:=a (2*j+2) (by omega)
     rw[BT.get_node,if_neg (by omega),if_neg (by omega),show(2*j+2)/2-1=j by omega]at this
     exact this
theorem qy:∀(l:List Obj) (i:Nat) (t:BT),(∀j,j<i->(t.get j).isSome=true)->∀j,(iw l i t).get j=if i<=j/\j<i+l.length then l[j-i]? else t.get j
 | [],i,t,_,j=>by
  rw[if_neg (by simp only[Hh];omega)];rfl
 | o::l,i,t,a,j=>by
  have b:=CA o i t a
  have h:=BT.get_ins o t i b
  show(iw l (i+1) (t.ins i o)).get j=_
  rw[qy l (i+1) (t.ins i o) (λk hk=>by
   rw[h]
   by_cases e:k=i
   .rw [if_pos e];rfl
   .rw [if_neg e];exact a k (by omega)) j,h]
  simp only[Fd]
  by_cases e:j=i
  .subst e
   rw[if_neg (by omega),if_pos rfl,if_pos (by omega),Nat.sub_self];rfl
  .by_cases c:i+1<=j/\j<i+1+l.length
   .rw [if_pos c,if_pos (by omega),show j-i=(j-(i+1))+1 by omega];rfl
   .rw [if_neg c,if_neg e,if_neg (by omega)]
noncomputable def qG (s:Fe):Hs:=⟨iw s.heap.objs.toList 0 .nil,s.heap.objs.size,s.heap.life,s.gens,s.drawn,s.toks,s.os⟩
theorem xn (s:Fe):(qG s).abs=s:=by
 obtain⟨⟨o,l⟩,g,drawn,toks,os⟩:=s
 have:absHeap (iw o.toList 0 .nil) o.size l=⟨o,l⟩:=by
  have e:(absHeap (iw o.toList 0 .nil) o.size l).objs=o:=by
   apply Array.ext_getElem?
   intro i
   rw[absHeap_at,qy o.toList 0 .nil (λj a=>by omega) i]
   by_cases h:i<o.size
   .rw [if_pos h,if_pos (by simpa using h),Nat.sub_zero,Array.getElem?_toList]
    rw[Array.getElem?_eq_getElem h];rfl
   .rw [if_neg h,Array.getElem?_eq_none (by omega)]
  show Heap.mk _ _=_
  exact congrArg (Heap.mk · l) e
 show Shared.mk _ _ _ _ _=_
 exact congrArg (Shared.mk · g drawn toks os) this
noncomputable def pc {a:Type} (s:Hs) (k:Hs->a):a:=match s with
 | ⟨T,n,l,g,drawn,toks,os⟩=>match n with
  | 0=>(match toks with
   | 0=>k ⟨T,0,l,g,drawn,0,os⟩
   | t+1=>k ⟨T,0,l,g,drawn,t+1,os⟩)
  | m+1=>(match toks with
   | 0=>k ⟨T,m+1,l,g,drawn,0,os⟩
   | t+1=>k ⟨T,m+1,l,g,drawn,t+1,os⟩)
theorem uR {a:Type} (s:Hs) (k:Hs->a):pc s k=k s:=by
 obtain⟨T,n,l,g,drawn,toks,os⟩:=s
 cases n<;>cases toks<;>rfl
noncomputable def jG (d:Code->Sem Fin) (p:Program) (w:E9) (b:Nat) (a:Option Fb):Nat->Hs->Thread->Option Hs
 | 0,_,_=>none
 | n+1,s,t=>match through t with
  | true=>some s
  | false=>match stepOk b a t with
   | false=>none
   | true=>match stepT d p w s t with
    | some x=>jG d p w b a n x.1 x.2
    | none=>none
theorem qD {e:String->Option Builtin} {p:Program} {w:E9} {d:Nat} {a:Option Fb}:∀(n:Nat) (s:Hs) (t:Thread) (r:Hs),
 jG (FM e) p w d a n s t=some r->topRun e p w d a n s.abs t=some r.abs
 | 0,_,_,_,h=>by cases h
 | n+1,s,t,r,h=>by
  unfold jG at h
  unfold topRun
  cases f:through t with
  | true=>rw[f]at h;cases h;rfl
  | false=>
   rw[f]at h
   cases hk:stepOk d a t with
   | false=>rw[hk]at h;cases h
   | true=>
    rw[hk]at h
    cases b:stepT (FM e) p w s t with
    | none=>rw[b]at h;cases h
    | some x=>obtain⟨g,i⟩:=x;rw[b]at h;rw[stepT_spec b];exact qD n g i r h
noncomputable def lr (p:Program) (w:E9) (b:Nat) (a:Option Fb):Nat->Hs->Thread->Option Hs
 | 0,_,_=>none
 | n+1,s,t=>match through t with
  | true=>some s
  | false=>match PySem.W.Fast.tw6613529449190102663 b a t with
   | false=>none
   | true=>match Il (F7 F6) p w s t with
    | some x=>pc x.1 λd=>lr p w b a n d x.2
    | none=>none
theorem qE {p:Program} {w:E9} {b:Nat} {a:Option Fb}:∀(n:Nat) (s:Hs) (t:Thread),jG (FM treeTable) p w b a n s t=lr p w b a n s t
 | 0,_,_=>rfl
 | n+1,s,t=>by
  unfold jG lr
  rw[<-PySem.W.Fast.te6613529449190102663,<-Ip,<-Hl,<-Hk]
  simp only[qE n,uR]
noncomputable def kC (d:Code->Sem Fin) (p:Program) (w:E9):Nat->Hs->Thread->Option Hs
 | 0,_,_=>none
 | n+1,s,t=>match t.atExitBegin with
  | some l=>match l with
   | []=>some s
   | _::_=>none
  | none=>match stepT d p w s t with
   | some x=>kC d p w n x.1 x.2
   | none=>none
theorem uz {b:String->Option Builtin} {p:Program} {w:E9}:∀(n:Nat) (s:Hs) (t:Thread) (r:Hs),
 kC (FM b) p w n s t=some r->importEnds b p w n s.abs t=some r.abs
 | 0,_,_,_,h=>by cases h
 | n+1,s,t,r,h=>by
  unfold kC at h
  unfold importEnds
  cases d:t.atExitBegin with
  | some l=>
   rw[d]at h
   cases l with
   | nil=>cases h;rfl
   | cons=>cases h
  | none=>
   rw[d]at h
   cases a:stepT (FM b) p w s t with
   | none=>rw[a]at h;cases h
   | some x=>obtain⟨e,f⟩:=x;rw[a]at h;dsimp only;rw[stepT_spec a];exact uz n e f r h
noncomputable def l8 (p:Program) (w:E9):Nat->Hs->Thread->Option Hs
 | 0,_,_=>none
 | n+1,s,t=>match PySem.W.Fast.tw3805553451399329143 t with
  | some l=>match l with
   | []=>some s
   | _::_=>none
  | none=>match Il (F7 F6) p w s t with
   | some x=>pc x.1 λa=>l8 p w n a x.2
   | none=>none
theorem uA {p:Program} {w:E9}:∀(n:Nat) (s:Hs) (t:Thread),kC (FM treeTable) p w n s t=l8 p w n s t
 | 0,_,_=>rfl
 | n+1,s,t=>by
  unfold kC l8
  rw[<-PySem.W.Fast.te3805553451399329143,<-Ip,<-Hl,<-Hk]
  simp only[uA n,uR]
noncomputable def qv (p:Program):Program:={p with main:={p.main with body:=p.main.body.drop 53}}
noncomputable def ku (p:Program):List Str:=p.main.scope.names.filterMap λx=>if x.2==.local&&x.1 !=(⟨#[108,97,119]⟩:Str)&&x.1 !=(⟨#[95,95,110,97,109,101,95,95]⟩:Str)then some x.1 else none
noncomputable def lY:List Str:=PySem.W.Fast.tw5923862056798008813 pq.main.body
theorem tM:importedModules pq.main.body=lY:=by unfold lY;rw[<-PySem.W.Fast.te5923862056798008813]
noncomputable def sI:Hs:=⟨.nil,0,{}, #[],{},1,(start (opening pq)).1.os⟩
theorem zz:sI.abs=(start (opening pq)).1:=by kernel_rfl
noncomputable def qF (w:E9) (s:Fe):Option (Fe×Hs):=match s.heap.isNs mainGlobals&&s.gens.size==0 with
 | true=>(lr pq w s.heap.objs.size (PySem.W.Fast.tw8920871248978507458 s.heap mainGlobals "__annotations__") 22000 (qG s) (topStub pq)).map λr=>(s,r)
 | false=>none
noncomputable def lP (w:E9):Option (Fe×Hs):=
 (l8 (opening pq) w 22000 sI (PySem.W.Fast.tw1435165496053646825 (opening pq)).2).bind λs=>(PySem.W.Fast.tw14289696077712309145 pq s.abs).bind (qF w)
noncomputable def n5 (x:Fe×Hs):Bool:=staticsOk lY x.1.heap x.2.abs.heap&&namesBound pq x.2.abs.heap&&gensDone x.2.abs&&laidKept x.1.heap x.2.abs.heap
theorem Aa (w:E9) (x:Fe×Hs) (h:lP w=some x) (hk:n5 x=true):openEnds treeTable pq w 22000=some x.2.abs:=by
 unfold lP at h
 rw[<-uA,<-PySem.W.Fast.te1435165496053646825,<-PySem.W.Fast.te14289696077712309145]at h
 obtain⟨s,i,j⟩:=H2.mp h
 obtain⟨b,k,a⟩:=H2.mp j
 have d:=uz _ _ _ _ i
 rw[zz]at d
 unfold openEnds fencedOpening
 rw[d]
 show((fenceModules? pq s.abs)).bind _=_
 rw[k]
 show topFrom treeTable pq w 22000 b=_
 unfold qF at a
 unfold topFrom
 cases g:(b.heap.isNs mainGlobals&&b.gens.size==0)with
 | false=>rw[g]at a;cases a
 | true=>
  rw[g]at a
  dsimp only at a⊢
  rw[<-PySem.W.Fast.te8920871248978507458]at a
  obtain⟨r,e,l⟩:=H5.mp a
  subst l
  rw[<-qE]at e
  have f:=qD _ _ _ _ e
  rw[xn]at f
  rw[f,tM]
  show(match n5 (b,r)with| true=>some r.abs | false=>none)=_
  rw[hk]
theorem Ez (w:E9):(lP w).map (λx=>(n5 x,PySem.W.Fast.tw4187177175401517315 (qv pq) (ku pq) lY (λ_=>true) true x.2.abs))=some (true,openGood (qv pq) (ku pq)):=by kernel_rfl
theorem Ey (w:E9):(lP w).map (λx=>PySem.W.X.obsZ kP x.2.abs)=some (PySem.W.X.valZ base 1228 1959 w):=by kernel_rfl
theorem BR:LeftO pq (qv pq) (ku pq) (λ_=>true) (PySem.W.X.obsZ kP) (PySem.W.X.valZ base 1228 1959) 22000:=λw=>by
 have h:=Ez w
 rw[<-PySem.W.Fast.te4187177175401517315]at h
 obtain⟨x,a,b⟩:=H5.mp h
 obtain⟨y,d,e⟩:=H5.mp (Ey w)
 cases a.symm.trans d
 have f:=congrArg Prod.fst b
 have g:=congrArg Prod.snd b
 rw[Aa w x a f,tM]
 exact congrArg some (congr (congrArg Prod.mk g) e)
noncomputable abbrev dR:=Addr×Obj
noncomputable abbrev ao:=List dR
inductive cG where
 | base
 | ret (c:Code) (hd:Option Fb) (p:Pos) (k:HI->Sem Fin) (κ:cG)
inductive St where
 | run (c:Code) (p:Pos) (κ:cG) (t:Sem Fin) (cells:ao)
 | enter (c:Code) (p:Pos) (κ:cG) (cells:ao)
 | ret (r:HI) (κ:cG) (cells:ao)
inductive dj where
 | bad
 | stop (st:St)
 | ob (x y:Nat) (o:dj)
noncomputable def ts (o:dj):List Nat:=dj.rec (motive:=λ_=>List Nat) [] (λ_=>[]) (λx _ _ i=>x::i) o
noncomputable def lQ (o:dj):List Nat:=dj.rec (motive:=λ_=>List Nat) [] (λ_=>[]) (λ_ y _ i=>y::i) o
noncomputable def pi (o:dj):Option St:=dj.rec (motive:=λ_=>Option St) none (λst=>some st) (λ_ _ _ i=>i) o
noncomputable def eA (l:ao) (i:Nat):Option dR:=List.rec (motive:=λ_=>Nat->Option dR) (λ_=>none) (λx _ a i=>Nat.rec (motive:=λ_=>Option dR) (some x) (λk _=>a k) i) l i
noncomputable def put (l:ao) (i:Nat) (x:dR):ao:=List.rec (motive:=λ_=>Nat->ao) (λ_=>[]) (λy l a i=>Nat.rec (motive:=λ_=>ao) (x::l) (λk _=>y::a k) i) l i
theorem oq:∀(l:ao) (i:Nat),eA l i=l[i]?
 | [],_=>rfl
 | _::_,0=>rfl
 | _::l,i+1=>(oq l i).trans (by simp)
theorem sU (x:dR):∀(l:ao) (i:Nat),put l i x=l.set i x
 | [],_=>rfl
 | _::_,0=>rfl
 | y::l,i+1=>congrArg (y:: ·) (sU x l i)
noncomputable def below (B:List (Code×Pos)):cG->List (Code×Pos)
 |.base=>B
 |.ret c _ p _ a=>(c,p)::below B a
noncomputable def jl (H:Option Fb):cG->Option Fb
 |.base=>H
 |.ret _ h _ _ a=>match h with
  | some e=>some e
  | none=>jl H a
noncomputable def j8 (h:Option Fb):Bool:=match h with
 | none=>true
 | some v=>match v with
  |.notImplemented=>false
  | _=>true
noncomputable def j9:cG->Prop
 |.base=>True
 |.ret _ h _ _ a=>j8 h=true/\j9 a
noncomputable def lvl:cG->Nat
 |.base=>0
 |.ret _ _ _ _ a=>lvl a+1
noncomputable def cE (a:Ctx):cG->Code->Ctx
 |.base,c=>a.goto c
 |.ret b h p _ d,c=>(cE a d b).enter c h p
noncomputable def lM (c:Code):Bool:=match c with
 |.builtin _ _=> !Ih ⟨.pure (.again c),c,default,[]⟩
 | _=>true
theorem zI {c:Code} (h:lM c=true):c.quiet=true:=by
 cases c with
 | builtin id b=>
  have a:(!Ih ⟨.pure (.again (.builtin id b)),.builtin id b,default,[]⟩)=true:=h
  rw[<-PySem.W.Fast.te15578638425004381011]at a
  unfold Code.quiet Thread.loud
  simp only[Bool.not_eq_true']at a
  rw[a];rfl
 | _=>rfl
structure fz where
 D:Code->Sem Fin
 G:Setting
 kt:Nat->Option Obj
 B:List (Code×Pos)
 H:Option Fb
 d:Nat
noncomputable def xR (V:fz) (v:Nat) (d j:Nat->St->dj) (N:Nat) (st:St):dj:=match st with
 |.run c p b t cells=>match t with
  |.pure fin=>match fin with
   |.done f=>d N (.ret (.ok f) b cells)
   |.again g=>match lM g with
    | true=>d N (.enter g p b cells)
    | false=>.bad
  |.raise e=>d N (.ret (.error e) b cells)
  |.rule _ k=>d N (.run c p b (k ()) cells)
  |.at q k=>d N (.run c q b (k ()) cells)
  |.point _ k=>d N (.run c p b (k ()) cells)
  |.ask k=>d N (.run c p b (k V.G) cells)
  |.load a _ k=>match N %4096 with
   | 0=>match V.kt a with
    | some o=>d (N/4096) (.run c p b (k o) cells)
    | none=>.bad
   | i+1=>match eA cells i with
    | some x=>.ob a x.1 (d (N/4096) (.run c p b (k x.2) cells))
    | none=>.bad
  |.loadIfAlive a k=>match N %4096 with
   | 0=>match V.kt a with
    | some o=>d (N/4096) (.run c p b (k (some o)) cells)
    | none=>.bad
   | i+1=>match eA cells i with
    | some x=>.ob a x.1 (d (N/4096) (.run c p b (k (some x.2)) cells))
    | none=>.bad
  |.update a _ f k=>match N %4096 with
   | 0=>.bad
   | i+1=>match eA cells i with
    | some x=>match(f x.2).isFreed with
     | true=>.bad
     | false=>.ob a x.1 (d (N/4096) (.run c p b (k ()) (put cells i (x.1,f x.2))))
    | none=>.bad
  |.alloc o k=>match o.isFreed with
   | true=>.bad
   | false=>j N (.run c p b (k v) ((v,o)::cells))
  |.fresh k=>j N (.run c p b (k v) cells)
  |.handled own k=>match own with
   | true=>.bad
   | false=>d N (.run c p b (k (jl V.H b)) cells)
  |.stack k=>d N (.run c p b (k ((c,p)::below V.B b)) cells)
  |.call g h _ _ k=>match j8 h with
   | true=>d N (.enter g p (.ret c h p k b) cells)
   | false=>.bad
  | _=>.bad
 |.enter c p b cells=>match N %4096 with
  | 0=>.stop st
  | _+1=>match G9 (lvl b) V.d with
   | true=>d (N/4096) (.run c p b (V.D c) cells)
   | false=>.bad
 |.ret r b cells=>match b with
  |.base=>.stop st
  |.ret c _ p k l=>d N (.run c p l (k r) cells)
noncomputable def lx (V:fz) (a:Nat->Nat) (i:Nat->Nat->St->dj) (N j:Nat) (st:St):dj:=xR V (a j) (λN=>i N j) (λN=>i N (j+1)) N st
noncomputable def go (V:fz) (a:Nat->Nat) (f:Nat):Nat->Nat->St->dj:=Nat.rec (motive:=λ_=>Nat->Nat->St->dj) (λ_ _ _=>.bad) (λ_ i=>lx V a i) f
theorem xS {V:fz} {d e:Nat->Nat} {a b:Nat->Nat->St->dj} {j:Nat} (g:∀i,j<=i->d i=e i) (h:∀N st,a N j st=b N j st) (f:∀N st,a N (j+1) st=b N (j+1) st) (N:Nat) (st:St):
 lx V d a N j st=lx V e b N j st:=by
 unfold lx
 rw[g j (FO _),show(λN=>a N j)=λN=>b N j from funext λN=>funext λst=>h N st,show(λN=>a N (j+1))=λN=>b N (j+1)from funext λN=>funext λst=>f N st]
theorem mi {V:fz}:∀(f:Nat) {ν ν':Nat->Nat} {j:Nat},(∀i,j<=i->ν i=ν' i)->∀N st,go V ν f N j st=go V ν' f N j st
 | 0,_,_,_,_,_,_=>rfl
 | n+1,ν,ν',j,h,N,st=>xS h (λN st=>mi n h N st) (λN st=>mi n (λi a=>h i (Nat.le_of_succ_le a)) N st) N st
noncomputable def dT (o:dj) (K:St->Prop):Prop:=ts o=lQ o/\(match pi o with| some st=>K st | none=>False)
noncomputable def xi (o:dj) (K:St->Prop):Prop:=lQ o=lQ o/\(match pi o with| some st=>K st | none=>True)
theorem iX {x y:Nat} {o:dj} {K:St->Prop} (h:dT (.ob x y o) K):x=y/\dT o K:=by
 obtain⟨d,f⟩:=h
 have e:x::ts o=y::lQ o:=d
 injection e with a b
 exact⟨a,b,f⟩
theorem bS {K:St->Prop} (h:dT .bad K):False:=h.2
structure a9 (kt:Nat->Option Obj) (hs:Heap) (own:List Addr) (h:Heap) (cells:ao):Prop where
 has:∀p∈cells,h.get? p.1=some p.2
 nd:(cells.map (·.1)).Nodup
 old:∀b o,hs.get? b=some o->b∉own->h.get? b=some o
 frs:∀p∈cells,p.1∈own\/hs.objs.size<=p.1
 base:∀a o,kt a=some o->h.get? a=some o
 hi:∀p∈cells,kt p.1=none
 ow:∀a∈own,a<h.objs.size
 sz:hs.objs.size<=h.objs.size
 ge:∀p∈cells,1228<=p.1
 lo:1228<=hs.objs.size
section
variable {kt:Nat->Option Obj} {hs h:Heap} {own:List Addr} {cells:ao}
theorem a9.at (I:a9 kt hs own h cells) {i:Nat} {x:dR} (e:eA cells i=some x):h.get? x.1=some x.2:=by
 rw[oq]at e
 exact I.has x (FD e)
theorem a9.alloc (I:a9 kt hs own h cells) {o:Obj} (g:o.isFreed=false):a9 kt hs own (h.push o) ((h.objs.size,o)::cells):=by
 have k:∀a x,h.get? a=some x->a≠h.objs.size:=λa x e=>Nat.ne_of_lt (It e)
 refine⟨λp hp=>?_, ?_,λb x e f=>Ho _ (I.old b x e f),λp hp=>?_,λa x e=>Ho _ (I.base a x e),λp hp=>?_,λa d=>?_, ?_,λp hp=>?_,I.lo⟩
 .rcases GR.mp hp with rfl | hp
  .exact Heap.get?_push_size _ g
  .exact Ho _ (I.has p hp)
 .rw [Fw]
  refine GQ.mpr ⟨λi=>?_,I.nd⟩
  obtain⟨p,hp,e⟩:=Gl.mp i
  exact k _ _ (I.has p hp) e
 .rcases GR.mp hp with rfl | hp
  .exact .inr I.sz
  .exact I.frs p hp
 .rcases GR.mp hp with rfl | hp
  .cases q:kt h.objs.size with
   | none=>rfl
   | some x=>exact absurd rfl (k _ _ (I.base _ _ q))
  .exact I.hi p hp
 .rw [Heap.size_push];exact Nat.lt_succ_of_lt (I.ow a d)
 .rw [Heap.size_push];exact Nat.le_succ_of_le I.sz
 .rcases GR.mp hp with rfl | hp
  .exact F2 I.lo I.sz
  .exact I.ge p hp
theorem ri:∀{l:ao} {i:Nat} {x:dR} {o:Obj},l[i]? =some x->(l.set i (x.1,o)).map (·.1)=l.map (·.1)
 | [],_,_,_,e=>nomatch e
 | _::_,0,_,_,e=>by cases e;rfl
 | y::l,i+1,x,o,e=>by
  show y.1::(l.set i (x.1,o)).map (·.1)=y.1::l.map (·.1)
  rw[ri (by simpa using e)]
theorem tB:∀{l:ao},(l.map (·.1)).Nodup->∀{p q:dR},p∈l->q∈l->p.1=q.1->p=q
 | [],_,_,_,hp,_,_=>nomatch hp
 | x::l,d,p,q,hp,f,e=>by
  rw[Fw,GQ]at d
  rcases GR.mp hp with b | b
  .rcases GR.mp f with a | a
   .rw [b,a]
   .exact absurd (by rw[<-b,e];exact Fc a) d.1
  .rcases GR.mp f with a | a
   .exact absurd (by rw[<-a,<-e];exact Fc b) d.1
   .exact tB d.2 b a e
theorem a9.update (I:a9 kt hs own h cells) {i:Nat} {x:dR} {f:Obj->Obj} (e:eA cells i=some x) (o:(f x.2).isFreed=false):a9 kt hs own (h.update x.1 f) (put cells i (x.1,f x.2)):=by
 have t:=I.at e
 rw[oq]at e
 rw[sU]
 have g:=FD e
 have j:Heap.SameBut x.1 h (h.update x.1 f):=Heap.SameBut.update ..
 have keys:=ri (o:=f x.2) e
 have l:(h.update x.1 f).get? x.1=some (f x.2):=Heap.get?_update_self f t o
 have m:∀p,p∈cells.set i (x.1,f x.2)->p=(x.1,f x.2)\/(p∈cells/\p.1≠x.1):=λp hp=>by
  rcases List.mem_or_eq_of_mem_set hp with q | q
  .by_cases z:p.1=x.1
   .left
    have s:((cells.set i (x.1,f x.2)).map (·.1)).Nodup:=by rw[keys];exact I.nd
    obtain⟨r,_⟩:=Fa.mp e
    exact tB s hp (List.mem_set r _) z
   .exact .inr ⟨q,z⟩
  .exact .inl q
 refine⟨λp hp=>?_,by rw[keys];exact I.nd,λb y d k=>?_,λp hp=>?_,λa y d=>?_,λp hp=>?_,λa n=>by rw[j.1];exact I.ow a n,by rw[j.1];exact I.sz,λp hp=>(by rcases m p hp with rfl | ⟨q,z⟩<;>first| exact I.ge x g | exact I.ge p q),I.lo⟩
 .rcases m p hp with rfl | ⟨q,z⟩
  .exact l
  .exact (j.2 _ z).trans (I.has p q)
 .have z:b≠x.1:=by
   rintro rfl
   rcases I.frs x g with q | q
   .exact k q
   .exact absurd (It d) (Nat.not_lt_of_le q)
  exact(j.2 _ z).trans (I.old b y d k)
 .rcases m p hp with rfl | ⟨q,z⟩
  .exact I.frs x g
  .exact I.frs p q
 .have z:a≠x.1:=by
   rintro rfl
   have:=I.hi x g
   rw[d]at this;cases this
  exact(j.2 _ z).trans (I.base a y d)
 .rcases m p hp with rfl | ⟨q,z⟩
  .exact I.hi x g
  .exact I.hi p q
end
noncomputable def cF (l:List (Code×Pos)):Nat:=((l.map (·.1)).map (·.frames)).sum+((l.map (·.1)).filter HC).length
theorem DS {c:Prop} [Decidable c] {f:c->Nat} {g:¬c->Nat} {n:Nat} (a:∀h,f h<=n) (b:∀h,g h<=n):dite c f g<=n:=by
 by_cases h:c
 .rw [dif_pos h];exact a h
 .rw [dif_neg h];exact b h
theorem uk (b:Bool):(if b=true then 1 else 0:Nat)<=3:=by cases b<;>decide
theorem uO (c:Code):c.frames<=3:=by
 cases c with
 | builtin id a=>
  delta Code.frames Code.frames.match_1
  dsimp only
  repeat' refine DS (λh=>?_) (λh=>?_)
  all_goals first| exact uk _ | (subst h;exact GW rfl)
 | _=>first| exact GW rfl | (show(if Code.isFrame _=true then 1 else 0)<=3;exact uk _)
theorem vC (c:Code) (p:Pos) (l:List (Code×Pos)):cF ((c,p)::l)<=cF l+4:=by
 have h:=uO c
 unfold cF
 simp only[Fw,List.sum_cons,GK]
 cases c.isCreation with
 | true=>rw[if_pos rfl,Fd];omega
 | false=>rw[if_neg Fi];omega
theorem vJ (c:Code):c.cUnits<=10:=by
 have h:=Nat.mul_le_mul_left 3 (uO c)
 cases c with
 | builtin id a=>exact Nat.add_le_add_left h 1
 | call=>exact GW rfl
 | _=>exact F2 h (by decide)
theorem wU (c:Code) (p:Pos) (l:List (Code×Pos)):HT ((c,p)::l)<=HT l+10:=by
 have h:=vJ c
 rw[unitsOf_cons];omega
theorem kI (b:Ctx) (a:cG) (c:Code):(cE b a c).code=c:=by cases a<;>rfl
theorem kJ (b:Ctx):∀(a:cG) (c:Code),(cE b a c).below=below b.below a
 |.base,_=>rfl
 |.ret d h p k a,c=>by
  show(((cE b a d).code,p)::(cE b a d).below)=(d,p)::below b.below a
  rw[kI,kJ b a d]
theorem Em (d:Ctx) (a:cG) (c b:Code):(cE d a c).goto b=cE d a b:=by cases a<;>rfl
theorem Ac {a:Option Fb} (h:j8 a=true):a≠some byPass:=by
 rintro rfl
 cases h
theorem pt (b:Ctx):∀(a:cG) (c:Code),j9 a->(cE b a c).handled=jl b.handled a
 |.base,_,_=>rfl
 |.ret d e p k a,c,h=>by
  show markOver e (cE b a d).handled (cE b a d).past=_
  rw[markOver_of_ne (Ac h.1),pt b a d h.2]
  cases e<;>rfl
theorem vz (b:Ctx) (a:cG) (c:Code):cF (cE b a c).below<=cF b.below+4*lvl a:=by
 rw[kJ]
 induction a generalizing c with
 | base=>exact FO _
 | ret d f p k a i=>
  have h:=vC d p (below b.below a)
  have e:=i d
  show cF ((d,p)::below b.below a)<=cF b.below+4*(lvl a+1)
  omega
theorem vy (b:Ctx) (a:cG) (c:Code):HT (cE b a c).below<=HT b.below+10*lvl a:=by
 rw[kJ]
 induction a generalizing c with
 | base=>exact FO _
 | ret d f p k a i=>
  have h:=wU d p (below b.below a)
  have e:=i d
  show HT ((d,p)::below b.below a)<=HT b.below+10*(lvl a+1)
  omega
structure dQ (d:Nat) (Γ:Ctx):Prop where
 cnt:cF Γ.below+4*d<=640
 units:HT Γ.below+10*d<=2000
noncomputable abbrev ca (kt:Nat->Option Obj) (h:Heap):Prop:=∀a o,kt a=some o->h.get? a=some o
structure wc (w:E9) (V:fz):Prop where
 G:V.G=⟨pq,w.params⟩
 ok:∀(c:Code) (Γ:Ctx),Γ.code=c->cF Γ.below<=640->HT Γ.below<=2000->∀(p:Pos) (s:Fe) (Q:Fin->Pos->Fe->Prop) (E:Fb->Pos->Fe->Prop),
  wp (FT pq w) Γ (V.D c) (λa p s'=>ca V.kt s'.heap/\Q a p s') (λe p s'=>ca V.kt s'.heap/\E e p s') p s->wp (FT pq w) Γ (FM table c) Q E p s
noncomputable def jw (M:Model) (a:Ctx) (kt:Nat->Option Obj) (F:HI->Fe->Prop):cG->HI->Fe->Prop
 |.base=>F
 |.ret c _ p k b=>λr s=>wp M (cE a b c) (k r) (λfin p s=>ca kt s.heap/\finPost M (cE a b c) (jw M a kt F b) fin p s) (λe _ s=>ca kt s.heap/\jw M a kt F b (.error e) s) p s
noncomputable def FP (M:Model) (a:Ctx) (kt:Nat->Option Obj) (F:HI->Fe->Prop) (b:cG) (c:Code):Fin->Pos->Fe->Prop:=
 λfin p s=>ca kt s.heap/\finPost M (cE a b c) (jw M a kt F b) fin p s
noncomputable def FE (M:Model) (a:Ctx) (kt:Nat->Option Obj) (F:HI->Fe->Prop) (b:cG):Fb->Pos->Fe->Prop:=
 λe _ s=>ca kt s.heap/\jw M a kt F b (.error e) s
noncomputable def pU (M:Model) (b:Ctx) (kt:Nat->Option Obj) (F:HI->Fe->Prop):St->Fe->Prop
 |.run c p a t _,s=>wp M (cE b a c) t (FP M b kt F a c) (FE M b kt F a) p s
 |.enter c p a _,s=>wpCode M (cE b a c) (jw M b kt F a) p s
 |.ret r a _,s=>jw M b kt F a r s
noncomputable def oR:St->cG
 |.run _ _ a _ _=>a
 |.enter _ _ a _=>a
 |.ret _ a _=>a
noncomputable def kK:St->ao
 |.run _ _ _ _ cells=>cells
 |.enter _ _ _ cells=>cells
 |.ret _ _ cells=>cells
structure cZ (s s':Fe):Prop where
 gens:s'.gens=s.gens
 drawn:s'.drawn=s.drawn
 os:s'.os=s.os
theorem cZ.refl (s:Fe):cZ s s:=⟨rfl,rfl,rfl⟩
theorem cZ.trans {a b c:Fe} (x:cZ a b) (y:cZ b c):cZ a c:=⟨y.gens.trans x.gens,y.drawn.trans x.drawn,y.os.trans x.os⟩
noncomputable def upd (b:Nat->Nat) (j v:Nat):Nat->Nat:=λi=>if i=j then v else b i
theorem mf {w:E9} {V:fz} (L:wc w V) {E:Ctx} (M:dQ V.d E) (P:V.B=E.below) (Q:V.H=E.handled) {hs:Heap} {own:List Addr} {F:HI->Fe->Prop}:
 ∀(X N j:Nat) (st:St) (s:Fe) (K:(Nat->Nat)->St->Prop),j9 (oR st)->a9 V.kt hs own s.heap (kK st)->(∀m,dT (go V m X N j st) (K m))->
  (∀A D,j9 (oR A)->a9 V.kt hs own D.heap (kK A)->cZ s D->(∃m,K m A)->pU (FT pq w) E V.kt F A D)->pU (FT pq w) E V.kt F st s
 | 0,N,j,st,s,K,hk,I,h,v=>(bS (h λ_=>0)).elim
 | n+1,N,j,.enter c p u cells,s,K,hk,I,h,v=>by
  have g:∀m,dT (match N %4096 with
   | 0=>.stop (.enter c p u cells)
   | _+1=>match G9 (lvl u) V.d with
    | true=>go V m n (N/4096) j (.run c p u (V.D c) cells)
    | false=>.bad) (K m):=h
  cases C:N %4096 with
  | zero=>
   simp only[C]at g
   exact v _ s hk I (cZ.refl s) ⟨λ_=>0,(g λ_=>0).2⟩
  | succ i=>
   simp only[C]at g
   cases T:G9 (lvl u) V.d with
   | false=>simp only[T]at g;exact(bS (g λ_=>0)).elim
   | true=>
    simp only[T]at g
    have Z:=mf L M P Q (F:=F) n (N/4096) j (.run c p u (V.D c) cells) s K hk I g v
    have l:=GW T
    have c1:=vz E u c
    have c2:=vy E u c
    have g1:=M.cnt
    have g2:=M.units
    show wpCode _ _ _ _ _
    rw[F3,kI]
    exact L.ok c (cE E u c) (kI ..) (by omega) (by omega) p s _ _ Z
 | n+1,N,j,.ret r u cells,s,K,hk,I,h,v=>by
  cases u with
  | base=>exact v _ s hk I (cZ.refl s) ⟨λ_=>0,(h λ_=>0).2⟩
  | ret c O p k u=>
   exact mf L M P Q (F:=F) n N j (.run c p u (k r) cells) s K hk.2 I h v
 | n+1,N,j,.run c p u t cells,s,K,hk,I,h,v=>by
  have y:=λN j st s K=>mf L M P Q (hs:=hs) (own:=own) (F:=F) n N j st s K
  show wp _ _ _ _ _ _ _
  cases t with
  | pure fin=>
   rw[Sem.wp_pure]
   refine⟨I.base, ?_⟩
   cases fin with
   | done f=>exact y N j (.ret (.ok f) u cells) s K hk I h v
   | again G=>
    have g:∀m,dT (match lM G with| true=>go V m n N j (.enter G p u cells) | false=>.bad) (K m):=h
    cases W:lM G with
    | false=>simp only[W]at g;exact(bS (g λ_=>0)).elim
    | true=>
     simp only[W]at g
     refine⟨zI W, ?_⟩
     rw[Em]
     exact y N j (.enter G p u cells) s K hk I g v
  | raise e=>
   rw[Sem.wp_raise]
   exact⟨I.base,y N j (.ret (.error e) u cells) s K hk I h v⟩
  | rule io k=>rw[Sem.wp_rule];exact y N j (.run c p u (k ()) cells) s K hk I h v
  | «at» q k=>rw[Sem.wp_at];exact y N j (.run c q u (k ()) cells) s K hk I h v
  | point l k=>rw[Sem.wp_point];exact y N j (.run c p u (k ()) cells) s K hk I h v
  | ask k=>
   rw[Sem.wp_ask]
   have e:V.G=⟨(FT pq w).prog,(FT pq w).w.params⟩:=L.G
   rw[<-e]
   exact y N j (.run c p u (k V.G) cells) s K hk I h v
  | load a q k=>
   rw[Sem.wp_load]
   have g:∀m,dT (match N %4096 with
    | 0=>match V.kt a with
     | some o=>go V m n (N/4096) j (.run c p u (k o) cells)
     | none=>.bad
    | i+1=>match eA cells i with
     | some x=>.ob a x.1 (go V m n (N/4096) j (.run c p u (k x.2) cells))
     | none=>.bad) (K m):=h
   cases C:N %4096 with
   | zero=>
    simp only[C]at g
    cases H:V.kt a with
    | none=>simp only[H]at g;exact(bS (g λ_=>0)).elim
    | some o=>
     simp only[H]at g
     exact⟨o,I.base a o H,y (N/4096) j (.run c p u (k o) cells) s K hk I g v⟩
   | succ i=>
    simp only[C]at g
    cases B:eA cells i with
    | none=>simp only[B]at g;exact(bS (g λ_=>0)).elim
    | some x=>
     simp only[B]at g
     obtain rfl:=(iX (g λ_=>0)).1
     exact⟨x.2,I.at B,y (N/4096) j (.run c p u (k x.2) cells) s K hk I (λm=>(iX (g m)).2) v⟩
  | loadIfAlive a k=>
   rw[Sem.wp_loadIfAlive]
   have g:∀m,dT (match N %4096 with
    | 0=>match V.kt a with
     | some o=>go V m n (N/4096) j (.run c p u (k (some o)) cells)
     | none=>.bad
    | i+1=>match eA cells i with
     | some x=>.ob a x.1 (go V m n (N/4096) j (.run c p u (k (some x.2)) cells))
     | none=>.bad) (K m):=h
   cases C:N %4096 with
   | zero=>
    simp only[C]at g
    cases H:V.kt a with
    | none=>simp only[H]at g;exact(bS (g λ_=>0)).elim
    | some o=>
     simp only[H]at g
     rw[I.base a o H]
     exact y (N/4096) j (.run c p u (k (some o)) cells) s K hk I g v
   | succ i=>
    simp only[C]at g
    cases B:eA cells i with
    | none=>simp only[B]at g;exact(bS (g λ_=>0)).elim
    | some x=>
     simp only[B]at g
     obtain rfl:=(iX (g λ_=>0)).1
     rw[I.at B]
     exact y (N/4096) j (.run c p u (k (some x.2)) cells) s K hk I (λm=>(iX (g m)).2) v
  | update a q f k=>
   rw[Sem.wp_update]
   have g:∀m,dT (match N %4096 with
    | 0=>.bad
    | i+1=>match eA cells i with
     | some x=>match(f x.2).isFreed with
      | true=>.bad
      | false=>.ob a x.1 (go V m n (N/4096) j (.run c p u (k ()) (put cells i (x.1,f x.2))))
     | none=>.bad) (K m):=h
   cases C:N %4096 with
   | zero=>simp only[C]at g;exact(bS (g λ_=>0)).elim
   | succ i=>
    simp only[C]at g
    cases B:eA cells i with
    | none=>simp only[B]at g;exact(bS (g λ_=>0)).elim
    | some x=>
     simp only[B]at g
     cases J:(f x.2).isFreed with
     | true=>simp only[J]at g;exact(bS (g λ_=>0)).elim
     | false=>
      simp only[J]at g
      obtain rfl:=(iX (g λ_=>0)).1
      refine⟨by rw[I.at B];rfl, ?_⟩
      exact y (N/4096) j (.run c p u (k ()) (put cells i (x.1,f x.2))) {s with heap:=s.heap.update x.1 f} K hk (I.update B J) (λm=>(iX (g m)).2) (λA D a b d e=>v A D a b ⟨d.gens,d.drawn,d.os⟩ e)
  | alloc o k=>
   rw[Sem.wp_alloc]
   have g:∀m,dT (match o.isFreed with
    | true=>.bad
    | false=>go V m n N (j+1) (.run c p u (k (m j)) ((m j,o)::cells))) (K m):=h
   cases J:o.isFreed with
   | true=>simp only[J]at g;exact(bS (g λ_=>0)).elim
   | false=>
    simp only[J]at g
    refine y N (j+1) (.run c p u (k s.heap.objs.size) ((s.heap.objs.size,o)::cells)) {s with heap:=s.heap.push o} (λm=>K (upd m j s.heap.objs.size)) hk (I.alloc J) (λm=>?_)
     (λA D a b d e=>v A D a b ⟨d.gens,d.drawn,d.os⟩ (let ⟨m,q⟩:=e;⟨_,q⟩))
    have q:=g (upd m j s.heap.objs.size)
    have R:upd m j s.heap.objs.size j=s.heap.objs.size:=if_pos rfl
    have S:=λA=>mi (V:=V) n (ν:=upd m j s.heap.objs.size) (ν':=m) (j:=j+1) (λi Y=>if_neg (by omega)) N A
    rw[R,S]at q
    exact q
  | fresh k=>
   rw[Sem.wp_fresh]
   have g:∀m,dT (go V m n N (j+1) (.run c p u (k (m j)) cells)) (K m):=h
   refine y N (j+1) (.run c p u (k s.toks) cells) {s with toks:=s.toks+1} (λm=>K (upd m j s.toks)) hk I (λm=>?_)
    (λA D a b d e=>v A D a b ⟨d.gens,d.drawn,d.os⟩ (let ⟨m,q⟩:=e;⟨_,q⟩))
   have q:=g (upd m j s.toks)
   have R:upd m j s.toks j=s.toks:=if_pos rfl
   have S:=λA=>mi (V:=V) n (ν:=upd m j s.toks) (ν':=m) (j:=j+1) (λi Y=>if_neg (by omega)) N A
   rw[R,S]at q
   exact q
  | handled own k=>
   rw[Sem.wp_handled]
   cases own with
   | true=>exact(bS (h λ_=>0)).elim
   | false=>
    rw[if_neg Fi,pt E u c hk,<-Q]
    exact y N j (.run c p u (k (jl V.H u)) cells) s K hk I h v
  | stack k=>
   rw[Sem.wp_stack,kI,kJ,<-P]
   exact y N j (.run c p u (k ((c,p)::below V.B u)) cells) s K hk I h v
  | call G O gt l k=>
   rw[Sem.wp_call]
   have g:∀m,dT (match j8 O with
    | true=>go V m n N j (.enter G p (.ret c O p k u) cells)
    | false=>.bad) (K m):=h
   cases U:j8 O with
   | false=>simp only[U]at g;exact(bS (g λ_=>0)).elim
   | true=>
    simp only[U]at g
    exact y N j (.enter G p (.ret c O p k u) cells) s K ⟨U,hk⟩ I g v
  | unsupported=>exact(bS (h λ_=>0)).elim
  | finish=>exact(bS (h λ_=>0)).elim
  | register=>exact(bS (h λ_=>0)).elim
  | choose=>exact(bS (h λ_=>0)).elim
  | os=>exact(bS (h λ_=>0)).elim
  | newGen=>exact(bS (h λ_=>0)).elim
  | genState=>exact(bS (h λ_=>0)).elim
  | resume=>exact(bS (h λ_=>0)).elim
  | «yield»=>exact(bS (h λ_=>0)).elim
  | fork=>exact(bS (h λ_=>0)).elim
  | thread=>exact(bS (h λ_=>0)).elim
  | await=>exact(bS (h λ_=>0)).elim
structure ap (s s':Fe) (own:List Addr) (all:ao):Prop where
 same:cZ s s'
 keep:∀b o,s.heap.get? b=some o->b∉own->s'.heap.get? b=some o
 has:∀q∈all,s'.heap.get? q.1=some q.2
 frs:∀q∈all,q.1∈own\/s.heap.objs.size<=q.1
 nd:(all.map (·.1)).Nodup
 size:s.heap.objs.size<=s'.heap.objs.size
structure af where
 d:Nat
 α:Type
 c:Code:=default
 need:ao
 r:α->HI:=λ_=>.ok .next
 put:α->List Obj:=λ_=>[]
 new:α->ao:=λ_=>[]
 post:α->Prop:=λ_=>True
 needB:List ao:=[]
 putB:α->List ao:=λ_=>[]
 newB:α->List ao:=λ_=>[]
 anyH:Bool:=false
 outer:Option (List Env):=none
noncomputable def af.all (T:af):ao:=T.need++T.needB.flatten
noncomputable def af.own (T:af):List Addr:=T.all.map (·.1)
noncomputable def af.res (T:af) (x:T.α):ao:=(T.need.map (·.1)).zip (T.put x)++(T.new x++(T.putB x++T.newB x).flatten)
structure bu where
 w:E9
 kt:Nat->Option Obj
 D:Code->Sem Fin
 ok:∀B H d,wc w ⟨D,⟨pq,w.params⟩,kt,B,H,d⟩
structure d4 (kt:Nat->Option Obj) (all:ao) (s:Fe):Prop where
 base:ca kt s.heap
 has:∀q∈all,s.heap.get? q.1=some q.2
 nd:(all.map (·.1)).Nodup
 hi:∀q∈all,kt q.1=none
 ge:∀q∈all,1228<=q.1
 lo:1228<=s.heap.objs.size
noncomputable def ab (e:bu) (T:af):Prop:=
 ∀(a:Ctx),a.code=T.c->(T.anyH=true\/a.handled=none)->(∀es,T.outer=some es->envsOf a.below=es)->dQ T.d a->∀(p:Pos) (s:Fe) (F:HI->Fe->Prop),d4 e.kt T.all s->
  (∀x b,T.post x->ap s b T.own (T.res x)->F (T.r x) b)->wpCode (FT pq e.w) a F p s
noncomputable abbrev keys (l:ao):List Addr:=l.map (·.1)
section
variable {kt:Nat->Option Obj} {hs h:Heap} {own:List Addr} {l l' r:ao} {s s':Fe}
theorem a9.perm (I:a9 kt hs own h l) (p:l.Perm l'):a9 kt hs own h l':=
 ⟨λq a=>I.has q (p.mem_iff.mpr a),(p.map _).nodup_iff.mp I.nd,I.old,λq a=>I.frs q (p.mem_iff.mpr a),I.base,λq a=>I.hi q (p.mem_iff.mpr a),I.ow,I.sz,λq a=>I.ge q (p.mem_iff.mpr a),I.lo⟩
theorem tJ {a b:ao} (h:((a++b).map (·.1)).Nodup):(keys a).Nodup/\(keys b).Nodup/\∀x∈keys a,x∉keys b:=by
 rw[Ff,Gm]at h
 exact⟨h.1,h.2.1,λx d e=>h.2.2 x d x e rfl⟩
theorem a9.sub (I:a9 kt hs own h (l++r)):a9 kt hs own h l:=
 have m:∀q∈l,q∈l++r:=λq a=>F5 _ a
 ⟨λq a=>I.has q (m q a),(tJ I.nd).1,I.old,λq a=>I.frs q (m q a),I.base,λq a=>I.hi q (m q a),I.ow,I.sz,λq a=>I.ge q (m q a),I.lo⟩
theorem a9.start (P:d4 kt l s):a9 kt s.heap (keys l) s.heap l:=
 ⟨P.has,P.nd,λb o e _=>e,λp hp=>.inl (Fc hp),P.base,P.hi,λa d=>by
  obtain⟨q,f,e⟩:=Gl.mp d
  exact e▸It (P.has q f),FO _,P.ge,P.lo⟩
theorem a9.pre (I:a9 kt hs own s.heap (l++r)):d4 kt l s:=
 have I:=I.sub
 ⟨I.base,I.has,I.nd,I.hi,I.ge,F2 I.lo I.sz⟩
theorem a9.after (I:a9 kt s.heap own s'.heap l) (hs:cZ s s'):ap s s' own l:=
 ⟨hs,I.old,I.has,I.frs,I.nd,I.sz⟩
theorem a9.rule {U res:ao} (I:a9 kt hs own s.heap (U++r)) (A:ap s s' (keys U) res):a9 kt hs own s'.heap (res++r):=by
 obtain⟨E,C,D⟩:=tJ I.nd
 have i:∀q∈U,q∈U++r:=λq d=>F5 _ d
 have m:∀q∈r,q∈U++r:=λq d=>FH _ d
 have k:∀a∈keys U,∃q∈U,q.1=a:=λa x=>by
  obtain⟨q,d,e⟩:=Gl.mp x
  exact⟨q,d,e⟩
 have u:∀q∈r,q.1∉keys U:=λq d g=>D _ g (Fc d)
 refine⟨λp hp=>?_, ?_,λb o e t=>?_,λp hp=>?_,λa o e=>?_,λp hp=>?_,λa B=>Nat.lt_of_lt_of_le (I.ow a B) A.size,F2 I.sz A.size,λp hp=>?_,I.lo⟩
 .rcases GE.mp hp with hp | hp
  .exact A.has p hp
  .exact A.keep _ _ (I.has p (m p hp)) (u p hp)
 .rw [Ff,Gm]
  refine⟨A.nd,C,λa v b w e=>?_⟩
  subst e
  obtain⟨p,hp,f⟩:=Gl.mp v
  obtain⟨q,d,j⟩:=Gl.mp w
  rcases A.frs p hp with z | z
  .exact u q d (by rw[j,<-f];exact z)
  .have n:=It (I.has q (m q d))
   rw[j,<-f]at n
   exact absurd n (Nat.not_lt_of_le z)
 .refine A.keep _ _ (I.old b o e t) λg=>?_
  obtain⟨q,d,f⟩:=k b g
  rcases I.frs q (i q d)with z | z
  .exact t (f▸z)
  .rw [f]at z
   exact absurd (It e) (Nat.not_lt_of_le z)
 .rcases GE.mp hp with hp | hp
  .rcases A.frs p hp with z | z
   .obtain ⟨q,d,f⟩:=k _ z
    rw[<-f];exact I.frs q (i q d)
   .exact .inr (F2 I.sz z)
  .exact I.frs p (m p hp)
 .refine A.keep _ _ (I.base a o e) λg=>?_
  obtain⟨q,d,f⟩:=k a g
  have:=I.hi q (i q d)
  rw[f,e]at this;cases this
 .rcases GE.mp hp with hp | hp
  .rcases A.frs p hp with z | z
   .obtain ⟨q,d,f⟩:=k _ z
    rw[<-f];exact I.hi q (i q d)
   .cases y:kt p.1 with
    | none=>rfl
    | some o=>exact absurd (It (I.base _ _ y)) (Nat.not_lt_of_le z)
  .exact I.hi p (m p hp)
 .rcases GE.mp hp with hp | hp
  .rcases A.frs p hp with z | z
   .obtain ⟨q,d,f⟩:=k _ z
    rw[<-f];exact I.ge q (i q d)
   .exact F2 (F2 I.lo I.sz) z
  .exact I.ge p (m p hp)
end
noncomputable def fn {A:Type} (l:List A) (i:Nat):Option A:=List.rec (motive:=λ_=>Nat->Option A) (λ_=>none) (λx _ a i=>Nat.rec (motive:=λ_=>Option A) (some x) (λk _=>a k) i) l i
noncomputable def gw {A:Type} (l:List A) (i:Nat):List A:=List.rec (motive:=λ_=>Nat->List A) (λ_=>[]) (λx l a i=>Nat.rec (motive:=λ_=>List A) l (λk _=>x::a k) i) l i
theorem u5 {A:Type}:∀{l:List A} {i:Nat} {x:A},fn l i=some x->l.Perm (x::gw l i)
 | [],_,_,h=>nomatch h
 | y::l,0,x,h=>by cases h;exact .refl _
 | y::l,i+1,x,h=>((u5 (l:=l) (i:=i) h).cons y).trans (.swap ..)
noncomputable def take {A:Type} (d:List Nat):List A->List A->(List A->Prop)->Prop:=List.rec (motive:=λ_=>List A->List A->(List A->Prop)->Prop)
 (λa l K=>match a with| []=>K l | _::_=>False)
 (λi _ b a l K=>match a with| []=>False | q::a=>match fn l i with| some y=>y=q/\b a (gw l i) K | none=>False) d
noncomputable def cp {A:Type} (d:List Nat):List A->List A->(List A->Prop)->Prop:=List.rec (motive:=λ_=>List A->List A->(List A->Prop)->Prop)
 (λa l K=>match a with| []=>K l | _::_=>True)
 (λi _ b a l K=>match a with| []=>True | q::a=>match fn l i with| some y=>q=q/\b a (gw l i) K | none=>True) d
theorem dt {A:Type}:∀(a:List Nat) (b l:List A) (K:List A->Prop),(∀l,K l)->cp a b l K
 | [],[],l,K,h=>h l
 | [],_::_,_,_,_=>trivial
 | _::_,[],_,_,_=>trivial
 | i::a,q::b,l,K,h=>by
  show(match fn l i with| some y=>q=q/\cp a b (gw l i) K | none=>True)
  cases fn l i with
  | none=>trivial
  | some y=>exact⟨rfl,dt a b _ K h⟩
theorem bW {A:Type}:∀{d:List Nat} {b l:List A} {K:List A->Prop},take d b l K->∃r,l.Perm (b++r)/\K r
 | [],[],l,K,h=>⟨l,.refl _,h⟩
 | [],_::_,_,_,h=>h.elim
 | _::_,[],_,_,h=>h.elim
 | i::d,q::b,l,K,h=>by
  have a:(match fn l i with| some y=>y=q/\take d b (gw l i) K | none=>False):=h
  cases e:fn l i with
  | none=>rw[e]at a;exact a.elim
  | some y=>
   rw[e]at a
   obtain⟨rfl,f⟩:=a
   obtain⟨r,p,g⟩:=bW f
   exact⟨r,(u5 e).trans (p.cons _),g⟩
inductive bV (e:bu) (T:af):Type 1
 | fin (x:T.α) (h:T.post x) (is js bs:List Nat)
 | seg (N:Nat) (next:(Nat->Nat)->bV e T)
 | use (ρ:af) (h:ab e ρ) (is bs:List Nat) (next:(x:ρ.α)->ρ.post x->bV e T)
 | or (A B:Prop) (h:A\/B) (l:A->bV e T) (r:B->bV e T)
 | pick (β:Type) (f:β->Prop) (h:∃b,f b) (next:(b:β)->f b->bV e T)
 | view (is bs:List Nat) (C:ao) (B:List ao) (C':ao) (B':List ao) (h:(C++B.flatten).Perm (C'++B'.flatten)) (next:bV e T)
 | nope (h:False)
noncomputable abbrev mD:Nat:=1000000
section
variable {e:bu} {T:af}
noncomputable def dP (V:fz) (w:bV e T):St->List ao->Prop:=bV.rec (motive:=λ_=>St->List ao->Prop)
 (λx _ m u k st d=>match st with
  |.ret r f cells=>match f with
   |.base=>r=T.r x/\take m ((T.need.map (·.1)).zip (T.put x)) cells (λj=>take u (T.new x) j (λ_=>take k (T.putB x++T.newB x) d (λ_=>True)))
   | _=>False
  | _=>False)
 (λN _ i st d=>∀s,dT (go V s mD N 0 st) (λv=>i s v d))
 (λg _ m k _ i st d=>match st with
  |.enter c p f cells=>c=g.c/\(match g.anyH with| true=>True | false=>jl V.H f=none)/\(match g.outer with| none=>True | some es=>match T.outer with| some E=>envsOf (below [] f)++E=es | none=>False)/\(match G9 (lvl f+g.d) V.d with| true=>True | false=>False)/\
   take m g.need cells (λj=>take k g.needB d (λn=>∀x h,i x h (.ret (g.r x) f ((g.need.map (·.1)).zip (g.put x)++(g.new x++j))) ((g.putB x++g.newB x)++n)))
  | _=>False)
 (λ_ _ _ _ _ l r st d=>(∀a,l a st d)/\(∀b,r b st d))
 (λ_ _ _ _ i st d=>∀b h,i b h st d)
 (λm k C B q o _ _ i st d=>match st with
  |.run c p f t cells=>take m C cells (λj=>take k B d (λn=>i (.run c p f t (q++j)) (o++n)))
  |.enter c p f cells=>take m C cells (λj=>take k B d (λn=>i (.enter c p f (q++j)) (o++n)))
  |.ret r f cells=>take m C cells (λj=>take k B d (λn=>i (.ret r f (q++j)) (o++n))))
 (λ_ _ _=>True) w
noncomputable def eg (V:fz) (w:bV e T):St->List ao->Prop:=bV.rec (motive:=λ_=>St->List ao->Prop)
 (λx _ m u k st d=>match st with
  |.ret r g cells=>match g with
   |.base=>T.r x=T.r x/\cp m ((T.need.map (·.1)).zip (T.put x)) cells (λj=>cp u (T.new x) j (λ_=>cp k (T.putB x++T.newB x) d (λ_=>True)))
   | _=>True
  | _=>True)
 (λN _ i st d=>∀s,xi (go V s mD N 0 st) (λv=>i s v d))
 (λf _ m k _ i st d=>match st with
  |.enter c p g cells=>f.c=f.c/\(match f.anyH with| true=>True | false=>(none:Option Fb)=none)/\(match f.outer with| none=>True | some es=>match T.outer with| some E=>es=es | none=>True)/\(match G9 (lvl g+f.d) V.d with| true=>True | false=>True)/\
   cp m f.need cells (λj=>cp k f.needB d (λn=>∀x h,i x h (.ret (f.r x) g ((f.need.map (·.1)).zip (f.put x)++(f.new x++j))) ((f.putB x++f.newB x)++n)))
  | _=>True)
 (λ_ _ _ _ _ l r st d=>(∀a,l a st d)/\(∀b,r b st d))
 (λ_ _ _ _ i st d=>∀b h,i b h st d)
 (λm k C B q o _ _ i st d=>match st with
  |.run c p g t cells=>cp m C cells (λj=>cp k B d (λn=>i (.run c p g t (q++j)) (o++n)))
  |.enter c p g cells=>cp m C cells (λj=>cp k B d (λn=>i (.enter c p g (q++j)) (o++n)))
  |.ret r g cells=>cp m C cells (λj=>cp k B d (λn=>i (.ret r g (q++j)) (o++n))))
 (λ_ _ _=>True) w
theorem mV (V:fz) (n:bV e T):∀st d,eg V n st d:=by
 have u:∀b:Bool,(match b with| true=>True | false=>True):=λb=>by cases b<;>trivial
 induction n with
 | fin x h j D g=>
  intro st d
  cases st with
  | ret r k cells=>
   cases k with
   | base=>exact⟨rfl,dt _ _ _ _ λ_=>dt _ _ _ _ λ_=>dt _ _ _ _ λ_=>trivial⟩
   | ret _ _ _ _ _=>trivial
  | run _ _ _ _ _=>trivial
  | enter _ _ _ _=>trivial
 | seg N next i=>
  intro st d m
  refine⟨rfl, ?_⟩
  cases pi (go V m mD N 0 st)with
  | none=>trivial
  | some t=>exact i m t d
 | use o y j g next i=>
  intro st d
  cases st with
  | enter c p k cells=>exact⟨rfl,(by cases o.anyH<;>first| rfl | trivial),(by cases o.outer<;>cases T.outer<;>first| rfl | trivial),u _,dt _ _ _ _ λ_=>dt _ _ _ _ λ_ x h=>i x h _ _⟩
  | run _ _ _ _ _=>trivial
  | ret _ _ _=>trivial
 | or A B h l r q s=>exactλst d=>⟨λa=>q a st d,λb=>s b st d⟩
 | pick E f h next i=>exactλst d b h=>i b h st d
 | view j g C B w v h next i=>
  intro st d
  cases st<;>exact dt _ _ _ _ λ_=>dt _ _ _ _ λ_=>i _ _
 | nope h=>exact h.elim
theorem EI {b:Bool} (h:match b with| true=>True | false=>False):b=true:=by
 cases b with
 | true=>rfl
 | false=>exact h.elim
theorem nc {cells C rc:ao} {a B rb:List ao} (p:cells.Perm (C++rc)) (q:a.Perm (B++rb)):(cells++a.flatten).Perm ((C++B.flatten)++(rc++rb.flatten)):=by
 have b:a.flatten.Perm (B.flatten++rb.flatten):=by rw[<-Gf];exact q.flatten
 refine(p.append b).trans ?_
 rw[Fp,Fp]
 refine .append_left _ ?_
 rw[<-Fp,<-Fp]
 exact .append_right _ FG
theorem uf {C a:ao} {B r:List ao}:((C++B.flatten)++(a++r.flatten)).Perm ((C++a)++(B++r).flatten):=by
 rw[Gf,Fp,Fp]
 refine .append_left _ ?_
 rw[<-Fp,<-Fp]
 exact .append_right _ FG
theorem u6 (B:List (Code×Pos)):∀a,envsOf (below B a)=envsOf (below [] a)++envsOf B
 |.base=>rfl
 |.ret c _ p _ a=>by
  show envsOf ((c,p)::below B a)=envsOf ((c,p)::below [] a)++envsOf B
  rw[envsOf_cons,envsOf_cons,u6 B a,Fp]
theorem nU {o:Ctx} (W:o.handled=none) (hE:∀es,T.outer=some es->envsOf o.below=es) (N:dQ T.d o) {u:Fe} {F:HI->Fe->Prop}
 (hF:∀x v,T.post x->ap u v T.own (T.res x)->F (T.r x) v) (Y:bV e T):
 ∀(st:St) (i:List ao) (s:Fe),j9 (oR st)->a9 e.kt u.heap T.own s.heap (kK st++i.flatten)->cZ u s->dP ⟨e.D,⟨pq,e.w.params⟩,e.kt,o.below,none,T.d⟩ Y st i->pU (FT pq e.w) o e.kt F st s:=by
 induction Y with
 | fin x h H js G=>
  intro st i s hk I m f
  cases st with
  | run _ _ _ _ _=>exact f.elim
  | enter _ _ _ _=>exact f.elim
  | ret r k cells=>
   cases k with
   | ret _ _ _ _ _=>exact f.elim
   | base=>
    obtain⟨rfl,h1⟩:r=T.r x/\take H ((T.need.map (·.1)).zip (T.put x)) cells (λj=>take js (T.new x) j (λ_=>take G (T.putB x++T.newB x) i (λ_=>True))):=f
    obtain⟨j,y,h2⟩:=bW h1
    obtain⟨Q,C,h3⟩:=bW h2
    obtain⟨l,p3,_⟩:=bW h3
    refine hF x s h ?_
    have P:(cells++i.flatten).Perm (T.res x++(Q++l.flatten)):=by
     refine(nc (C:=(T.need.map (·.1)).zip (T.put x)++T.new x) (rc:=Q) (B:=T.putB x++T.newB x) (rb:=l) ?_ p3).trans (.of_eq ?_)
     .rw [Fp];exact y.trans (.append_left _ C)
     .unfold af.res;simp only[Fp]
    have E:a9 e.kt u.heap T.own s.heap (T.res x++(Q++l.flatten)):=I.perm P
    exact E.sub.after m
 | seg io next t=>
  intro st i s hk I m f
  have J:a9 e.kt s.heap (keys (kK st)) s.heap (kK st):=a9.start I.pre
  refine mf (V:=⟨e.D,⟨pq,e.w.params⟩,e.kt,o.below,none,T.d⟩) (e.ok ..) N rfl W.symm mD io 0 st s (λS R=>dP _ (next S) R i) hk J f (λR v a b d h=>?_)
  obtain⟨S,h⟩:=h
  exact t S R i v a (a9.rule I (b.after d)) (m.trans d) h
 | use g Ix H G next t=>
  intro st i s hk I m f
  cases st with
  | run _ _ _ _ _=>exact f.elim
  | ret _ _ _=>exact f.elim
  | enter c p k cells=>
   have f:c=g.c/\(match g.anyH with| true=>True | false=>jl none k=none)/\(match g.outer with| none=>True | some es=>match T.outer with| some L=>envsOf (below [] k)++L=es | none=>False)/\(match G9 (lvl k+g.d) T.d with| true=>True | false=>False)/\take H g.need cells (λj=>take G g.needB i (λl=>∀x h,dP ⟨e.D,⟨pq,e.w.params⟩,e.kt,o.below,none,T.d⟩ (next x h) (.ret (g.r x) k ((g.need.map (·.1)).zip (g.put x)++(g.new x++j))) ((g.putB x++g.newB x)++l))):=f
   have U:=f.2.1
   have w:=f.2.2.1
   refine(bW f.2.2.2.2).elim λj q=>(bW q.2).elim λl n=>?_
   have y:=q.1
   have C:=n.1
   have Iy:=GW (EI f.2.2.2.1)
   have c1:=vz o k c
   have c2:=vy o k c
   have g1:=N.cnt
   have g2:=N.units
   have E:a9 e.kt u.heap T.own s.heap (g.all++(j++l.flatten)):=I.perm (nc y C)
   refine Ix (cE o k c) ((kI ..).trans f.1) (by cases ha:g.anyH with| true=>exact .inl rfl | false=>rw[ha]at U;right;rw[pt o k c hk,W];exact U) (λes he=>by
    rw[he]at w
    cases M:T.outer with
    | none=>rw[M]at w;exact w.elim
    | some L=>rw[M]at w;rw[kJ,u6,hE L M];exact w) ⟨by omega,by omega⟩ p s _ E.pre (λx v X A=>?_)
   have J:=a9.rule E A
   have P:(g.res x++(j++l.flatten)).Perm (((g.need.map (·.1)).zip (g.put x)++(g.new x++j))++((g.putB x++g.newB x)++l).flatten):=by
    rw[<-Fp ((g.need.map (·.1)).zip (g.put x))]
    refine(Eq.subst (motive:=λz=>(z++(j++l.flatten)).Perm _) ?_ uf)
    unfold af.res;simp only[Fp]
   exact t x X (.ret (g.r x) k _) _ v hk (J.perm P) (m.trans A.same) (n.2 x X)
 | or A B h Iy r Iv Iw=>
  intro st i s hk I m f
  rcases h with a | b
  .exact Iv a st i s hk I m (f.1 a)
  .exact Iw b st i s hk I m (f.2 b)
 | pick β IA h next t=>
  intro st i s hk I m f
  obtain⟨b,V⟩:=h
  exact t b V st i s hk I m (f b V)
 | view H G gt B D Z h next t=>
  intro st i s hk I m f
  have O:∀{cells j:ao} {l:List ao},a9 e.kt u.heap T.own s.heap (cells++i.flatten)->cells.Perm (gt++j)->i.Perm (B++l)->a9 e.kt u.heap T.own s.heap ((D++j)++(Z++l).flatten):=λI y C=>
   (I.perm (nc y C)).perm ((h.append_right _).trans uf)
  cases st with
  | run c p k Iz cells=>
   exact(bW f).elim λj q=>(bW q.2).elim λl n=>t (.run c p k Iz (D++j)) _ s hk (O I q.1 n.1) m n.2
  | enter c p k cells=>
   exact(bW f).elim λj q=>(bW q.2).elim λl n=>t (.enter c p k (D++j)) _ s hk (O I q.1 n.1) m n.2
  | ret r k cells=>
   exact(bW f).elim λj q=>(bW q.2).elim λl n=>t (.ret r k (D++j)) _ s hk (O I q.1 n.1) m n.2
 | nope h=>exact h.elim
theorem vA (a:bV e T) (h:(∀B p,dP ⟨e.D,⟨pq,e.w.params⟩,e.kt,B,none,T.d⟩ a (.enter T.c p .base T.need) T.needB)=(∀B p,eg ⟨e.D,⟨pq,e.w.params⟩,e.kt,B,none,T.d⟩ a (.enter T.c p .base T.need) T.needB)) (j:T.anyH=false:=by rfl):ab e T:=by
 intro d k b g l p s F P i
 have b:d.handled=none:=b.resolve_left (by rw[j];exact Fi)
 have q:=h.mpr (λB p=>mV _ a _ _) d.below p
 have m:=nU b g l i a (.enter T.c p .base T.need) T.needB s trivial (a9.start P) (cZ.refl s) q
 have f:wpCode (FT pq e.w) (d.goto T.c) F p s:=m
 rw[<-k]at f
 exact f
end
theorem lp {a:Ctx} (h:HT a.below<=2000):a.units<cLine:=by
 have:=vJ a.code
 show a.code.cUnits+HT a.below<9900
 omega
noncomputable def Q2 (w:E9) (kt:Nat->Option Obj) {f:Type} (g t:Sem f):Prop:=
 ∀(d:Ctx),cF d.below<=640->HT d.below<=2000->∀(p:Pos) (s:Fe) (Q:f->Pos->Fe->Prop) (E:Fb->Pos->Fe->Prop),
  wp (FT pq w) d g (λa p b=>ca kt b.heap/\Q a p b) (λe p b=>ca kt b.heap/\E e p b) p s->wp (FT pq w) d t Q E p s
theorem pG {a b:Type} (x:Sem a) (f:a->Sem b): @Bind.bind Sem (@HX Sem FU) _ _ x f=(x>>=f):=by rw[<-PySem.W.Fast.te12456147031677567982]
section
variable {w:E9} {kt:Nat->Option Obj} {α β:Type}
theorem j5 (t:Sem α):Q2 w kt t t:=λa _ _ p s Q E h=>Fu _ _ _ (λ_ _ _ h=>h.2) (λ_ _ _ h=>h.2) _ _ h
theorem zN {x:Sem α} {d f:α->Sem β} (h:∀a,Q2 w kt (d a) (f a)):Q2 w kt (@Bind.bind Sem (@HX Sem FU) _ _ x d) (@Bind.bind Sem (@HX Sem FU) _ _ x f):=λe a b p s Q E g=>by
 rw[pG,E7]at g⊢
 exact Fu _ _ _ (λv p s g=>h v e a b p s Q E g) (λ_ _ _ h=>h.2) _ _ g
theorem zK {c:Prop} [Decidable c] {a x b y:Sem α} (h:Q2 w kt a x) (g:Q2 w kt b y):Q2 w kt (if c then a else b) (if c then x else y):=by
 by_cases z:c
 .rw [if_pos z,if_pos z];exact h
 .rw [if_neg z,if_neg z];exact g
theorem zM {n:String} {f:Unit->Sem β}:Q2 w kt (f ()) (@Bind.bind Sem (@HX Sem FU) _ _ (Ik n) f):=λd a b p s Q E g=>by
 rw[pG,E7,<-PySem.W.Fast.te10648789137845014744,Sem.wp_cRoom]
 exact⟨lp b,Fu _ _ _ (λ_ _ _ h=>h.2) (λ_ _ _ h=>h.2) _ _ g⟩
end
noncomputable abbrev pW (kt:Nat->Option Obj):Prop:=∀h,ca kt h->h.NoLimit
structure Qk {α:Type} (t:Sem α) where
 val:Sem α
 ok:∀w kt,pW kt->Q2 w kt val t
section
variable {α β:Type}
noncomputable def Qk.refl (t:Sem α):Qk t:=⟨t,λw kt _=>j5 t⟩
noncomputable def Qk.bind {x:Sem α} {f:α->Sem β} (h:∀a,Qk (f a)):Qk (@Bind.bind Sem (@HX Sem FU) _ _ x f):=⟨@Bind.bind Sem (@HX Sem FU) _ _ x λa=>(h a).val,λw kt k=>zN λa=>(h a).ok w kt k⟩
noncomputable def Qk.ite {c:Prop} {d:Decidable c} {x y:Sem α} (h:Qk x) (g:Qk y):Qk (if c then x else y):=⟨if c then h.val else g.val,λw kt k=>zK (h.ok w kt k) (g.ok w kt k)⟩
noncomputable def Qk.room {n:String} {f:Unit->Sem β}:Qk (@Bind.bind Sem (@HX Sem FU) _ _ (Ik n) f):=⟨f (),λw kt k=>zM⟩
noncomputable def Qk.str {v:Fb} {f:Str->Tok->Sem β} {g:Fb->Sem β} (h:∀q t,Qk (f q t)) (a:∀x,Qk (g x)):Qk (callFunction.match_1 (λ_=>Sem β) v f g):=
 ⟨callFunction.match_1 (λ_=>Sem β) v (λq t=>(h q t).val) (λx=>(a x).val),λw kt k=>by cases v<;>first| exact(h _ _).ok w kt k | exact(a _).ok w kt k⟩
noncomputable def Qk.cod {v:Fb} {f:Unit->Sem β} {g:Fb->Sem β} (h:Qk (f ())) (a:∀x,Qk (g x)):Qk (callFunction.match_4 (λ_=>Sem β) v f g):=
 ⟨callFunction.match_4 (λ_=>Sem β) v (λ_=>h.val) (λx=>(a x).val),λw kt k=>by cases v<;>first| exact h.ok w kt k | exact(a _).ok w kt k⟩
theorem wj {w:E9} {a:Ctx} (m:cF a.below<=640) {p:Pos} {s:Fe} {Q:Unit->Pos->Fe->Prop} {E:Fb->Pos->Fe->Prop} (b:s.heap.NoLimit) (h:Q () p s):wp (FT pq w) a enterFrame Q E p s:=by
 obtain⟨o,j,i⟩:=b
 have k:cF ((a.code,p)::a.below)<=644:=F2 (vC ..) (by omega)
 have n:((((a.code,p)::a.below).map (·.1)).map (·.frames)).sum+((((a.code,p)::a.below).map (·.1)).filter HC).length<=644:=k
 have e:Hv=1000:=rfl
 have l:claimMargin=300:=rfl
 have g:nearTheLimitUnderAClaim (((a.code,p)::a.below).map (·.1)) (((((a.code,p)::a.below).map (·.1)).map (·.frames)).sum+((((a.code,p)::a.below).map (·.1)).filter HC).length) Hv=false:=by
  show(decide (((((a.code,p)::a.below).map (·.1)).map (·.frames)).sum+((((a.code,p)::a.below).map (·.1)).filter HC).length+claimMargin>=Hv)&&(((a.code,p)::a.below).map (·.1)).any Code.isCaller)=false
  rw[decide_eq_false (by omega)];rfl
 have d:¬((((a.code,p)::a.below).map (·.1)).map (·.frames)).sum>=Hv:=by omega
 have f:¬((((a.code,p)::a.below).map (·.1)).map (·.frames)).sum+((((a.code,p)::a.below).map (·.1)).filter HC).length>=Hv:=by omega
 simp only[enterFrame,currentRecursionLimit,E7]
 show wp (FT pq w) a (nsGet cStatics "sys.recursionlimit") _ _ p s
 rw[Sem.wp_nsGet (FT pq w) a _ p s j,i]
 show wp (FT pq w) a (if nearTheLimitUnderAClaim (((a.code,p)::a.below).map (·.1)) (((((a.code,p)::a.below).map (·.1)).map (·.frames)).sum+((((a.code,p)::a.below).map (·.1)).filter HC).length) Hv=true then _ else _) _ _ p s
 rw[if_neg (by rw[g];exact Fi)]
 show wp (FT pq w) a (if((((a.code,p)::a.below).map (·.1)).map (·.frames)).sum>=Hv then _ else _) _ _ p s
 rw[if_neg d]
 show wp (FT pq w) a (if((((a.code,p)::a.below).map (·.1)).map (·.frames)).sum+((((a.code,p)::a.below).map (·.1)).filter HC).length>=Hv then _ else _) _ _ p s
 rw[if_neg f];exact h
noncomputable def Qk.frame {g c:Bool} {d:Code} {f i j:Unit->Sem Gq}:Qk (@Bind.bind Sem (@HX Sem FU) _ _ (PySem.W.Fast.tw15066281185411960212 0) λ_=>callFunction.match_9 (λ_ _=>Sem Gq) g c (λ_=>Ii d) f i j):=
 ⟨callFunction.match_9 (λ_ _=>Sem Gq) g c (λ_=>Ii d) (λ_=>.unsupported "") (λ_=>.unsupported "") (λ_=>.unsupported ""),λw kt k=>by
  intro l a b p s Q E h
  cases g<;>cases c
  .have e:ca kt s.heap/\Q (.again d) p s:=h
   rw[pG,E7,<-PySem.W.Fast.te15066281185411960212]
   exact wj a (k _ e.1) e.2
  .exact h.elim
  .exact h.elim
  .exact h.elim⟩
noncomputable def Qk.data {v:Data} {f:FuncData->Sem β} {g:Array Fb->Sem β} {h:Data->Sem β} (b:∀a,Qk (f a)):Qk (callAny.match_6 (λ_=>Sem β) v f g h):=
 ⟨callAny.match_6 (λ_=>Sem β) v (λa=>(b a).val) g h,λw kt k=>by cases v<;>first| exact(b _).ok w kt k | exact j5 _⟩
end
noncomputable def um (inst e:Fb) (f:Int) (t:Tok) (k:List (Str×Fb)):Qk (Hq ⟨[inst,e,.int f t],k⟩):=by
 delta Hq
 dsimp only
 refine Qk.bind λa=>?_
 refine Qk.ite (Qk.refl _) ?_
 refine Qk.bind λb=>?_
 refine Qk.ite (Qk.refl _) ?_
 refine Qk.bind λc=>?_
 refine Qk.bind λd=>?_
 refine Qk.ite (Qk.refl _) ?_
 exact Qk.room
noncomputable def EB (s:Addr) (f:FuncData) (a:Args):Qk (Ij s f a):=by
 delta Ij
 dsimp only
 refine Qk.cod ?_ λc=>?_
 .refine Qk.bind λc=>?_
  refine Qk.bind λc=>?_
  refine Qk.bind λc=>?_
  exact Qk.frame
 .refine Qk.bind λl=>?_
  refine Qk.str (λq t=>?_) (λx=>?_)
  .refine Qk.bind λc=>?_
   refine Qk.bind λc=>?_
   refine Qk.bind λc=>?_
   exact Qk.frame
  .refine Qk.bind λc=>?_
   refine Qk.bind λc=>?_
   refine Qk.bind λc=>?_
   exact Qk.frame
noncomputable def vI (a:Addr) (b:Args):Qk (Hr (.ref a) b):=by
 delta Hr
 dsimp only
 refine Qk.bind λo=>?_
 exact Qk.data λf=>EB a f b
noncomputable def uq (id:String):Bool:=id=="isinstance.nested"
noncomputable def Dn (c:Code):Sem Gq:=match c with
 |.call f b=>match f with
  |.ref a=>(vI a b).val
  | _=>Hr f b
 |.builtin id b=>match uq id with
  | true=>match b with
   | ⟨p,k⟩=>match p with
    | [inst,e,d]=>match d with
     |.int g t=>(um inst e g t k).val
     | _=>.unsupported ""
    | _=>.unsupported ""
  | false=>F7 F6 (.builtin id b)
 | c=>F7 F6 c
theorem Bh (a:Args):F7 F6 (.builtin "isinstance.nested" a)=Hq a:=by
 kernel_rfl
theorem mJ {w:E9} {kt:Nat->Option Obj} (k:pW kt) (c:Code):Q2 w kt (Dn c) (FM table c):=by
 have e:FM table=F7 F6:=by
  rw[table_eq_tree,<-Hl,<-Hk]
 rw[e]
 cases c with
 | call f d=>
  cases f with
  | ref a=>exact(vI a d).ok w kt k
  | _=>exact j5 _
 | builtin id d=>
  cases z:uq id with
  | false=>
   have e:Dn (.builtin id d)=F7 F6 (.builtin id d):=by
    unfold Dn;simp only[z]
   rw[e];exact j5 _
  | true=>
   have g:id="isinstance.nested":=eq_of_beq z
   subst g
   rw[Bh]
   obtain⟨p,j⟩:=d
   unfold Dn
   simp only[z]
   split
   .split
    .exact (um _ _ _ _ _).ok w kt k
    .exact λi a b p s Q E h=>h.elim
   .exact λi a b p s Q E h=>h.elim
 | _=>exact j5 _
noncomputable def ja (K:Frag) (a:Nat):Option Obj:=List.rec (motive:=λ_=>Option Obj) none (λx _ i=>match Nat.beq x.1 a with| true=>some x.2 | false=>i) K
noncomputable def kt (P:E8) (a:Nat):Option Obj:=ja (base P) a
theorem tU {h:Heap}:∀{K:Frag},AllIn h K->∀a o,ja K a=some o->h.get? a=some o
 | [],_,_,_,e=>nomatch e
 | x::K,⟨d,f⟩,a,o,e=>by
  have b:(match Nat.beq x.1 a with| true=>some x.2 | false=>ja K a)=some o:=e
  cases z:Nat.beq x.1 a with
  | true=>rw[z]at b;cases b;rw[<-Nat.eq_of_beq_eq_true z];exact d
  | false=>rw[z]at b;exact tU f a o b
theorem EH {h:Heap} {P:E8} (A:AllIn h (base P)):ca (kt P) h:=tU A
theorem Cd (P:E8):kt P 2=some (o2 P):=by kernel_rfl
theorem Au (P:E8):((match(o2 P).data with|.dict es _=>es.all (λe=>match e.key with|.str _ _=>true | _=>false) | _=>false)&&(match(o2 P).data with|.dict es _=>nsFind es "sys.recursionlimit" | _=>none).isNone)=true:=by kernel_rfl
theorem jc (P:E8):pW (kt P):=λh B=>by
 have e:h.get? cStatics=some (o2 P):=B 2 _ (Cd P)
 refine Heap.NoLimit.of_ok ?_
 unfold Heap.noLimitOk Heap.isNs Heap.nsMap
 rw[e]
 exact Au P
noncomputable def env (w:E9):bu:=⟨w,kt w.params,Dn,λB H d=>⟨rfl,λc e _ a b p s Q E h=>mJ (jc w.params) c e a b p s Q E h⟩⟩
theorem qw {e:bu} {T:af} (t:Sem Gq) (d:bV e T) (h:(∀B c p,dP ⟨e.D,⟨pq,e.w.params⟩,e.kt,B,none,T.d⟩ d (.run c p .base t T.need) T.needB)=(∀B c p,eg ⟨e.D,⟨pq,e.w.params⟩,e.kt,B,none,T.d⟩ d (.run c p .base t T.need) T.needB))
 (a:Ctx) (i:a.handled=none) (f:∀es,T.outer=some es->envsOf a.below=es) (j:dQ T.d a) (p:Pos) (s:Fe) (F:HI->Fe->Prop) (P:d4 e.kt T.all s)
 (g:∀x b,T.post x->ap s b T.own (T.res x)->F (T.r x) b):
 wp (FT pq e.w) a t (λfin p b=>ca e.kt b.heap/\finPost (FT pq e.w) a F fin p b) (λv _ b=>ca e.kt b.heap/\F (.error v) b) p s:=by
 have q:=h.mpr (λB c p=>mV _ d _ _) a.below a.code p
 have m:wp (FT pq e.w) (a.goto a.code) t (FP (FT pq e.w) a e.kt F .base a.code) (FE (FT pq e.w) a e.kt F .base) p s:=nU i f j g d (.run a.code p .base t T.need) T.needB s trivial (a9.start P) (cZ.refl s) q
 exact m
noncomputable def cM (P:E8) (b:Bool):E8:={P with followText:=λr=>match decide (r="special-get-raises")with| true=>b | false=>P.followText r}
theorem nj (P:E8):cM P (P.followText "special-get-raises")=P:=by
 unfold cM
 have e:(λr=>match decide (r="special-get-raises")with| true=>P.followText "special-get-raises" | false=>P.followText r)=P.followText:=by
  funext r
  by_cases h:r="special-get-raises"
  .rw [decide_eq_true h,h]
  .rw [decide_eq_false h]
 rw[e]
theorem Ep {e:bu} {T:af} (a:bV e T) (h:∀b,(∀B p,dP ⟨e.D,⟨pq,cM e.w.params b⟩,e.kt,B,none,T.d⟩ a (.enter T.c p .base T.need) T.needB)=(∀B p,eg ⟨e.D,⟨pq,cM e.w.params b⟩,e.kt,B,none,T.d⟩ a (.enter T.c p .base T.need) T.needB)) (d:T.anyH=false:=by rfl):ab e T:=by
 have q:=h (e.w.params.followText "special-get-raises")
 rw[nj]at q
 exact vA a q d
noncomputable def PP (e:bu) (T:af):Type 1:=∀U:af,((x:T.α)->T.post x->List Nat->List Nat->List Nat->bV e U)->bV e U
noncomputable def vE {e:bu} {T:af} (a:PP e T) (b:Bool):Prop:=∀B p,dP ⟨e.D,⟨pq,cM e.w.params b⟩,e.kt,B,none,T.d⟩ (a T .fin) (.enter T.c p .base T.need) T.needB
noncomputable def qr {e:bu} {T:af} (a:PP e T) (b:Bool):Prop:=∀B p,eg ⟨e.D,⟨pq,cM e.w.params b⟩,e.kt,B,none,T.d⟩ (a T .fin) (.enter T.c p .base T.need) T.needB
noncomputable def Ex {e:bu} {T:af} (a:PP e T):Prop:=∀B p,dP ⟨e.D,⟨pq,e.w.params⟩,e.kt,B,none,T.d⟩ (a T .fin) (.enter T.c p .base T.need) T.needB
noncomputable def xb {e:bu} {T:af} (a:PP e T):Prop:=∀B p,eg ⟨e.D,⟨pq,e.w.params⟩,e.kt,B,none,T.d⟩ (a T .fin) (.enter T.c p .base T.need) T.needB
theorem ct {e:bu} {T:af} (a:PP e T) (h:Ex a=xb a:=by kernel_rfl) (b:T.anyH=false:=by rfl):ab e T:=vA (a T .fin) h b
theorem av {e:bu} {T:af} (a:PP e T) (h:vE a false=qr a false:=by kernel_rfl) (d:vE a true=qr a true:=by kernel_rfl) (f:T.anyH=false:=by rfl):ab e T:=Ep (a T .fin) (λb=>match b with| false=>h | true=>d) f
noncomputable def kT (lo:List E6) (d:Nat):Nat:=match lo with
 | []=>d
 | e::_=>match e.key with
  |.str _ t=>t
  | _=>d
noncomputable def kE (lo:List E6) (n:Nat):Nat:=match lo with
 | []=>n+1
 | _::_=>n
theorem aE (id:String) (a:Args) {b:Builtin} (h:entryFor table id=some b):FM table (.builtin id a)=b a:=by
 rw[FM,h]
noncomputable def ia (a:Ctx):Around:={handled:=a.handled,depth:=frameCount a.below+a.code.weight,units:=a.units}
theorem kB (a:Ctx):a.In (ia a):=⟨rfl,FO _,λl h=>(nomatch h),λl h=>(nomatch h),FO _⟩
noncomputable def mr (G:HI->Fe->Prop):Gq->Fe->Prop
 |.done f,s=>G (.ok f) s
 |.again _,_=>False
theorem aN {e:bu} {T:af} (h:∀(A:Around) (s:Fe) (G:HI->Fe->Prop),A.handled=none->A.units<cLine->d4 e.kt T.all s->
 (∀x d,T.post x->ap s d T.own (T.res x)->G (T.r x) d)->Fr (FT pq e.w) A (FM table T.c) (mr G) (λv s=>G (.error v) s) s) (j:T.anyH=false:=by rfl):ab e T:=by
 intro a k b _ l p s F P i
 have b:a.handled=none:=b.resolve_left (by rw[j];exact Fi)
 rw[F3,k]
 have g:=l.units
 have q:=h (ia a) s F b (lp (by omega)) P i a p (kB a)
 refine Fu _ _ _ (λfin p s h=>?_) (λv p s h=>h) _ _ q
 cases fin with
 | done f=>exact h
 | again c=>exact h.elim
theorem ra {e:bu} {T:af} (h:∀(A:Around) (s:Fe) (G:HI->Fe->Prop),A.units<cLine->d4 e.kt T.all s->
 (∀x b,T.post x->ap s b T.own (T.res x)->G (T.r x) b)->Fr (FT pq e.w) A (FM table T.c) (mr G) (λv s=>G (.error v) s) s):ab e T:=by
 intro a i _ _ j p s F P d
 rw[F3,i]
 have g:=j.units
 have q:=h (ia a) s F (lp (by omega)) P d a p (kB a)
 refine Fu _ _ _ (λfin p s h=>?_) (λv p s h=>h) _ _ q
 cases fin with
 | done f=>exact h
 | again c=>exact h.elim
theorem ap.start {kt:Nat->Option Obj} {all:ao} {s:Fe} (P:d4 kt all s):ap s s (keys all) all:=
 ⟨cZ.refl s,λb o e _=>e,P.has,λq h=>.inl (Fc h),P.nd,FO _⟩
theorem ap.toks {s a:Fe} {own:List Addr} {all:ao} (A:ap s a own all) (n:Nat):ap s {a with toks:=n} own all:=
 ⟨⟨A.same.gens,A.same.drawn,A.same.os⟩,A.keep,A.has,A.frs,A.nd,A.size⟩
theorem ap.perm {s a:Fe} {own:List Addr} {all all':ao} (A:ap s a own all) (p:all.Perm all'):ap s a own all':=
 ⟨A.same,A.keep,λq h=>A.has q (p.mem_iff.mpr h),λq h=>A.frs q (p.mem_iff.mpr h),(p.map _).nodup_iff.mp A.nd,A.size⟩
theorem ap.push {s a:Fe} {own:List Addr} {all:ao} (A:ap s a own all) (o:Obj) (g:o.isFreed=false):
 ap s {a with heap:=a.heap.push o} own ((a.heap.objs.size,o)::all):=by
 refine⟨⟨A.same.gens,A.same.drawn,A.same.os⟩,λb x f d=>Ho _ (A.keep b x f d),λq h=>?_,λq h=>?_, ?_, ?_⟩
 .rcases GR.mp h with rfl | h
  .exact Heap.get?_push_size _ g
  .exact Ho _ (A.has q h)
 .rcases GR.mp h with rfl | h
  .exact .inr A.size
  .exact A.frs q h
 .rw [Fw,GQ]
  refine⟨λd=>?_,A.nd⟩
  obtain⟨q,h,e⟩:=Gl.mp d
  have:=It (A.has q h)
  rw[e]at this
  exact absurd this (Nat.lt_irrefl _)
 .show _<=(a.heap.push o).objs.size
  rw[Heap.size_push];exact Nat.le_succ_of_le A.size
theorem ap.upd {s d:Fe} {own:List Addr} {a:Addr} {o:Obj} {r:ao} (A:ap s d own ((a,o)::r)) (f:Obj->Obj) (k:∀b x,s.heap.get? b=some x->b∉own->b≠a) (j:(f o).isFreed=false):
 ap s {d with heap:=d.heap.update a f} own ((a,f o)::r):=by
 have e:Heap.SameBut a d.heap (d.heap.update a f):=Heap.SameBut.update ..
 have nd:=A.nd
 rw[Fw,GQ]at nd
 refine⟨⟨A.same.gens,A.same.drawn,A.same.os⟩,λb x g i=>(e.2 _ (k b x g i)).trans (A.keep b x g i),λq h=>?_,λq h=>?_, ?_, ?_⟩
 .rcases GR.mp h with rfl | h
  .exact Heap.get?_update_self f (A.has _ E2) j
  .have:q.1≠a:=λz=>nd.1 (Gl.mpr ⟨q,h,z⟩)
   exact(e.2 _ this).trans (A.has q (E4 _ h))
 .rcases GR.mp h with rfl | h
  .exact A.frs (a,o) E2
  .exact A.frs q (E4 _ h)
 .exact A.nd
 .show _<=(d.heap.update a f).objs.size
  rw[e.1];exact A.size
theorem ap.set {s d:Fe} {own:List Addr} {a:Addr} {o:Obj} {r:ao} (A:ap s d own ((a,o)::r)) (f:Obj->Obj) (g:a∈own) (e:(f o).isFreed=false):
 ap s {d with heap:=d.heap.update a f} own ((a,f o)::r):=
 A.upd f (λb x _ h z=>h (z▸g)) e
theorem eL {d:Nat} (h:1228<=d):(d==sysModules)=false:=by
 refine beq_false_of_ne λz=>?_
 rw[z]at h
 exact absurd h (by decide)
noncomputable def ae (vs:List Fb) (n:Nat):Obj:={cls:=.type "list",data:=.seq vs.toArray n}
noncomputable def aR (vs:List Fb) (n:Nat):Obj:={cls:=.type "tuple",data:=.seq vs.toArray n}
noncomputable def cv (x:Nat×Nat):Fb:=.str ⟨⟨[x.1]⟩⟩ x.2
noncomputable def iv (x:Int×Nat):Fb:=.int x.1 x.2
section
variable {β:Type}
noncomputable def aS (P:E8) (f:β->Fb) (e:Nat×Nat×β):E6:=⟨PyData.keyHash P ⟨⟨[e.1]⟩⟩,.str ⟨⟨[e.1]⟩⟩ e.2.1,f e.2.2⟩
noncomputable def dO (P:E8) (a:Fb) (d:Option Addr) (f:β->Fb) (m:List (Nat×Nat×β)) (e:Nat):Obj:=
 {cls:=a,dict:=d,data:=.dict (m.map (aS P f)).toArray e}
noncomputable def look? (m:List (Nat×Nat×β)) (c:Nat):Option β:=match m with
 | []=>none
 | (k,_,v)::m=>if k=c then some v else look? m c
noncomputable def aw (m:List (Nat×Nat×β)) (c t:Nat) (v:β):List (Nat×Nat×β):=match m with
 | []=>[(c,t,v)]
 | (k,u,x)::m=>if k=c then(k,u,v)::m else(k,u,x)::aw m c t v
noncomputable def bU (m:List (Nat×Nat×β)) (c:Nat):Bool:=(look? m c).isSome
noncomputable def ak (m:List (Nat×Nat×β)):List Nat:=m.map (·.1)
noncomputable def dZ (m:List (Nat×Nat×β)) (c:Nat):List (Nat×Nat×β):=match m with
 | []=>[]
 | (k,u,x)::m=>if k=c then m else(k,u,x)::dZ m c
end
theorem C8 (w:E9) (k:Str):hashStr w k=PyData.keyHash w.params k:=rfl
noncomputable abbrev sk (w:E9):KeyKind pq w Str:=PySem.strKind pq w
theorem Cz (w:E9) (c d t:Nat):(Value.isStrOf (⟨⟨[c]⟩⟩:Str) (.str ⟨⟨[d]⟩⟩ t))=decide (d=c):=by
 by_cases h:d=c
 .subst h;rw[decide_eq_true rfl];exact Gy pq w ⟨⟨[d]⟩⟩ t
 .rw [decide_eq_false h]
  cases q:Value.isStrOf (⟨⟨[c]⟩⟩:Str) (.str ⟨⟨[d]⟩⟩ t)with
  | false=>rfl
  | true=>
   obtain⟨u,b⟩:=Value.isStrOf_shape q
   injection b with a
   injection a with a
   injection a with a
   injection a with a
   exact absurd a h
section
variable {β:Type} {w:E9} {f:β->Fb} {m:List (Nat×Nat×β)}
theorem Ch:KeysOf (sk w) (m.map (aS w.params f)).toArray:=by
 intro e h
 obtain⟨x,a,rfl⟩:=Gl.mp (List.mem_toArray.mp h)
 exact⟨⟨⟨[x.1]⟩⟩,Gy pq w _ _,(C8 w ⟨⟨[x.1]⟩⟩).symm⟩
theorem Ds (c:Nat):((m.map (aS w.params f)).toArray.findIdx? λe=>(sk w).is ⟨⟨[c]⟩⟩ e.key)=m.findIdx? λx=>decide (x.1=c):=by
 rw[List.findIdx?_toArray,List.findIdx?_map]
 congr 1
 funext x
 exact Cz w c x.1 x.2.1
theorem oL (c:Nat):look? m c=match m.findIdx? (λx=>decide (x.1=c))with| some i=>(m[i]?).map (·.2.2) | none=>none:=by
 induction m with
 | nil=>rfl
 | cons x m a=>
  obtain⟨k,t,v⟩:=x
  rw[look?,List.findIdx?_cons]
  by_cases h:k=c
  .simp [h]
  .simp only[h,if_false,decide_false,a]
   cases m.findIdx? (λx=>decide (x.1=c))<;>simp
theorem nS {c t:Nat} {v:β}:∀{m:List (Nat×Nat×β)} {i:Nat},m.findIdx? (λx=>decide (x.1=c))=some i->(aw m c t v).map (aS w.params f)=(m.map (aS w.params f)).modify i λe=>{e with val:=f v}
 | [],_,h=>nomatch h
 | (k,u,x)::m,i,h=>by
  rw[List.findIdx?_cons]at h
  by_cases e:k=c
  .simp only[e,decide_true,if_true]at h
   cases h
   rw[aw,if_pos e];rfl
  .simp only[e,decide_false]at h
   cases q:m.findIdx? (λx=>decide (x.1=c))with
   | none=>rw[q]at h;cases h
   | some j=>
    rw[q]at h
    simp only[GD]at h
    cases h
    rw[aw,if_neg e,Fw,Fw,nS q]
    rfl
theorem nT {c t:Nat} {v:β}:∀{m:List (Nat×Nat×β)},m.findIdx? (λx=>decide (x.1=c))=none->aw m c t v=m++[(c,t,v)]
 | [],_=>rfl
 | (k,u,x)::m,h=>by
  rw[List.findIdx?_cons]at h
  by_cases e:k=c
  .simp [e]at h
  .simp only[e,decide_false]at h
   have q:m.findIdx? (λx=>decide (x.1=c))=none:=by
    cases q:m.findIdx? (λx=>decide (x.1=c))with
    | none=>rfl
    | some j=>rw[q]at h;cases h
   rw[aw,if_neg e,nT q];rfl
theorem vm {c:Nat}:∀{m:List (Nat×Nat×β)} {i:Nat},m.findIdx? (λx=>decide (x.1=c))=some i->dZ m c=m.eraseIdx i
 | [],_,h=>nomatch h
 | (k,u,x)::m,i,h=>by
  rw[List.findIdx?_cons]at h
  by_cases e:k=c
  .simp only[e,decide_true,if_true]at h
   cases h
   rw[dZ,if_pos e];rfl
  .simp only[e,decide_false]at h
   cases q:m.findIdx? (λx=>decide (x.1=c))with
   | none=>rw[q]at h;cases h
   | some j=>
    rw[q]at h
    simp only[GD]at h
    cases h
    rw[dZ,if_neg e,vm q];rfl
variable {A:Around} {E:Fb->Fe->Prop} {s:Fe} {d:Addr} {cls:Fb} {dd:Option Addr} {ep c t:Nat}
theorem kO {Q:Option Nat->Fe->Prop} (a:s.heap.get? d=some (dO w.params cls dd f m ep)) (h:Q (m.findIdx? λx=>decide (x.1=c)) s):
 Fr (FT pq w) A (dictFind d (.str ⟨⟨[c]⟩⟩ t) ((sk w).hash ⟨⟨[c]⟩⟩)) Q E s:=
 wpAny_dictFind_of (knd:=sk w) (Gy pq w _ _) a rfl Ch (by rw[Ds];exact h)
theorem kL {Q:Option Fb->Fe->Prop} (b:s.heap.get? d=some (dO w.params cls dd f m ep)) (h:Q ((look? m c).map f) {s with toks:=s.toks+1}):
 Fr (FT pq w) A (dictGet d (.str ⟨⟨[c]⟩⟩ t)) Q E s:=by
 unfold dictGet
 try with_reducible refine Gj ?_
 refine E3 ((sk w).pyHash (Gy pq w _ _) (E3 (kO (s:={s with toks:=s.toks+1}) (m:=m) b ?_)))
 rw[oL]at h
 cases a:m.findIdx? λx=>decide (x.1=c)with
 | none=>rw[a]at h;exact E5 h
 | some i=>
  rw[a]at h
  refine E3 (FS (s:={s with toks:=s.toks+1}) b rfl (E5 ?_))
  simp only[Fv,Fl,Option.map_map]at h⊢
  exact h
noncomputable def fv (m:List (Nat×Nat×β)) (c ep:Nat):Nat:=match m.findIdx? (λx=>decide (x.1=c))with| some _=>ep | none=>ep+1
theorem vN {v:β} {Q:Unit->Fe->Prop} (b:s.heap.get? d=some (dO w.params cls dd f m ep)) (e:m.length<=1000)
 (h:∀F:Obj->Obj,F (dO w.params cls dd f m ep)=dO w.params cls dd f (aw m c t v) (fv m c ep)->Q () {s with heap:=s.heap.update d F,toks:=s.toks+1}):
 Fr (FT pq w) A (dictSet d (.str ⟨⟨[c]⟩⟩ t) (f v)) Q E s:=by
 unfold dictSet
 try with_reducible refine Gj ?_
 refine E3 ((sk w).pyHash (Gy pq w _ _) ?_)
 unfold dictSetHashed
 try with_reducible refine Gj ?_
 refine E3 (kO (s:={s with toks:=s.toks+1}) (m:=m) b ?_)
 cases a:m.findIdx? λx=>decide (x.1=c)with
 | some i=>
  refine E3 (GZ (E3 (wpAny_updateDict (s:={s with toks:=s.toks+1}) b rfl (wpAny_point (h _ ?_)))))
  unfold fv;rw[a]
  unfold dO Obj.mapDict
  rw[nS a]
  simp
 | none=>
  refine E3 (GZ (wpAny_updateDictKeys (hz:=by simp[Gw];omega) (s:={s with toks:=s.toks+1}) b rfl (h _ ?_)))
  unfold fv;rw[a]
  unfold dO Hg
  rw[nT a]
  simp[aS]
  rfl
end
theorem Cf (P:E8):kt P 1093=some (oj P):=by kernel_rfl
section
variable {β:Type}
noncomputable def nL (f:β->Fb) (P:E8) (d:Nat) (a:Fb) (b:Option Addr) (m:List (Nat×Nat×β)) (e c t:Nat) (v:β):af:={d:=1,α:=Unit,c:=.builtin "dict.__getitem__" ⟨[.ref d,.str ⟨⟨[c]⟩⟩ t],[]⟩,need:=[(d,dO P a b f m e)],r:=λ_=>.ok (.ret (f v)),put:=λ_=>[dO P a b f m e]}
theorem uN (f:β->Fb) (w:E9) (d:Nat) (a:Fb) (b:Option Addr) (m:List (Nat×Nat×β)) (e c t:Nat) (v:β) (h:look? m c=some v):ab (env w) (nL f w.params d a b m e c t v):=by
 refine aN λA s G j k P g=>?_
 have i:s.heap.get? d=some (dO w.params a b f m e):=P.has (d,_) E2
 show Fr _ _ (FM table (.builtin "dict.__getitem__" ⟨[.ref d,.str ⟨⟨[c]⟩⟩ t],[]⟩)) _ _ s
 rw[aE _ _ F.entry_dict_getitem]
 show Fr _ _ (dictGet d (.str ⟨⟨[c]⟩⟩ t)>>=_) _ _ s
 refine E3 (kL i ?_)
 rw[h]
 refine E5 ?_
 exact g () _ trivial ((ap.start P).toks _)
noncomputable def lH (f:β->Fb) (P:E8) (d:Nat) (a:Fb) (b:Option Addr) (m:List (Nat×Nat×β)) (e c t:Nat) (g:List Fb) (v:Fb):af:={d:=1,α:=Unit,c:=.builtin "dict.get" ⟨.ref d:: .str ⟨⟨[c]⟩⟩ t::g,[]⟩,need:=[(d,dO P a b f m e)],r:=λ_=>.ok (.ret v),put:=λ_=>[dO P a b f m e]}
theorem DV (f:β->Fb) (w:E9) (d:Nat) (e:Fb) (g:Option Addr) (m:List (Nat×Nat×β)) (i c t:Nat) (a v:Fb) (h:((look? m c).map f).getD a=v):ab (env w) (lH f w.params d e g m i c t [a] v):=by
 refine aN λA s G o p P j=>?_
 have n:s.heap.get? d=some (dO w.params e g f m i):=P.has (d,_) E2
 have l:1228<=d:=P.ge (d,_) E2
 show Fr _ _ (FM table (.builtin "dict.get" ⟨[.ref d,.str ⟨⟨[c]⟩⟩ t,a],[]⟩)) _ _ s
 rw[aE _ _ F.entry_dict_get]
 show Fr _ _ (dictGet d (.str ⟨⟨[c]⟩⟩ t)>>=_) _ _ s
 refine E3 (kL n ?_)
 cases k:look? m c with
 | some x=>
  rw[k]at h
  have b:f x=v:=h
  refine E5 ?_
  show G (.ok (.ret (f x))) _
  rw[b]
  exact j () _ trivial ((ap.start P).toks _)
 | none=>
  rw[k]at h
  have b:a=v:=h
  show Fr _ _ (Builtin.Dict.missed d (.str ⟨⟨[c]⟩⟩ t)>>=_) _ _ _
  refine E3 (wpAny_missed_other (eL l) ?_)
  refine E5 ?_
  show G (.ok (.ret a)) _
  rw[b]
  exact j () _ trivial ((ap.start P).toks _)
theorem vg (f:β->Fb) (w:E9) (d:Nat) (a:Fb) (e:Option Addr) (m:List (Nat×Nat×β)) (g c t:Nat) (v:Fb) (o:a=.type "dict") (h:((look? m c).map f).getD .none=v):ab (env w) (lH f w.params d a e m g c t [] v):=by
 refine aN λA s G n p P i=>?_
 have l:s.heap.get? d=some (dO w.params a e f m g):=P.has (d,_) E2
 have k:1228<=d:=P.ge (d,_) E2
 show Fr _ _ (FM table (.builtin "dict.get" ⟨[.ref d,.str ⟨⟨[c]⟩⟩ t],[]⟩)) _ _ s
 rw[aE _ _ F.entry_dict_get]
 show Fr _ _ (dictGet d (.str ⟨⟨[c]⟩⟩ t)>>=_) _ _ s
 refine E3 (kL l ?_)
 cases j:look? m c with
 | some x=>
  rw[j]at h
  have b:f x=v:=h
  refine E5 ?_
  show G (.ok (.ret (f x))) _
  rw[b]
  exact i () _ trivial ((ap.start P).toks _)
 | none=>
  rw[j]at h
  have b: .none=v:=h
  show Fr _ _ (Builtin.Dict.missed d (.str ⟨⟨[c]⟩⟩ t)>>=_) _ _ _
  refine E3 (wpAny_missed_other (eL k) ?_)
  refine E5 ?_
  show G (.ok (.ret .none)) _
  rw[b]
  exact i () _ trivial ((ap.start P).toks _)
noncomputable def jT (f:β->Fb) (P:E8) (d:Nat) (a:Fb) (b:Option Addr) (m:List (Nat×Nat×β)) (g c t:Nat) (v:β):af:={d:=1,α:=Nat,c:=.builtin "dict.__setitem__" ⟨[.ref d,.str ⟨⟨[c]⟩⟩ t,f v],[]⟩,need:=[(d,dO P a b f m g)],r:=λ_=>.ok (.ret .none),put:=λe=>[dO P a b f (aw m c t v) e]}
theorem gA {w:E9} {A:Around} {E:Fb->Fe->Prop} {s:Fe} {d:Addr} {o:Obj} {n:String} {b:Args} {Q:Unit->Fe->Prop} (e:b.pos.headD .none=.ref d) (B:ca (kt w.params) s.heap) (f:s.heap.get? d=some o) (a:o.cls=.type "dict"\/o.cls=.ref 1093) (h:Q () s):
 Fr (FT pq w) A (Builtin.Dict.notOrdered n b) Q E s:=by
 rcases a with a | a
 .exact wpAny_notOrdered_dict (by rw[e];exact⟨o,f,a⟩) h
 .have i:s.heap.get? 1093=some (oj w.params):=B 1093 _ (Cf _)
  unfold Builtin.Dict.notOrdered
  split
  .rw [e]
   have t:∀{Q:Fb->Fe->Prop},Q (.ref 1093) s->Fr (FT pq w) A (typeOf (.ref d)) Q E s:=λh=>by
    unfold typeOf
    refine E3 (wpAny_loadPart f (E5 ?_))
    rw[a];exact h
   refine E3 (t ?_)
   show Fr _ _ (if(Fs 1093 !=Fz "dict")=true then _ else _) _ _ s
   rw[if_pos (by decide)]
   refine E3 ?_
   unfold isInstance
   refine E3 (t ?_)
   unfold isSubtype
   have g:∀{Q:ClassData->Fe->Prop},(∀x:ClassData,x.mro=[.ref 1093,.type "dict",.type "object"]->Q x s)->Fr (FT pq w) A (classData 1093) Q E s:=λh=>by
    unfold classData
    refine E3 (wpAny_load i ?_)
    exact E5 (h _ rfl)
   refine E3 ?_
   show Fr _ _ (classData 1093>>=_) _ _ s
   refine E3 (g λx j=>E5 ?_)
   rw[j]
   show Fr _ _ (pure _) _ _ s
   refine E5 ?_
   exact E5 h
  .exact E5 h
theorem ni (f:β->Fb) (w:E9) (d:Nat) (a:Fb) (b:Option Addr) (m:List (Nat×Nat×β)) (e c t:Nat) (v:β) (l:a=.type "dict"\/a=.ref 1093) (n:m.length<=1000):ab (env w) (jT f w.params d a b m e c t v):=by
 refine aN λA s G o p P k=>?_
 have i:s.heap.get? d=some (dO w.params a b f m e):=P.has (d,_) E2
 show Fr _ _ (FM table (.builtin "dict.__setitem__" ⟨[.ref d,.str ⟨⟨[c]⟩⟩ t,f v],[]⟩)) _ _ s
 rw[aE _ _ F.entry_dict_setitem]
 show Fr _ _ (Builtin.Dict.notOrdered "__setitem__" ⟨[.ref d,.str ⟨⟨[c]⟩⟩ t,f v],[]⟩>>=_) _ _ s
 refine E3 (gA (d:=d) rfl P.base i l ?_)
 show Fr _ _ (dictSet d (.str ⟨⟨[c]⟩⟩ t) (f v)>>=_) _ _ s
 refine E3 (vN i n λF h=>E5 ?_)
 have h:F (dO w.params a b f m e)=dO w.params a b f (aw m c t v) (fv m c e):=h
 have j:=((ap.start P).toks (s.toks+1)).set F (by exact E2) (by show(F (dO w.params a b f m e)).isFreed=false;rw[h];rfl)
 have g:ap s {s with toks:=s.toks+1,heap:=s.heap.update d F} (jT f w.params d a b m e c t v).own [(d,F (dO w.params a b f m e))]:=j
 rw[h]at g
 exact k (fv m c e) _ trivial g
noncomputable def lE (f:β->Fb) (P:E8) (d:Nat) (a:Fb) (e:Option Addr) (m:List (Nat×Nat×β)) (g c t:Nat) (b:Bool):af:={d:=1,α:=Unit,c:=.builtin "dict.__contains__" ⟨[.ref d,.str ⟨⟨[c]⟩⟩ t],[]⟩,need:=[(d,dO P a e f m g)],r:=λ_=>.ok (.ret (.bool b)),put:=λ_=>[dO P a e f m g]}
theorem oZ (f:β->Fb) (w:E9) (d:Nat) (a:Fb) (e:Option Addr) (m:List (Nat×Nat×β)) (g c t:Nat) (b:Bool) (h:bU m c=b):ab (env w) (lE f w.params d a e m g c t b):=by
 refine aN λA s G n o P i=>?_
 have l:s.heap.get? d=some (dO w.params a e f m g):=P.has (d,_) E2
 have k:1228<=d:=P.ge (d,_) E2
 show Fr _ _ (FM table (.builtin "dict.__contains__" ⟨[.ref d,.str ⟨⟨[c]⟩⟩ t],[]⟩)) _ _ s
 rw[aE _ _ F.entry_dict_contains]
 show Fr _ _ (dictGet d (.str ⟨⟨[c]⟩⟩ t)>>=_) _ _ s
 refine E3 (kL l ?_)
 unfold bU at h
 cases j:look? m c with
 | some x=>
  rw[j]at h
  obtain rfl:true=b:=h
  refine E5 ?_
  exact i () _ trivial ((ap.start P).toks _)
 | none=>
  rw[j]at h
  obtain rfl:false=b:=h
  show Fr _ _ (Builtin.Dict.pendingKey? d (.str ⟨⟨[c]⟩⟩ t)>>=_) _ _ _
  refine E3 (wpAny_pendingKey_other (eL k) ?_)
  refine E5 ?_
  exact i () _ trivial ((ap.start P).toks _)
theorem u4 {a b:Type} (g:a->b):∀(l:List a) (i:Nat),(l.map g).eraseIdx i=(l.eraseIdx i).map g
 | [],_=>rfl
 | _::_,0=>rfl
 | x::l,i+1=>by simp[u4 g l i]
noncomputable def nN (f:β->Fb) (P:E8) (d:Nat) (a:Option Addr) (m:List (Nat×Nat×β)) (b c t:Nat):af:={d:=1,α:=Nat,c:=.builtin "dict.__delitem__" ⟨[.ref d,.str ⟨⟨[c]⟩⟩ t],[]⟩,need:=[(d,dO P (.type "dict") a f m b)],r:=λ_=>.ok (.ret .none),put:=λe=>[dO P (.type "dict") a f (dZ m c) e],anyH:=true}
theorem D2 (f:β->Fb) (w:E9) (d:Nat) (a:Option Addr) (m:List (Nat×Nat×β)) (e c t:Nat) (v:β) (h:look? m c=some v) (r:m.length<=1000):ab (env w) (nN f w.params d a m e c t):=by
 refine ra λA s G u P o=>?_
 have b:s.heap.get? d=some (dO w.params (.type "dict") a f m e):=P.has (d,_) E2
 show Fr _ _ (FM table (.builtin "dict.__delitem__" ⟨[.ref d,.str ⟨⟨[c]⟩⟩ t],[]⟩)) _ _ s
 rw[aE _ _ F.entry_dict_delitem]
 show Fr _ _ (Builtin.Dict.dictSlotArgs "__delitem__" ⟨[.ref d,.str ⟨⟨[c]⟩⟩ t],[]⟩>>=_) _ _ s
 refine E3 ?_
 unfold Builtin.Dict.dictSlotArgs
 refine E3 (gA (d:=d) rfl P.base b (.inl rfl) ?_)
 show Fr _ _ (pure (Fs d,GT ⟨⟨[c]⟩⟩ t)) _ _ s
 refine E5 ?_
 show Fr _ _ (Builtin.Dict.takeOut d (.str ⟨⟨[c]⟩⟩ t)>>=_) _ _ s
 refine E3 ?_
 unfold Builtin.Dict.takeOut
 try with_reducible refine Gj ?_
 refine E3 ((sk w).pyHash (Gy pq w _ _) (E3 (kO (s:={s with toks:=s.toks+1}) (m:=m) b ?_)))
 rw[oL]at h
 cases g:m.findIdx? λx=>decide (x.1=c)with
 | none=>rw[g]at h;cases h
 | some i=>
  rw[g]at h
  have h:(m[i]?).map (·.2.2)=some v:=h
  refine E3 (FS (s:={s with toks:=s.toks+1}) b rfl ?_)
  obtain⟨x,p,_⟩:∃x,m[i]? =some x/\x.2.2=v:=by
   cases q:m[i]? with
   | none=>rw[q]at h;cases h
   | some x=>rw[q]at h;exact⟨x,rfl,by injection h⟩
  have n:((m.map (aS w.params f)).toArray)[i]? =some (aS w.params f x):=by
   rw[Fv,Fl,p];rfl
  simp only[n]
  refine E3 (wpAny_updateDictKeys (s:={s with toks:=s.toks+1}) b rfl (E5 ?_) (by simp[Gw];omega))
  have k:Hg (λes=>es.eraseIdxIfInBounds i) (dO w.params (.type "dict") a f m e)=dO w.params (.type "dict") a f (dZ m c) (e+1):=by
   unfold dO Hg
   rw[vm g]
   simp[u4]
  refine E3 (H9 (E5 ?_))
  have l:=((ap.start P).toks (s.toks+1)).set (Hg λes=>es.eraseIdxIfInBounds i) (by exact E2) (by show(Hg (λes=>es.eraseIdxIfInBounds i) (dO w.params (.type "dict") a f m e)).isFreed=false;rw[k];rfl)
  have j:ap s {s with toks:=s.toks+1,heap:=s.heap.update d (Hg λes=>es.eraseIdxIfInBounds i)} (nN f w.params d a m e c t).own [(d,Hg (λes=>es.eraseIdxIfInBounds i) (dO w.params (.type "dict") a f m e))]:=l
  rw[k]at j
  exact o (e+1) _ trivial j
end
section
variable (w:E9) (d:Nat) (cls:Fb) (dd:Option Addr) (ep c t:Nat)
theorem cu (m:List (Nat×Nat×Int×Nat)) (v:Int×Nat) (h:look? m c=some v):ab (env w) (nL iv w.params d cls dd m ep c t v):=uN _ _ _ _ _ _ _ _ _ _ h
theorem dW (m:List (Nat×Nat×Nat)) (v:Nat) (h:look? m c=some v):ab (env w) (nL .ref w.params d cls dd m ep c t v):=uN _ _ _ _ _ _ _ _ _ _ h
theorem f6 (m:List (Nat×Nat×Int×Nat)) (i:Int) (u:Nat) (h:m.length<=1000):ab (env w) (jT iv w.params d (.type "dict") dd m ep c t (i,u)):=ni _ _ _ _ _ _ _ _ _ _ (.inl rfl) h
theorem dm (m:List (Nat×Nat×Int×Nat)) (i:Int) (u:Nat) (h:m.length<=1000):ab (env w) (jT iv w.params d (.ref 1093) dd m ep c t (i,u)):=ni _ _ _ _ _ _ _ _ _ _ (.inr rfl) h
theorem gH (m:List (Nat×Nat×Nat)) (a:Nat) (h:m.length<=1000):ab (env w) (jT .ref w.params d (.type "dict") dd m ep c t a):=ni _ _ _ _ _ _ _ _ _ _ (.inl rfl) h
theorem uI (m:List (Nat×Nat×Int×Nat)) (b:Bool) (h:bU m c=b):ab (env w) (lE iv w.params d cls dd m ep c t b):=oZ _ _ _ _ _ _ _ _ _ _ h
theorem DZ (m:List (Nat×Nat×Int×Nat)) (v:Int×Nat) (h:look? m c=some v) (a:m.length<=1000):ab (env w) (nN iv w.params d dd m ep c t):=D2 _ _ _ _ _ _ _ _ _ h a
end
noncomputable def cK (t:Nat):Obj:={cls:=.type "StopIteration",data:=.fields (#[.ref t,.none,.none,.none,.bool false,.none]++ownMembersOf (.type "StopIteration") [])}
noncomputable def aW (t:String) (l i:Nat):Obj:={cls:=.type t,data:=.fields #[.ref l,.int i 0]}
noncomputable def iF (t:String) (i:Nat):Obj:={cls:=.type t,data:=.fields #[.none,.int i 0]}
theorem hZ {w:E9} {A:Around} {G:HI->Fe->Prop} {e s:Fe} {own:List Addr} {all:ao} (g:A.handled=none) (f:ap e s own all)
 (h:∀a b d,ap e d own ((b,cK a)::(a,aR [] 0)::all)->G (.error (.ref b)) d) {i:Type} {Q:i->Fe->Prop}:
 Fr (FT pq w) A (do raiseNew (<-newExc (.type "StopIteration") [])) Q (λv s=>G (.error v) s) s:=by
 refine E3 ?_
 simp only[newExc,newTuple]
 refine E3 (Gg ?_ (by size_fits))
 refine E3 (m:=firstArgMember _ _) (wpAny_of_eq (a:=FY) (by first| rfl | (simp only[firstArgMember];rfl)) ?_)
 refine Gg ?_ (by size_fits)
 simp only[raiseNew]
 refine E3 (wpAny_handled ?_)
 rw[show A.in1.handled=none from g]
 refine E3 (E5 (wpAny_throw ?_))
 exact h _ _ _ ((f.push (aR [] 0) rfl).push (cK _) rfl)
theorem sN {a:Type} {x y z:a}:[x,y,z].Perm [z,x,y]:=FG (l₁:=[x,y]) (l₂:=[z])
theorem j4 {a:Type} {x y z u:a}:[x,y,z,u].Perm [z,u,x,y]:=FG (l₁:=[x,y]) (l₂:=[z,u])
section
variable {γ:Type}
noncomputable def nH (t:String) (a l i:Nat) (o:Obj) (x:Fb):af:={d:=1,α:=Unit,c:=.builtin (t++".__next__") ⟨[.ref a],[]⟩,need:=[(a,aW t l i),(l,o)],r:=λ_=>.ok (.ret x),put:=λ_=>[aW t l (i+1),o]}
noncomputable def nG (t:String) (a l i:Nat) (o:Obj):af:={d:=1,α:=Nat×Nat,c:=.builtin (t++".__next__") ⟨[.ref a],[]⟩,need:=[(a,aW t l i),(l,o)],r:=λx=>.error (.ref x.2),put:=λ_=>[iF t i,o],new:=λx=>[(x.2,cK x.1),(x.1,aR [] 0)]}
theorem cr (w:E9) (a l i n:Nat) (g:γ->Fb) (d:List γ) (x:γ) (h:d[i]? =some x):ab (env w) (nH "list_iterator" a l i (ae (d.map g) n) (g x)):=by
 refine aN λA s G k m P f=>?_
 have b:s.heap.get? a=some (aW "list_iterator" l i):=P.has (a,_) E2
 have j:s.heap.get? l=some (ae (d.map g) n):=P.has (l,_) (E4 _ E2)
 have e:FM table (.builtin "list_iterator.__next__" ⟨[.ref a],[]⟩)=Builtin.«list_iterator.__next__» ⟨[.ref a],[]⟩:=aE _ _ entry_listiter_next
 show Fr _ _ (FM table (.builtin "list_iterator.__next__" ⟨[.ref a],[]⟩)) _ _ s
 rw[e]
 show Fr _ _ (field (.ref a) 0>>=_) _ _ s
 refine E3 (F1 b rfl (x:=.ref l) rfl ?_)
 show Fr _ _ (if(Fs l==FY)=true then _ else _) _ _ s
 rw[if_neg (show¬((Fs l==FY)=true)from Fi)]
 show Fr _ _ (field (.ref a) 1>>=_) _ _ s
 refine E3 (F1 b rfl (x:=.int i 0) rfl ?_)
 show Fr _ _ (seqItems? (.ref l)>>=_) _ _ s
 refine E3 (FN j rfl ?_)
 simp only[F4,Fv,Fl,h,GD]
 refine E3 (Ga b rfl (by simp) (E5 ?_))
 exact f () _ trivial ((ap.start P).set _ (by exact E2) rfl)
theorem ch (w:E9) (d l i n:Nat) (g:γ->Fb) (x:List γ) (h:x[i]? =none):ab (env w) (nG "list_iterator" d l i (ae (x.map g) n)):=by
 refine aN λA s G m q P k=>?_
 have f:s.heap.get? d=some (aW "list_iterator" l i):=P.has (d,_) E2
 have o:s.heap.get? l=some (ae (x.map g) n):=P.has (l,_) (E4 _ E2)
 have e:FM table (.builtin "list_iterator.__next__" ⟨[.ref d],[]⟩)=Builtin.«list_iterator.__next__» ⟨[.ref d],[]⟩:=aE _ _ entry_listiter_next
 show Fr _ _ (FM table (.builtin "list_iterator.__next__" ⟨[.ref d],[]⟩)) _ _ s
 rw[e]
 show Fr _ _ (field (.ref d) 0>>=_) _ _ s
 refine E3 (F1 f rfl (x:=.ref l) rfl ?_)
 show Fr _ _ (if(Fs l==FY)=true then _ else _) _ _ s
 rw[if_neg (show¬((Fs l==FY)=true)from Fi)]
 show Fr _ _ (field (.ref d) 1>>=_) _ _ s
 refine E3 (F1 f rfl (x:=.int i 0) rfl ?_)
 show Fr _ _ (seqItems? (.ref l)>>=_) _ _ s
 refine E3 (FN o rfl ?_)
 simp only[F4,Fv,Fl,h,Option.map_none]
 refine E3 (GZ (E3 (Ga f rfl (by simp) ?_)))
 exact hZ m ((ap.start P).set _ (by exact E2) rfl) λa b p j=>k (a,b) p trivial (j.perm j4)
theorem fK (w:E9) (a l i n:Nat) (g:γ->Fb) (d:List γ) (x:γ) (h:d[i]? =some x):ab (env w) (nH "tuple_iterator" a l i (aR (d.map g) n) (g x)):=by
 refine aN λA s G k m P f=>?_
 have b:s.heap.get? a=some (aW "tuple_iterator" l i):=P.has (a,_) E2
 have j:s.heap.get? l=some (aR (d.map g) n):=P.has (l,_) (E4 _ E2)
 have e:FM table (.builtin "tuple_iterator.__next__" ⟨[.ref a],[]⟩)=Builtin.«tuple_iterator.__next__» ⟨[.ref a],[]⟩:=aE _ _ F.entry_tuple_iterator_next
 show Fr _ _ (FM table (.builtin "tuple_iterator.__next__" ⟨[.ref a],[]⟩)) _ _ s
 rw[e]
 show Fr _ _ (field (.ref a) 0>>=_) _ _ s
 refine E3 (F1 b rfl (x:=.ref l) rfl ?_)
 show Fr _ _ (if(Fs l==FY)=true then _ else _) _ _ s
 rw[if_neg (show¬((Fs l==FY)=true)from Fi)]
 show Fr _ _ (field (.ref a) 1>>=_) _ _ s
 refine E3 (F1 b rfl (x:=.int i 0) rfl ?_)
 show Fr _ _ (seqItems? (.ref l)>>=_) _ _ s
 refine E3 (FN j rfl ?_)
 simp only[F4,Fv,Fl,h,GD]
 refine E3 (Ga b rfl (by simp) (E5 ?_))
 exact f () _ trivial ((ap.start P).set _ (by exact E2) rfl)
theorem ir (w:E9) (d l i n:Nat) (g:γ->Fb) (x:List γ) (h:x[i]? =none):ab (env w) (nG "tuple_iterator" d l i (aR (x.map g) n)):=by
 refine aN λA s G m q P k=>?_
 have f:s.heap.get? d=some (aW "tuple_iterator" l i):=P.has (d,_) E2
 have o:s.heap.get? l=some (aR (x.map g) n):=P.has (l,_) (E4 _ E2)
 have e:FM table (.builtin "tuple_iterator.__next__" ⟨[.ref d],[]⟩)=Builtin.«tuple_iterator.__next__» ⟨[.ref d],[]⟩:=aE _ _ F.entry_tuple_iterator_next
 show Fr _ _ (FM table (.builtin "tuple_iterator.__next__" ⟨[.ref d],[]⟩)) _ _ s
 rw[e]
 show Fr _ _ (field (.ref d) 0>>=_) _ _ s
 refine E3 (F1 f rfl (x:=.ref l) rfl ?_)
 show Fr _ _ (if(Fs l==FY)=true then _ else _) _ _ s
 rw[if_neg (show¬((Fs l==FY)=true)from Fi)]
 show Fr _ _ (field (.ref d) 1>>=_) _ _ s
 refine E3 (F1 f rfl (x:=.int i 0) rfl ?_)
 show Fr _ _ (seqItems? (.ref l)>>=_) _ _ s
 refine E3 (FN o rfl ?_)
 simp only[F4,Fv,Fl,h,Option.map_none]
 refine E3 (GZ (E3 (Ga f rfl (by simp) ?_)))
 exact hZ m ((ap.start P).set _ (by exact E2) rfl) λa b p j=>k (a,b) p trivial (j.perm j4)
end
noncomputable def cq (a:List Nat) (t i:Nat):Obj:={cls:=.type "str_ascii_iterator",data:=.fields #[.str ⟨⟨a⟩⟩ t,.int i 0]}
noncomputable def xK (i:Nat):Obj:={cls:=.type "str_ascii_iterator",data:=.fields #[.none,.int i 0]}
noncomputable def ym (b t i:Nat) (a:List Nat) (c:Nat):af:={d:=1,α:=Nat,c:=.builtin "str_ascii_iterator.__next__" ⟨[.ref b],[]⟩,need:=[(b,cq a t i)],r:=λu=>.ok (.ret (.str ⟨⟨[c]⟩⟩ u)),put:=λ_=>[cq a t (i+1)]}
theorem eH (w:E9) (b t i:Nat) (a:List Nat) (c:Nat) (h:a[i]? =some c):ab (env w) (ym b t i a c):=by
 refine aN λA s G g j P f=>?_
 have d:s.heap.get? b=some (cq a t i):=P.has (b,_) E2
 show Fr _ _ (FM table (.builtin "str_ascii_iterator.__next__" ⟨[.ref b],[]⟩)) _ _ s
 rw[aE _ _ F.entry_str_ascii_iterator_next]
 show Fr _ _ (field (.ref b) 0>>=_) _ _ s
 refine E3 (F1 d rfl (x:=.str ⟨⟨a⟩⟩ t) rfl ?_)
 show Fr _ _ (if(GT ⟨⟨a⟩⟩ t==FY)=true then _ else _) _ _ s
 rw[if_neg (show¬((GT ⟨⟨a⟩⟩ t==FY)=true)from Fi)]
 show Fr _ _ (field (.ref b) 1>>=_) _ _ s
 refine E3 (F1 d rfl (x:=.int i 0) rfl ?_)
 show Fr _ _ (match(⟨a⟩:Array Nat)[(i:Int).toNat]? with| some c=>_ | none=>_) _ _ s
 have e:(⟨a⟩:Array Nat)[(i:Int).toNat]? =some c:=by rw[F4];simpa using h
 rw[e]
 refine E3 (Ga d rfl (by simp) ?_)
 show Fr _ _ (retStr ⟨#[c]⟩) _ _ _
 refine E3 ?_
 unfold mkStr
 rw[if_neg (by show¬(1>Gw);decide)]
 refine E3 (Ia (E5 (E5 ?_)))
 exact f s.toks _ trivial (((ap.start P).set _ (by exact E2) rfl).toks _)
noncomputable def yp (a t i:Nat) (b:List Nat):af:={d:=1,α:=Nat×Nat,c:=.builtin "str_ascii_iterator.__next__" ⟨[.ref a],[]⟩,need:=[(a,cq b t i)],r:=λx=>.error (.ref x.2),put:=λ_=>[xK i],new:=λx=>[(x.2,cK x.1),(x.1,aR [] 0)]}
theorem cJ (w:E9) (e t i:Nat) (d:List Nat) (h:d[i]? =none):ab (env w) (yp e t i d):=by
 refine aN λA s G l n P k=>?_
 have f:s.heap.get? e=some (cq d t i):=P.has (e,_) E2
 show Fr _ _ (FM table (.builtin "str_ascii_iterator.__next__" ⟨[.ref e],[]⟩)) _ _ s
 rw[aE _ _ F.entry_str_ascii_iterator_next]
 show Fr _ _ (field (.ref e) 0>>=_) _ _ s
 refine E3 (F1 f rfl (x:=.str ⟨⟨d⟩⟩ t) rfl ?_)
 show Fr _ _ (if(GT ⟨⟨d⟩⟩ t==FY)=true then _ else _) _ _ s
 rw[if_neg (show¬((GT ⟨⟨d⟩⟩ t==FY)=true)from Fi)]
 show Fr _ _ (field (.ref e) 1>>=_) _ _ s
 refine E3 (F1 f rfl (x:=.int i 0) rfl ?_)
 show Fr _ _ (match(⟨d⟩:Array Nat)[(i:Int).toNat]? with| some c=>_ | none=>_) _ _ s
 have j:(⟨d⟩:Array Nat)[(i:Int).toNat]? =none:=by rw[F4];simpa using h
 rw[j]
 refine E3 (GZ (E3 (Ga f rfl (by simp) ?_)))
 refine E3 (H9 ?_)
 exact hZ l ((ap.start P).set _ (by exact E2) rfl) λa b m g=>k (a,b) m trivial (g.perm sN)
noncomputable def bG (v l step:Int) (t a b:Nat):Obj:={cls:=.type "range_iterator",data:=.fields #[.int v t,.int l a,.int step b]}
noncomputable def yC (i:Nat) (v l step:Int) (b d t:Nat) (e a:Int):af:={d:=1,α:=Nat,c:=.builtin "range_iterator.__next__" ⟨[.ref i],[]⟩,need:=[(i,bG v l step b d t)],r:=λu=>.ok (.ret (.int v u)),put:=λ_=>[bG e a step 0 0 t]}
theorem bY (w:E9) (i:Nat) (v l step:Int) (t b d:Nat) (g f:Int) (h:0<l) (n:v+step=g) (m:l-1=f):ab (env w) (yC i v l step t b d g f):=by
 subst n;subst m
 refine aN λA s G o p P k=>?_
 have a:s.heap.get? i=some (bG v l step t b d):=P.has (i,_) E2
 show Fr _ _ (FM table (.builtin "range_iterator.__next__" ⟨[.ref i],[]⟩)) _ _ s
 rw[aE _ _ F.entry_range_iterator_next]
 show Fr _ _ (field (.ref i) 0>>=_) _ _ s
 refine E3 (F1 a rfl (x:=.int v t) rfl ?_)
 show Fr _ _ (field (.ref i) 1>>=_) _ _ s
 refine E3 (F1 a rfl (x:=.int l b) rfl ?_)
 show Fr _ _ (field (.ref i) 2>>=_) _ _ s
 refine E3 (F1 a rfl (x:=.int step d) rfl ?_)
 show Fr _ _ (if l<=0 then _ else _) _ _ s
 rw[if_neg (by omega)]
 have e:=(ap.start P).set (F9 λx=>x.setIfInBounds 0 (FV (v+step))) (by exact E2) rfl
 have j:=e.set (F9 λx=>x.setIfInBounds 1 (FV (l-1))) (by exact E2) rfl
 refine E3 (Ga a rfl (by simp) ?_)
 refine E3 (Ga (e.has (i,_) E2) rfl (by simp) ?_)
 show Fr _ _ (mkInt v>>=_) _ _ _
 refine E3 ?_
 unfold mkInt
 refine E3 (Ia (E5 (E5 ?_)))
 exact k s.toks _ trivial (j.toks _)
noncomputable def yD (i:Nat) (v l step:Int) (t a b:Nat):af:={d:=1,α:=Nat×Nat,c:=.builtin "range_iterator.__next__" ⟨[.ref i],[]⟩,need:=[(i,bG v l step t a b)],r:=λx=>.error (.ref x.2),put:=λ_=>[bG v l step t a b],new:=λx=>[(x.2,cK x.1),(x.1,aR [] 0)]}
theorem cg (w:E9) (i:Nat) (v l step:Int) (t e f:Nat) (h:¬0<l):ab (env w) (yD i v l step t e f):=by
 refine aN λA s G k n P j=>?_
 have d:s.heap.get? i=some (bG v l step t e f):=P.has (i,_) E2
 show Fr _ _ (FM table (.builtin "range_iterator.__next__" ⟨[.ref i],[]⟩)) _ _ s
 rw[aE _ _ F.entry_range_iterator_next]
 show Fr _ _ (field (.ref i) 0>>=_) _ _ s
 refine E3 (F1 d rfl (x:=.int v t) rfl ?_)
 show Fr _ _ (field (.ref i) 1>>=_) _ _ s
 refine E3 (F1 d rfl (x:=.int l e) rfl ?_)
 show Fr _ _ (field (.ref i) 2>>=_) _ _ s
 refine E3 (F1 d rfl (x:=.int step f) rfl ?_)
 show Fr _ _ (if l<=0 then _ else _) _ _ s
 rw[if_pos (by omega)]
 refine E3 (GZ (E3 ?_))
 exact hZ k (ap.start P) λa b m g=>j (a,b) m trivial (g.perm sN)
noncomputable def bZ (t:String) (d i n e:Nat):Obj:={cls:=.type t,data:=.fields #[.ref d,.int i 0,.int n 0,.int e 0]}
noncomputable def D3 (t:String) (i n e:Nat):Obj:={cls:=.type t,data:=.fields #[.none,.int i 0,.int n 0,.int e 0]}
noncomputable def aT (x:Fb) (d i n e:Nat) (ok o:Fb):Obj:={cls:=.type "dict_itemiterator",data:=.fields #[x,.bool false,.ref d,.int i 0,.int n 0,.int e 0,ok,o]}
noncomputable def CT (i n e:Nat) (ok o:Fb):Obj:={cls:=.type "dict_itemiterator",data:=.fields #[.none,.bool false,.none,.int i 0,.int n 0,.int e 0,ok,o]}
section
variable {β:Type}
noncomputable def lG (t:String) (g d i e:Nat) (P:E8) (a:Fb) (b:Option Addr) (f:β->Fb) (m:List (Nat×Nat×β)) (x:Fb):af:={d:=1,α:=Unit,c:=.builtin (t++".__next__") ⟨[.ref g],[]⟩,need:=[(g,bZ t d i m.length e),(d,dO P a b f m e)],r:=λ_=>.ok (.ret x),put:=λ_=>[bZ t d (i+1) m.length e,dO P a b f m e]}
noncomputable def lI (t:String) (g d i e:Nat) (P:E8) (a:Fb) (b:Option Addr) (f:β->Fb) (m:List (Nat×Nat×β)):af:={d:=1,α:=Nat×Nat,c:=.builtin (t++".__next__") ⟨[.ref g],[]⟩,need:=[(g,bZ t d i m.length e),(d,dO P a b f m e)],r:=λx=>.error (.ref x.2),put:=λ_=>[D3 t i m.length e,dO P a b f m e],new:=λx=>[(x.2,cK x.1),(x.1,aR [] 0)]}
noncomputable def sh (h d i e:Nat) (ok o:Fb) (P:E8) (b:Fb) (g:Option Addr) (f:β->Fb) (m:List (Nat×Nat×β)) (c t:Nat) (v:β):af:={d:=1,α:=Nat,c:=.builtin "dict_itemiterator.__next__" ⟨[.ref h],[]⟩,need:=[(h,aT .none d i m.length e ok o),(d,dO P b g f m e)],r:=λa=>.ok (.ret (.ref a)),put:=λa=>[aT (.int a 0) d (i+1) m.length e (.str ⟨⟨[c]⟩⟩ t) (f v),dO P b g f m e],new:=λa=>[(a,aR [.str ⟨⟨[c]⟩⟩ t,f v] 0)]}
noncomputable def sj (g d i e:Nat) (ok o:Fb) (P:E8) (a:Fb) (b:Option Addr) (f:β->Fb) (m:List (Nat×Nat×β)):af:={d:=1,α:=Nat×Nat,c:=.builtin "dict_itemiterator.__next__" ⟨[.ref g],[]⟩,need:=[(g,aT .none d i m.length e ok o),(d,dO P a b f m e)],r:=λx=>.error (.ref x.2),put:=λ_=>[CT i m.length e ok o,dO P a b f m e],new:=λx=>[(x.2,cK x.1),(x.1,aR [] 0)]}
theorem Ci (w:E9) (a d i e:Nat) (k:Fb) (l:Option Addr) (f:β->Fb) (m:List (Nat×Nat×β)) (x:Nat×Nat×β) (h:m[i]? =some x):ab (env w) (lG "dict_keyiterator" a d i e w.params k l f m (.str ⟨⟨[x.1]⟩⟩ x.2.1)):=by
 refine aN λA s G t u P p=>?_
 have g:s.heap.get? a=some (bZ "dict_keyiterator" d i m.length e):=P.has (a,_) E2
 have n:s.heap.get? d=some (dO w.params k l f m e):=P.has (d,_) (E4 _ E2)
 have b:s.TypeIs (.ref a) "dict_keyiterator":=⟨_,g,rfl⟩
 show Fr _ _ (FM table (.builtin "dict_keyiterator.__next__" ⟨[.ref a],[]⟩)) _ _ s
 rw[aE _ _ F.entry_dict_keyiterator_next]
 refine E3 (E3 (E5 (a:=(Fs a,[])) (E5 ?_)))
 refine E3 ?_
 refine E3 ?_
 first| refine E3 (Hc b (E5 ?_)) | refine E3 (HG b (E5 ?_))
 refine E3 (H3 g rfl ?_)
 have r:Gc "dict_keyiterator"=false:=by decide
 simp only[r,Ge,if_false]
 show Fr _ _ (if(Fs d==FY)=true then _ else _) _ _ s
 rw[if_neg (show¬((Fs d==FY)=true)from Fi)]
 refine E3 (E5 ?_)
 refine E3 (FS n rfl ?_)
 rw[if_neg (by simp)]
 refine E3 (E5 ?_)
 refine E3 (Gk n rfl ?_)
 rw[if_neg (by simp)]
 refine E5 ?_
 have o:((m.map (aS w.params f)).toArray)[i]? =some (aS w.params f x):=by rw[Fv,Fl,h];rfl
 simp only[show¬((i:Int)<0)from by omega,if_false,F4,o]
 refine E3 ?_
 first| refine E3 (Hc b (E5 ?_)) | refine E3 (HG b (E5 ?_))
 refine E3 (wpAny_isOneOf_keyiter b ?_)
 show Fr _ _ (setField (.ref a) 1 (FV ((i:Int)+1))>>=_) _ _ s
 refine E3 (Ga g rfl (by simp) ?_)
 have j:=(ap.start P).set (F9 λx=>x.setIfInBounds 1 (FV ((i:Int)+1))) (by exact E2) rfl
 have q:Shared.TypeIs {s with heap:=s.heap.update a (F9 λx=>x.setIfInBounds 1 (FV ((i:Int)+1)))} (.ref a) "dict_keyiterator":=⟨_,j.has (a,_) E2,rfl⟩
 refine E3 (Gj ?_)
 refine E3 (wpAny_isOneOf_keyiter q ?_)
 refine E5 (E5 ?_)
 exact p () _ trivial j
theorem Cl (w:E9) (e d i j:Nat) (l:Fb) (n:Option Addr) (f:β->Fb) (m:List (Nat×Nat×β)) (h:m[i]? =none):ab (env w) (lI "dict_keyiterator" e d i j w.params l n f m):=by
 refine aN λA s G t x P r=>?_
 have k:s.heap.get? e=some (bZ "dict_keyiterator" d i m.length j):=P.has (e,_) E2
 have o:s.heap.get? d=some (dO w.params l n f m j):=P.has (d,_) (E4 _ E2)
 have g:s.TypeIs (.ref e) "dict_keyiterator":=⟨_,k,rfl⟩
 show Fr _ _ (FM table (.builtin "dict_keyiterator.__next__" ⟨[.ref e],[]⟩)) _ _ s
 rw[aE _ _ F.entry_dict_keyiterator_next]
 refine E3 (E3 (E5 (a:=(Fs e,[])) (E5 ?_)))
 refine E3 ?_
 refine E3 ?_
 first| refine E3 (Hc g (E5 ?_)) | refine E3 (HG g (E5 ?_))
 refine E3 (H3 k rfl ?_)
 have u:Gc "dict_keyiterator"=false:=by decide
 simp only[u,Ge,if_false]
 show Fr _ _ (if(Fs d==FY)=true then _ else _) _ _ s
 rw[if_neg (show¬((Fs d==FY)=true)from Fi)]
 refine E3 (E5 ?_)
 refine E3 (FS o rfl ?_)
 rw[if_neg (by simp)]
 refine E3 (E5 ?_)
 refine E3 (Gk o rfl ?_)
 rw[if_neg (by simp)]
 refine E5 ?_
 have q:((m.map (aS w.params f)).toArray)[i]? =none:=by rw[Fv,Fl,h];rfl
 simp only[show¬((i:Int)<0)from by omega,if_false,F4,q]
 refine E3 ?_
 first| refine E3 (Hc g (E5 ?_)) | refine E3 (HG g (E5 ?_))
 show Fr _ _ (setField (.ref e) 0 .none>>=_) _ _ s
 refine E3 (Ga k rfl (by simp) ?_)
 exact hZ t ((ap.start P).set _ (by exact E2) rfl) λa b v p=>r (a,b) v trivial (p.perm j4)
theorem wr (w:E9) (a d i e:Nat) (k:Fb) (l:Option Addr) (f:β->Fb) (m:List (Nat×Nat×β)) (x:Nat×Nat×β) (h:m[i]? =some x):ab (env w) (lG "dict_valueiterator" a d i e w.params k l f m (f x.2.2)):=by
 refine aN λA s G t u P q=>?_
 have g:s.heap.get? a=some (bZ "dict_valueiterator" d i m.length e):=P.has (a,_) E2
 have o:s.heap.get? d=some (dO w.params k l f m e):=P.has (d,_) (E4 _ E2)
 have b:s.TypeIs (.ref a) "dict_valueiterator":=⟨_,g,rfl⟩
 show Fr _ _ (FM table (.builtin "dict_valueiterator.__next__" ⟨[.ref a],[]⟩)) _ _ s
 rw[aE _ _ F.entry_dict_valueiterator_next]
 refine E3 (E3 (E5 (a:=(Fs a,[])) (E5 ?_)))
 refine E3 ?_
 refine E3 ?_
 first| refine E3 (Hb b (E5 ?_)) | refine E3 (HF b (E5 ?_))
 refine E3 (H3 g rfl ?_)
 have r:Gc "dict_valueiterator"=false:=by decide
 simp only[r,Ge,if_false]
 show Fr _ _ (if(Fs d==FY)=true then _ else _) _ _ s
 rw[if_neg (show¬((Fs d==FY)=true)from Fi)]
 refine E3 (E5 ?_)
 refine E3 (FS o rfl ?_)
 rw[if_neg (by simp)]
 refine E3 (E5 ?_)
 refine E3 (Gk o rfl ?_)
 rw[if_neg (by simp)]
 refine E5 ?_
 have p:((m.map (aS w.params f)).toArray)[i]? =some (aS w.params f x):=by rw[Fv,Fl,h];rfl
 simp only[show¬((i:Int)<0)from by omega,if_false,F4,p]
 refine E3 ?_
 first| refine E3 (Hb b (E5 ?_)) | refine E3 (HF b (E5 ?_))
 refine E3 (wpAny_isOneOf_valiter b ?_)
 show Fr _ _ (setField (.ref a) 1 (FV ((i:Int)+1))>>=_) _ _ s
 refine E3 (Ga g rfl (by simp) ?_)
 have j:=(ap.start P).set (F9 λx=>x.setIfInBounds 1 (FV ((i:Int)+1))) (by exact E2) rfl
 have n:Shared.TypeIs {s with heap:=s.heap.update a (F9 λx=>x.setIfInBounds 1 (FV ((i:Int)+1)))} (.ref a) "dict_valueiterator":=⟨_,j.has (a,_) E2,rfl⟩
 refine E3 (Gj ?_)
 refine E3 (wpAny_isOneOf_valiter n ?_)
 refine E3 (wpAny_isOneOf_valiter n ?_)
 refine E5 (E5 ?_)
 exact q () _ trivial j
theorem wu (w:E9) (e d i j:Nat) (l:Fb) (n:Option Addr) (f:β->Fb) (m:List (Nat×Nat×β)) (h:m[i]? =none):ab (env w) (lI "dict_valueiterator" e d i j w.params l n f m):=by
 refine aN λA s G t x P r=>?_
 have k:s.heap.get? e=some (bZ "dict_valueiterator" d i m.length j):=P.has (e,_) E2
 have o:s.heap.get? d=some (dO w.params l n f m j):=P.has (d,_) (E4 _ E2)
 have g:s.TypeIs (.ref e) "dict_valueiterator":=⟨_,k,rfl⟩
 show Fr _ _ (FM table (.builtin "dict_valueiterator.__next__" ⟨[.ref e],[]⟩)) _ _ s
 rw[aE _ _ F.entry_dict_valueiterator_next]
 refine E3 (E3 (E5 (a:=(Fs e,[])) (E5 ?_)))
 refine E3 ?_
 refine E3 ?_
 first| refine E3 (Hb g (E5 ?_)) | refine E3 (HF g (E5 ?_))
 refine E3 (H3 k rfl ?_)
 have u:Gc "dict_valueiterator"=false:=by decide
 simp only[u,Ge,if_false]
 show Fr _ _ (if(Fs d==FY)=true then _ else _) _ _ s
 rw[if_neg (show¬((Fs d==FY)=true)from Fi)]
 refine E3 (E5 ?_)
 refine E3 (FS o rfl ?_)
 rw[if_neg (by simp)]
 refine E3 (E5 ?_)
 refine E3 (Gk o rfl ?_)
 rw[if_neg (by simp)]
 refine E5 ?_
 have q:((m.map (aS w.params f)).toArray)[i]? =none:=by rw[Fv,Fl,h];rfl
 simp only[show¬((i:Int)<0)from by omega,if_false,F4,q]
 refine E3 ?_
 first| refine E3 (Hb g (E5 ?_)) | refine E3 (HF g (E5 ?_))
 show Fr _ _ (setField (.ref e) 0 .none>>=_) _ _ s
 refine E3 (Ga k rfl (by simp) ?_)
 exact hZ t ((ap.start P).set _ (by exact E2) rfl) λa b v p=>r (a,b) v trivial (p.perm j4)
theorem Cu (w:E9) (b d i g:Nat) (ok o:Fb) (k:Fb) (l:Option Addr) (f:β->Fb) (m:List (Nat×Nat×β)) (c t:Nat) (v:β) (h:m[i]? =some (c,t,v)):ab (env w) (sh b d i g ok o w.params k l f m c t v):=by
 refine aN λA s G I N P H=>?_
 have n:s.heap.get? b=some (aT .none d i m.length g ok o):=P.has (b,_) E2
 have B:s.heap.get? d=some (dO w.params k l f m g):=P.has (d,_) (E4 _ E2)
 have j:s.TypeIs (.ref b) "dict_itemiterator":=⟨_,n,rfl⟩
 show Fr _ _ (FM table (.builtin "dict_itemiterator.__next__" ⟨[.ref b],[]⟩)) _ _ s
 rw[aE _ _ F.entry_dict_itemiterator_next]
 refine E3 (E3 (E5 (a:=(Fs b,[])) (E5 ?_)))
 refine E3 ?_
 refine E3 ?_
 first| refine E3 (GX j (E5 ?_)) | refine E3 (Hw j (E5 ?_))
 refine E3 (H3 n rfl ?_)
 have J:Gc "dict_itemiterator"=true:=by decide
 simp only[J,if_true]
 show Fr _ _ (if(Fs d==FY)=true then _ else _) _ _ s
 rw[if_neg (show¬((Fs d==FY)=true)from Fi)]
 refine E3 (E5 ?_)
 refine E3 (FS B rfl ?_)
 rw[if_neg (by simp)]
 refine E3 (E5 ?_)
 refine E3 (Gk B rfl ?_)
 rw[if_neg (by simp)]
 refine E5 ?_
 have D:((m.map (aS w.params f)).toArray)[i]? =some (aS w.params f (c,t,v)):=by rw[Fv,Fl,h];rfl
 simp only[show¬((i:Int)<0)from by omega,if_false,F4,D]
 refine E3 ?_
 first| refine E3 (GX j (E5 ?_)) | refine E3 (Hw j (E5 ?_))
 refine E3 (wpAny_isOneOf_itemiter j ?_)
 show Fr _ _ (setField (.ref b) 3 (FV ((i:Int)+1))>>=_) _ _ s
 refine E3 (Ga n rfl (by simp) ?_)
 have p:=(ap.start P).set (F9 λx=>x.setIfInBounds 3 (FV ((i:Int)+1))) (by exact E2) rfl
 have y:Shared.TypeIs {s with heap:=s.heap.update b (F9 λx=>x.setIfInBounds 3 (FV ((i:Int)+1)))} (.ref b) "dict_itemiterator":=⟨_,p.has (b,_) E2,rfl⟩
 refine E3 (Gj ?_)
 refine E3 (wpAny_isOneOf_itemiter y ?_)
 refine E3 (wpAny_isOneOf_itemiter y ?_)
 show Fr _ _ (Builtin.Dict_items.pairFromOwner (.ref b) 6 (.str ⟨⟨[c]⟩⟩ t) (f v)) _ _ _
 unfold Builtin.Dict_items.pairFromOwner
 refine E3 (wpAny_newTuple ?_)
 have e:=(p.push (aR [.str ⟨⟨[c]⟩⟩ t,f v] 0) rfl).perm (.swap ..)
 have M:(s.heap.update b (F9 λx=>x.setIfInBounds 3 (FV ((i:Int)+1)))).objs.size=s.heap.objs.size:=(Heap.SameBut.update ..).1
 revert e
 show ap s {s with heap:=(s.heap.update b (F9 λx=>x.setIfInBounds 3 (FV ((i:Int)+1)))).push (aR [.str ⟨⟨[c]⟩⟩ t,f v] 0)} _ [(b,aT .none d (i+1) m.length g ok o),((s.heap.update b (F9 λx=>x.setIfInBounds 3 (FV ((i:Int)+1)))).objs.size,aR [.str ⟨⟨[c]⟩⟩ t,f v] 0),(d,dO w.params k l f m g)]->_
 intro e
 show Fr _ _ _ _ _ {s with heap:=(s.heap.update b (F9 λx=>x.setIfInBounds 3 (FV ((i:Int)+1)))).push (aR [.str ⟨⟨[c]⟩⟩ t,f v] 0)}
 generalize L:(s.heap.update b (F9 λx=>x.setIfInBounds 3 (FV ((i:Int)+1)))).push (aR [.str ⟨⟨[c]⟩⟩ t,f v] 0)=E at e⊢
 generalize I:(s.heap.update b (F9 λx=>x.setIfInBounds 3 (FV ((i:Int)+1)))).objs.size=a at e⊢
 have o2:E.get? b=some (aT .none d (i+1) m.length g ok o):=e.has (b,_) E2
 refine E3 ?_
 unfold Builtin.Dict_items.ownedTupleIsFree
 refine E3 (F1 o2 rfl (x:=.none) rfl (E5 ?_))
 simp only[if_true]
 refine E3 (F1 o2 rfl (x:=ok) rfl ?_)
 refine E3 (F1 o2 rfl (x:=o) rfl ?_)
 have q:=e.set (F9 λx=>x.setIfInBounds 6 (.str ⟨⟨[c]⟩⟩ t)) (by exact E2) rfl
 refine E3 (Ga o2 rfl (by simp) ?_)
 have r:=q.set (F9 λx=>x.setIfInBounds 7 (f v)) (by exact E2) rfl
 refine E3 (Ga (q.has (b,_) E2) rfl (by simp) ?_)
 have u:=r.set (F9 λx=>x.setIfInBounds 0 (FV a)) (by exact E2) rfl
 refine E3 (Ga (r.has (b,_) E2) rfl (by simp) ?_)
 have C:=u.set (F9 λx=>x.setIfInBounds 1 (.bool false)) (by exact E2) rfl
 refine E3 (Ga (u.has (b,_) E2) rfl (by simp) ?_)
 refine E3 (H9 (E5 (E5 ?_)))
 exact H a _ trivial (C.perm (.cons _ (.swap ..)))
theorem Cx (w:E9) (e d i j:Nat) (ok p:Fb) (l:Fb) (n:Option Addr) (f:β->Fb) (m:List (Nat×Nat×β)) (h:m[i]? =none):ab (env w) (sj e d i j ok p w.params l n f m):=by
 refine aN λA s G u y P t=>?_
 have k:s.heap.get? e=some (aT .none d i m.length j ok p):=P.has (e,_) E2
 have o:s.heap.get? d=some (dO w.params l n f m j):=P.has (d,_) (E4 _ E2)
 have g:s.TypeIs (.ref e) "dict_itemiterator":=⟨_,k,rfl⟩
 show Fr _ _ (FM table (.builtin "dict_itemiterator.__next__" ⟨[.ref e],[]⟩)) _ _ s
 rw[aE _ _ F.entry_dict_itemiterator_next]
 refine E3 (E3 (E5 (a:=(Fs e,[])) (E5 ?_)))
 refine E3 ?_
 refine E3 ?_
 first| refine E3 (GX g (E5 ?_)) | refine E3 (Hw g (E5 ?_))
 refine E3 (H3 k rfl ?_)
 have v:Gc "dict_itemiterator"=true:=by decide
 simp only[v,if_true]
 show Fr _ _ (if(Fs d==FY)=true then _ else _) _ _ s
 rw[if_neg (show¬((Fs d==FY)=true)from Fi)]
 refine E3 (E5 ?_)
 refine E3 (FS o rfl ?_)
 rw[if_neg (by simp)]
 refine E3 (E5 ?_)
 refine E3 (Gk o rfl ?_)
 rw[if_neg (by simp)]
 refine E5 ?_
 have r:((m.map (aS w.params f)).toArray)[i]? =none:=by rw[Fv,Fl,h];rfl
 simp only[show¬((i:Int)<0)from by omega,if_false,F4,r]
 refine E3 ?_
 first| refine E3 (GX g (E5 ?_)) | refine E3 (Hw g (E5 ?_))
 show Fr _ _ (setField (.ref e) 2 .none>>=_) _ _ s
 refine E3 (Ga k rfl (by simp) ?_)
 exact hZ u ((ap.start P).set _ (by exact E2) rfl) λa b x q=>t (a,b) x trivial (q.perm j4)
end
section
variable (w:E9) (it d i ep:Nat) (ok ov:Fb) (cls:Fb) (dd:Option Addr)
theorem Cv (m:List (Nat×Nat×Int×Nat)) (x:Nat×Nat×Int×Nat) (h:m[i]? =some x):ab (env w) (sh it d i ep ok ov w.params cls dd iv m x.1 x.2.1 x.2.2):=Cu _ _ _ _ _ _ _ _ _ _ _ _ _ _ h
theorem gl (m:List (Nat×Nat×Int×Nat)) (h:m[i]? =none):ab (env w) (sj it d i ep ok ov w.params cls dd iv m):=Cx _ _ _ _ _ _ _ _ _ _ _ h
theorem ua (m:List (Nat×Nat×Nat)) (x:Nat×Nat×Nat) (h:m[i]? =some x):ab (env w) (lG "dict_keyiterator" it d i ep w.params cls dd .ref m (.str ⟨⟨[x.1]⟩⟩ x.2.1)):=Ci _ _ _ _ _ _ _ _ _ _ h
theorem ub (m:List (Nat×Nat×Nat)) (h:m[i]? =none):ab (env w) (lI "dict_keyiterator" it d i ep w.params cls dd .ref m):=Cl _ _ _ _ _ _ _ _ _ h
theorem qe (m:List (Nat×Nat×Nat)) (x:Nat×Nat×Nat) (h:m[i]? =some x):ab (env w) (lG "dict_valueiterator" it d i ep w.params cls dd .ref m (.ref x.2.2)):=wr _ _ _ _ _ _ _ _ _ _ h
theorem wq (m:List (Nat×Nat×Nat)) (h:m[i]? =none):ab (env w) (lI "dict_valueiterator" it d i ep w.params cls dd .ref m):=wu _ _ _ _ _ _ _ _ _ h
end
noncomputable def j0 (id:String) (x y:Int) (t u:Nat) (z:Int):af:={d:=1,α:=Nat,c:=.builtin id ⟨[.int x t,.int y u],[]⟩,need:=[],r:=λv=>.ok (.ret (.int z v))}
noncomputable def gf (id:String) (x y:Int) (t u:Nat) (b:Bool):af:={d:=1,α:=Unit,c:=.builtin id ⟨[.int x t,.int y u],[]⟩,need:=[],r:=λ_=>.ok (.ret (.bool b))}
theorem b8 (w:E9) (x y:Int) (t u:Nat) (z:Int) (h:x+y=z):ab (env w) (j0 "int.__add__" x y t u z):=by
 subst h
 refine aN λA s G b d P a=>?_
 show Fr _ _ (FM table (.builtin "int.__add__" ⟨[.int x t,.int y u],[]⟩)) _ _ s
 rw[aE _ _ F.entry_int_add]
 show Fr _ _ (mkInt (x+y)>>=_) _ _ s
 unfold mkInt
 exact E3 (E3 (Ia (E5 (E5 (a s.toks _ trivial ((ap.start P).toks _))))))
theorem bx (w:E9) (x y:Int) (t u:Nat) (z:Int) (h:x-y=z):ab (env w) (j0 "int.__sub__" x y t u z):=by
 subst h
 refine aN λA s G b d P a=>?_
 show Fr _ _ (FM table (.builtin "int.__sub__" ⟨[.int x t,.int y u],[]⟩)) _ _ s
 rw[aE _ _ F.entry_int_sub]
 show Fr _ _ (mkInt (x-y)>>=_) _ _ s
 unfold mkInt
 exact E3 (E3 (Ia (E5 (E5 (a s.toks _ trivial ((ap.start P).toks _))))))
theorem gp (w:E9) (x y:Int) (t u:Nat) (z:Int) (i:x.natAbs<1000000) (h:x*y=z):ab (env w) (j0 "int.__mul__" x y t u z):=by
 subst h
 refine aN λA s G f g P d=>?_
 show Fr _ _ (FM table (.builtin "int.__mul__" ⟨[.int x t,.int y u],[]⟩)) _ _ s
 rw[aE _ _ F.entry_int_mul]
 show Fr _ _ (if(Hi x>shortFactorBits&&Hi y>shortFactorBits&&Builtin.Int.intTooBig (Hi x+Hi y))=true then _ else _) _ _ s
 rw[if_neg (by
  have:¬(Hi x>shortFactorBits):=by
   unfold Hi shortFactorBits
   split
   .decide
   .rename_i a
    have b:x.natAbs≠0:=by simpa using a
    have e:x.natAbs.log2<20:=(Nat.log2_lt b).mpr (by omega)
    omega
  simp[this])]
 show Fr _ _ (mkInt (x*y)>>=_) _ _ s
 unfold mkInt
 exact E3 (E3 (Ia (E5 (E5 (d s.toks _ trivial ((ap.start P).toks _))))))
theorem eO (w:E9) (x y:Int) (t u:Nat) (z:Int) (b:y≠0) (h:x.fmod y=z):ab (env w) (j0 "int.__mod__" x y t u z):=by
 subst h
 refine aN λA s G d e P a=>?_
 show Fr _ _ (FM table (.builtin "int.__mod__" ⟨[.int x t,.int y u],[]⟩)) _ _ s
 rw[aE _ _ F.entry_int_mod]
 show Fr _ _ (if(y==0)=true then _ else _) _ _ s
 rw[if_neg (by simpa using b)]
 show Fr _ _ (mkInt (x.fmod y)>>=_) _ _ s
 unfold mkInt
 exact E3 (E3 (Ia (E5 (E5 (a s.toks _ trivial ((ap.start P).toks _))))))
theorem g9 (w:E9) (x y:Int) (t u:Nat) (z:Int) (d:y≠0) (b:y.natAbs<1073741824) (h:x.fdiv y=z):ab (env w) (j0 "int.__floordiv__" x y t u z):=by
 subst h
 refine aN λA s G e f P a=>?_
 show Fr _ _ (FM table (.builtin "int.__floordiv__" ⟨[.int x t,.int y u],[]⟩)) _ _ s
 rw[aE _ _ F.entry_int_floordiv]
 show Fr _ _ (if(y==0)=true then _ else _) _ _ s
 rw[if_neg (by simpa using d)]
 refine E3 (wpAny_roomForPylong (.inl (PyProof.noPylong_small b)) ?_)
 show Fr _ _ (mkInt (x.fdiv y)>>=_) _ _ s
 unfold mkInt
 exact E3 (E3 (Ia (E5 (E5 (a s.toks _ trivial ((ap.start P).toks _))))))
theorem g7 (w:E9) (x y:Int) (t u:Nat) (h:x=y):ab (env w) (gf "int.__eq__" x y t u true):=by
 refine aN λA s G b d P a=>?_
 show Fr _ _ (FM table (.builtin "int.__eq__" ⟨[.int x t,.int y u],[]⟩)) _ _ s
 rw[aE _ _ F.entry_int_eq]
 show Fr _ _ (Sem.pure (GS (.ret (.bool (x==y))))) _ _ s
 refine E5 ?_
 rw[show(x==y)=true from by simp;omega]
 exact a () _ trivial (ap.start P)
theorem g8 (w:E9) (x y:Int) (t u:Nat) (h:¬x=y):ab (env w) (gf "int.__eq__" x y t u false):=by
 refine aN λA s G b d P a=>?_
 show Fr _ _ (FM table (.builtin "int.__eq__" ⟨[.int x t,.int y u],[]⟩)) _ _ s
 rw[aE _ _ F.entry_int_eq]
 show Fr _ _ (Sem.pure (GS (.ret (.bool (x==y))))) _ _ s
 refine E5 ?_
 rw[show(x==y)=false from by simp;omega]
 exact a () _ trivial (ap.start P)
theorem gq (w:E9) (x y:Int) (t u:Nat) (h:x<y):ab (env w) (gf "int.__lt__" x y t u true):=by
 refine aN λA s G b d P a=>?_
 show Fr _ _ (FM table (.builtin "int.__lt__" ⟨[.int x t,.int y u],[]⟩)) _ _ s
 rw[aE _ _ F.entry_int_lt]
 show Fr _ _ (Sem.pure (GS (.ret (.bool (decide (x<y)))))) _ _ s
 refine E5 ?_
 rw[show(decide (x<y))=true from by simp;omega]
 exact a () _ trivial (ap.start P)
theorem gr (w:E9) (x y:Int) (t u:Nat) (h:¬x<y):ab (env w) (gf "int.__lt__" x y t u false):=by
 refine aN λA s G b d P a=>?_
 show Fr _ _ (FM table (.builtin "int.__lt__" ⟨[.int x t,.int y u],[]⟩)) _ _ s
 rw[aE _ _ F.entry_int_lt]
 show Fr _ _ (Sem.pure (GS (.ret (.bool (decide (x<y)))))) _ _ s
 refine E5 ?_
 rw[show(decide (x<y))=false from by simp;omega]
 exact a () _ trivial (ap.start P)
theorem dx (w:E9) (x y:Int) (t u:Nat) (h:y<x):ab (env w) (gf "int.__gt__" x y t u true):=by
 refine aN λA s G b d P a=>?_
 show Fr _ _ (FM table (.builtin "int.__gt__" ⟨[.int x t,.int y u],[]⟩)) _ _ s
 rw[aE _ _ F.entry_int_gt]
 show Fr _ _ (Sem.pure (GS (.ret (.bool (decide (x>y)))))) _ _ s
 refine E5 ?_
 rw[show(decide (x>y))=true from by simp;omega]
 exact a () _ trivial (ap.start P)
theorem dy (w:E9) (x y:Int) (t u:Nat) (h:¬y<x):ab (env w) (gf "int.__gt__" x y t u false):=by
 refine aN λA s G b d P a=>?_
 show Fr _ _ (FM table (.builtin "int.__gt__" ⟨[.int x t,.int y u],[]⟩)) _ _ s
 rw[aE _ _ F.entry_int_gt]
 show Fr _ _ (Sem.pure (GS (.ret (.bool (decide (x>y)))))) _ _ s
 refine E5 ?_
 rw[show(decide (x>y))=false from by simp;omega]
 exact a () _ trivial (ap.start P)
theorem gn (w:E9) (x y:Int) (t u:Nat) (h:x=y):ab (env w) (gf "int.__ne__" x y t u false):=by
 refine aN λA s G b d P a=>?_
 show Fr _ _ (FM table (.builtin "int.__ne__" ⟨[.int x t,.int y u],[]⟩)) _ _ s
 rw[aE _ _ F.entry_int_ne]
 show Fr _ _ (Sem.pure (GS (.ret (.bool (x !=y))))) _ _ s
 refine E5 ?_
 rw[show(x !=y)=false from by simp;omega]
 exact a () _ trivial (ap.start P)
theorem us (w:E9) (x y:Int) (t u:Nat) (h:¬x=y):ab (env w) (gf "int.__ne__" x y t u true):=by
 refine aN λA s G b d P a=>?_
 show Fr _ _ (FM table (.builtin "int.__ne__" ⟨[.int x t,.int y u],[]⟩)) _ _ s
 rw[aE _ _ F.entry_int_ne]
 show Fr _ _ (Sem.pure (GS (.ret (.bool (x !=y))))) _ _ s
 refine E5 ?_
 rw[show(x !=y)=true from by simp;omega]
 exact a () _ trivial (ap.start P)
section
variable {γ:Type}
theorem e9 {vs:List Fb} {n:Nat} {f:Array Fb->Array Fb} {vs':List Fb} (h:f vs.toArray=vs'.toArray):FJ f (ae vs n)=ae vs' (if vs'.length=vs.length then n else n+1):=by
 unfold ae FJ
 simp only[h]
 by_cases e:vs'.length=vs.length<;>simp[e]
noncomputable def iP (g:γ->Fb) (l:Nat) (a:List γ) (n:Nat) (x:γ):af:={d:=1,α:=Unit,c:=.builtin "list.append" ⟨[.ref l,g x],[]⟩,need:=[(l,ae (a.map g) n)],r:=λ_=>.ok (.ret .none),put:=λ_=>[ae ((a++[x]).map g) (n+1)]}
theorem mG (g:γ->Fb) (w:E9) (l:Nat) (a:List γ) (n:Nat) (x:γ) (j:a.length<=100000):ab (env w) (iP g l a n x):=by
 refine aN λA s G i k P h=>?_
 have f:s.heap.get? l=some (ae (a.map g) n):=P.has (l,_) E2
 show Fr _ _ (FM table (.builtin "list.append" ⟨[.ref l,g x],[]⟩)) _ _ s
 rw[aE _ _ F.entry_list_append]
 refine E3 (E5 (a:=(Fs l,g x)) ?_)
 refine E3 (GV f rfl ?_ (by simp[Gw];omega) (by simp[Gw];omega))
 refine E5 ?_
 have e:FJ (·.push (g x)) (ae (a.map g) n)=ae ((a++[x]).map g) (n+1):=by
  rw[e9 (vs':=(a++[x]).map g) (by simp)]
  simp
 have d:=(ap.start P).set (FJ (·.push (g x))) (by exact E2) (by show(FJ (·.push (g x)) (ae (a.map g) n)).isFreed=false;rw[e];rfl)
 have b:ap s {s with heap:=s.heap.update l (FJ (·.push (g x)))} (iP g l a n x).own [(l,FJ (·.push (g x)) (ae (a.map g) n))]:=d
 rw[e]at b
 exact h () _ trivial b
noncomputable def sf (g:γ->Fb) (l:Nat) (a:List γ) (n:Nat) (k:Int) (t:Nat) (x:γ):af:={d:=1,α:=Unit,c:=.builtin "list.__getitem__" ⟨[.ref l,.int k t],[]⟩,need:=[(l,ae (a.map g) n)],r:=λ_=>.ok (.ret (g x)),put:=λ_=>[ae (a.map g) n]}
theorem Cw (g:γ->Fb) (w:E9) (l:Nat) (a:List γ) (n:Nat) (k:Int) (t:Nat) (i:Nat) (x:γ) (hk:k=↑i) (h:a[i]? =some x) (j:a.length<=100000):ab (env w) (sf g l a n k t x):=by
 refine aN λA s G e m P b=>?_
 have d:s.heap.get? l=some (ae (a.map g) n):=P.has (l,_) E2
 show Fr _ _ (FM table (.builtin "list.__getitem__" ⟨[.ref l,.int k t],[]⟩)) _ _ s
 rw[aE _ _ F.entry_list_getitem]
 have f:i<a.length:=(Fa.mp h).1
 show Fr _ _ (GH (.int k t)>>=_) _ _ s
 refine E3 (wpAny_listSubscript_int (fitsIndex_of (by omega) (by omega)) ?_)
 subst hk
 show Fr _ _ ((seqItemAt l i>>=λr=>pure (r.map (i, ·)))>>=_) _ _ s
 refine E3 (E3 (wpAny_seqItemAt d rfl (E5 ?_)))
 rw[Fv,Fl,h]
 refine E5 ?_
 exact b () _ trivial (ap.start P)
noncomputable def r6 (g:γ->Fb) (l:Nat) (a:List γ) (n:Nat) (t:Nat) (x:γ):af:={d:=1,α:=Unit,c:=.builtin "list.__getitem__" ⟨[.ref l,.int (-1) t],[]⟩,need:=[(l,ae ((a++[x]).map g) n)],r:=λ_=>.ok (.ret (g x)),put:=λ_=>[ae ((a++[x]).map g) n]}
noncomputable def nC (g:γ->Fb) (l:Nat) (a:List γ) (n:Nat) (k:Int) (t i:Nat) (x:γ):af:={d:=1,α:=Unit,c:=.builtin "list.__setitem__" ⟨[.ref l,.int k t,g x],[]⟩,need:=[(l,ae (a.map g) n)],r:=λ_=>.ok (.ret .none),put:=λ_=>[ae ((a.set i x).map g) n]}
theorem zR (g:γ->Fb) (w:E9) (l:Nat) (a:List γ) (n:Nat) (k:Int) (t:Nat) (i:Nat) (x:γ) (hk:k=↑i) (j:i<a.length) (o:a.length<=100000):ab (env w) (nC g l a n k t i x):=by
 refine aN λA s G m p P f=>?_
 have h:s.heap.get? l=some (ae (a.map g) n):=P.has (l,_) E2
 show Fr _ _ (FM table (.builtin "list.__setitem__" ⟨[.ref l,.int k t,g x],[]⟩)) _ _ s
 rw[aE _ _ F.entry_list_setitem]
 show Fr _ _ (GH (.int k t)>>=_) _ _ s
 refine E3 (wpAny_listSubscript_int (fitsIndex_of (by omega) (by omega)) ?_)
 subst hk
 show Fr _ _ ((seqItemAt l i>>=λr=>pure (r.map (i, ·)))>>=_) _ _ s
 refine E3 (E3 (wpAny_seqItemAt h rfl (E5 ?_)))
 rw[Fv,Fl,Fh j]
 refine E3 (wpAny_setSeqItemAt h rfl (E5 ?_))
 have e:FJ (·.setIfInBounds i (g x)) (ae (a.map g) n)=ae ((a.set i x).map g) n:=by
  rw[e9 (vs':=(a.set i x).map g) (by simp[List.map_set])]
  simp
 have d:=(ap.start P).set (FJ (·.setIfInBounds i (g x))) (by exact E2) (by show(FJ (·.setIfInBounds i (g x)) (ae (a.map g) n)).isFreed=false;rw[e];rfl)
 have b:ap s {s with heap:=s.heap.update l (FJ (·.setIfInBounds i (g x)))} (nC g l a n i t i x).own [(l,FJ (·.setIfInBounds i (g x)) (ae (a.map g) n))]:=d
 rw[e]at b
 exact f () _ trivial b
end
noncomputable def f7 (id:String) (l m:List Nat) (t u:Nat) (b:Bool):af:={d:=1,α:=Unit,c:=.builtin id ⟨[.str ⟨⟨l⟩⟩ t,.str ⟨⟨m⟩⟩ u],[]⟩,need:=[],r:=λ_=>.ok (.ret (.bool b))}
theorem lw (w:E9) (l m:List Nat) (t u:Nat) (b:Bool) (h:(l==m)=b):ab (env w) (f7 "str.__eq__" l m t u b):=by
 refine aN λA s G d e P a=>?_
 show Fr _ _ (FM table (.builtin "str.__eq__" ⟨[.str ⟨⟨l⟩⟩ t,.str ⟨⟨m⟩⟩ u],[]⟩)) _ _ s
 rw[aE _ _ F.entry_str_eq]
 show Fr _ _ (Sem.pure (GS (.ret (.bool (l==m))))) _ _ s
 refine E5 ?_
 rw[h]
 exact a () _ trivial (ap.start P)
theorem vH (w:E9) (c d t u:Nat) (h:c=d):ab (env w) (f7 "str.__eq__" [c] [d] t u true):=lw _ _ _ _ _ _ (by simp[h])
theorem EA (w:E9) (c d t u:Nat) (h:¬c=d):ab (env w) (f7 "str.__eq__" [c] [d] t u false):=lw _ _ _ _ _ _ (by simp[h])
theorem xN (w:E9) (l m:List Nat) (t u:Nat) (h:l=m):ab (env w) (f7 "str.__eq__" l m t u true):=lw _ _ _ _ _ _ (by simp[h])
theorem jM (w:E9) (l m:List Nat) (t u:Nat) (h:¬l=m):ab (env w) (f7 "str.__eq__" l m t u false):=lw _ _ _ _ _ _ (by simp[h])
theorem m8 (l:List Nat) (c i:Nat):HE ⟨⟨l⟩⟩ ⟨⟨[c]⟩⟩ i=(l[i]? ==some c):=by
 show(((⟨l⟩:Array Nat).extract i (i+1))==(⟨[c]⟩:Array Nat))=_
 have e:(⟨l⟩:Array Nat).extract i (i+1)=⟨(l[i]?).toList⟩:=by
  apply Array.ext'
  simp only[Array.toList_extract,List.extract_eq_take_drop,Nat.add_sub_cancel_left]
  cases h:l[i]? with
  | none=>simp at h;simp[h]
  | some x=>
   obtain⟨a,rfl⟩:=Fa.mp h
   rw[Hx a];rfl
 rw[e]
 cases h:l[i]? with
 | none=>rfl
 | some x=>
  show((⟨[x]⟩:Array Nat)==⟨[c]⟩)=_
  by_cases q:x=c
  .subst q;simp
  .rw [beq_eq_false_iff_ne.mpr (by simpa using q)]
   have:(some x==some c)=false:=by simpa using q
   rw[this]
noncomputable def ez (l:List Nat) (c n:Nat) (st:Array Nat×Nat) (i:Nat):Array Nat×Nat:=
 if(decide (st.1.size<1)&&decide (st.2<=i)&&decide (i+1<=n)&&HE ⟨⟨l⟩⟩ ⟨⟨[c]⟩⟩ i)=true then(st.1.push i,i+1)else(st.1,st.2)
theorem Ae (l:List Nat) (c n:Nat):HM ⟨⟨l⟩⟩ ⟨⟨[c]⟩⟩ 0 n 1=((HW 0 (n+1)).foldl (ez l c n) (#[],0)).1.toList:=by
 unfold HM
 dsimp only
 rw[G7]
 simp only[Std.Legacy.Range.size,Nat.sub_zero,Nat.add_sub_cancel,Nat.div_one]
 have k:∀(a:List Nat) (st:Array Nat×Nat),(forIn (m:=Id) a st λi r=>(if(decide (r.1.size<1)&&decide (r.2<=i)&&decide (i+(⟨⟨[c]⟩⟩:Str).length<=n)&&HE ⟨⟨l⟩⟩ ⟨⟨[c]⟩⟩ i)=true then(pure (.yield (r.1.push i,i+(⟨⟨[c]⟩⟩:Str).length)):Id _)else pure (.yield (r.1,r.2))))=a.foldl (ez l c n) st:=by
  intro a
  induction a with
  | nil=>intro st;rfl
  | cons x a b=>
   intro st
   rw[List.forIn_cons,HY]
   unfold ez
   show Id.run _=_
   by_cases h:(decide (st.1.size<1)&&decide (st.2<=x)&&decide (x+1<=n)&&HE ⟨⟨l⟩⟩ ⟨⟨[c]⟩⟩ x)=true
   .rw [if_pos h]
    rw[show(if(decide (st.1.size<1)&&decide (st.2<=x)&&decide (x+(⟨⟨[c]⟩⟩:Str).length<=n)&&HE ⟨⟨l⟩⟩ ⟨⟨[c]⟩⟩ x)=true then(pure (ForInStep.yield (st.1.push x,x+(⟨⟨[c]⟩⟩:Str).length)):Id _)else pure (.yield (st.1,st.2)))=pure (.yield (st.1.push x,x+1))from if_pos h]
    exact b _
   .rw [if_neg h]
    rw[show(if(decide (st.1.size<1)&&decide (st.2<=x)&&decide (x+(⟨⟨[c]⟩⟩:Str).length<=n)&&HE ⟨⟨l⟩⟩ ⟨⟨[c]⟩⟩ x)=true then(pure (ForInStep.yield (st.1.push x,x+(⟨⟨[c]⟩⟩:Str).length)):Id _)else pure (.yield (st.1,st.2)))=pure (.yield (st.1,st.2))from if_neg h]
    exact b _
 exact congrArg (λx:Array Nat×Nat=>x.1.toList) (k (HW 0 (n+1)) (#[],0))
theorem tq (l:List Nat) (c n:Nat):∀(k i:Nat),(∀j,i<=j->j<n->l[j]? ≠some c)->(HW i k).foldl (ez l c n) (#[],0)=(#[],0)
 | 0,_,_=>rfl
 | k+1,i,h=>by
  rw[HP,HY]
  have e:ez l c n (#[],0) i=(#[],0):=by
   unfold ez
   rw[if_neg]
   rw[m8]
   intro q
   simp only[Bool.and_eq_true,decide_eq_true_eq,beq_iff_eq]at q
   exact h i (FO _) (by omega) q.2
  rw[e]
  exact tq l c n k (i+1) λj b a=>h j (by omega) a
theorem tr (l:List Nat) (c n:Nat):∀(k i:Nat) (st:Array Nat×Nat),st.1.size≠0->((HW i k).foldl (ez l c n) st).1.size≠0
 | 0,_,_,h=>h
 | k+1,i,st,h=>by
  rw[HP,HY]
  refine tr l c n k (i+1) _ ?_
  unfold ez
  split
  .simp
  .exact h
theorem tp (l:List Nat) (c n:Nat) (j:Nat) (a:j<n) (h:l[j]? =some c):∀(k i:Nat),i<=j->j<i+k->((HW i k).foldl (ez l c n) (#[],0)).1.size≠0
 | 0,i,b,d=>by omega
 | k+1,i,b,d=>by
  rw[HP,HY]
  by_cases q:l[i]? =some c/\i<n
  .refine tr l c n k (i+1) _ ?_
   unfold ez
   rw[if_pos (by rw[m8];simp[q.1];omega)]
   simp
  .have e:ez l c n (#[],0) i=(#[],0):=by
    unfold ez
    rw[if_neg]
    rw[m8]
    intro z
    simp only[Bool.and_eq_true,decide_eq_true_eq,beq_iff_eq]at z
    exact q ⟨z.2,by omega⟩
   rw[e]
   have:i≠j:=λz=>q (z▸⟨h,a⟩)
   exact tp l c n j a h k (i+1) (by omega) (by omega)
theorem Ad (l:List Nat) (c:Nat):(!(HM ⟨⟨l⟩⟩ ⟨⟨[c]⟩⟩ 0 l.length 1).isEmpty)=decide (c∈l):=by
 rw[Ae]
 by_cases h:c∈l
 .rw [decide_eq_true h]
  obtain⟨j,a,e⟩:=Iu.mp h
  have:=tp l c l.length j a (by rw[Fh a,e]) (l.length+1) 0 (Gi _) (by omega)
  simpa using this
 .rw [decide_eq_false h,tq l c l.length (l.length+1) 0 λj _ _ e=>h (FD e)]
  rfl
theorem q6 (w:E9) (l:List Nat) (c t u:Nat) (b:Bool) (h:decide (c∈l)=b):ab (env w) (f7 "str.__contains__" l [c] t u b):=by
 refine aN λA s G d e P a=>?_
 show Fr _ _ (FM table (.builtin "str.__contains__" ⟨[.str ⟨⟨l⟩⟩ t,.str ⟨⟨[c]⟩⟩ u],[]⟩)) _ _ s
 rw[aE _ _ F.entry_str_contains]
 show Fr _ _ (Sem.pure (GS (.ret (.bool !(HM ⟨⟨l⟩⟩ ⟨⟨[c]⟩⟩ 0 l.length 1).isEmpty)))) _ _ s
 refine E5 ?_
 rw[Ad,h]
 exact a () _ trivial (ap.start P)
theorem xL (w:E9) (l:List Nat) (c t u:Nat) (h:c∈l):ab (env w) (f7 "str.__contains__" l [c] t u true):=q6 _ _ _ _ _ _ (by simp[h])
theorem xM (w:E9) (l:List Nat) (c t u:Nat) (h:¬c∈l):ab (env w) (f7 "str.__contains__" l [c] t u false):=q6 _ _ _ _ _ _ (by simp[h])
theorem pN {w:E9} {A:Around} {G:HI->Fe->Prop} {s:Fe} {E:Fb->Fe->Prop} {l:List Nat} (a:l.length<=1000) (h:G (.ok (.ret (.str ⟨⟨l⟩⟩ s.toks))) {s with toks:=s.toks+1}):
 Fr (FT pq w) A (retStr ⟨⟨l⟩⟩) (mr G) E s:=by
 refine E3 ?_
 unfold mkStr
 rw[if_neg (by show¬((⟨l⟩:Array Nat).size>Gw);simp[Gw];omega)]
 exact E3 (Ia (E5 (E5 h)))
noncomputable def nv (l:List Nat) (t:Nat) (k:Int) (u:Nat) (m:List Nat):af:={d:=1,α:=Nat,c:=.builtin "str.__getitem__" ⟨[.str ⟨⟨l⟩⟩ t,.int k u],[]⟩,need:=[],r:=λv=>.ok (.ret (.str ⟨⟨m⟩⟩ v))}
theorem q0 (w:E9) (l:List Nat) (t:Nat) (k:Int) (u c:Nat) (b:(decide (k< -(2^63:Int)) || decide (k>=2^63))=false) (h:(seqIndex? k l.length).bind (l[·]?)=some c):ab (env w) (nv l t k u [c]):=by
 refine aN λA s G d f P a=>?_
 show Fr _ _ (FM table (.builtin "str.__getitem__" ⟨[.str ⟨⟨l⟩⟩ t,.int k u],[]⟩)) _ _ s
 rw[aE _ _ F.entry_str_getitem]
 show Fr _ _ (if(decide (k< -(2^63:Int)) || decide (k>=2^63))=true then _ else
  match(seqIndex? k (⟨l⟩:Array Nat).size).bind ((⟨l⟩:Array Nat)[·]?)with
  | some c=>retStr ⟨#[c]⟩
  | none=>_) _ _ s
 rw[b,if_neg Fi]
 have e:(seqIndex? k (⟨l⟩:Array Nat).size).bind ((⟨l⟩:Array Nat)[·]?)=some c:=by simpa using h
 rw[e]
 exact pN (l:=[c]) (by simp) (a s.toks _ trivial ((ap.start P).toks _))
theorem gG (w:E9) (l:List Nat) (t:Nat) (k:Int) (u i c:Nat) (hk:k=↑i) (h:l[i]? =some c) (b:l.length<=1000):ab (env w) (nv l t k u [c]):=by
 have a:i<l.length:=(Fa.mp h).1
 refine q0 w l t k u c ?_ ?_
 .simp;omega
 .subst hk
  unfold seqIndex?
  simp only[show¬((i:Int)<0)from by omega,if_false]
  rw[if_pos (by simp;omega)]
  simpa using h
theorem qZ (w:E9) (l:List Nat) (t u c:Nat) (h:l.getLast? =some c) (b:l.length<=1000):ab (env w) (nv l t (-1) u [c]):=by
 refine q0 w l t (-1) u c (by decide) ?_
 have a:l≠[]:=by rintro rfl;cases h
 have hp:0<l.length:=He.mpr a
 unfold seqIndex?
 simp only[show((-1:Int)<0)from by decide,if_true]
 rw[if_pos (by simp;omega)]
 have:((-1:Int)+↑l.length).toNat=l.length-1:=by omega
 rw[Option.bind_some,this,<-List.getLast?_eq_getElem?]
 exact h
noncomputable def yq (l m:List Nat) (t u:Nat):af:={d:=1,α:=Nat,c:=.builtin "str.__add__" ⟨[.str ⟨⟨l⟩⟩ t,.str ⟨⟨m⟩⟩ u],[]⟩,need:=[],r:=λv=>.ok (.ret (.str ⟨⟨l++m⟩⟩ v))}
theorem q7 (w:E9) (l:List Nat) (c t u:Nat) (d:l.length<=900):ab (env w) (yq l [c] t u):=by
 refine aN λA s G b f P a=>?_
 show Fr _ _ (FM table (.builtin "str.__add__" ⟨[.str ⟨⟨l⟩⟩ t,.str ⟨⟨[c]⟩⟩ u],[]⟩)) _ _ s
 rw[aE _ _ F.entry_str_add]
 show Fr _ _ (if(true&&(⟨l⟩:Array Nat).size==0)=true then(do rule "str.__add__.left-empty";ret (.str ⟨⟨[c]⟩⟩ u))else retStr ⟨(⟨l⟩:Array Nat)++(⟨[c]⟩:Array Nat)⟩) _ _ s
 by_cases h:l=[]
 .subst h
  refine E3 (GZ (E5 ?_))
  exact a u _ trivial (ap.start P)
 .rw [if_neg (by simpa using h)]
  have e:(⟨l⟩:Array Nat)++(⟨[c]⟩:Array Nat)=⟨l++[c]⟩:=by simp
  rw[e]
  exact pN (by simp;omega) (a s.toks _ trivial ((ap.start P).toks _))
noncomputable def yo (l:List Nat) (t:Nat):af:={d:=1,α:=Nat,c:=.builtin "str.__iter__" ⟨[.str ⟨⟨l⟩⟩ t],[]⟩,need:=[],r:=λa=>.ok (.ret (.ref a)),new:=λa=>[(a,cq l t 0)]}
theorem fL (w:E9) (l:List Nat) (t:Nat) (a:∀c∈l,c<128):ab (env w) (yo l t):=by
 refine aN λA s G b d P h=>?_
 show Fr _ _ (FM table (.builtin "str.__iter__" ⟨[.str ⟨⟨l⟩⟩ t],[]⟩)) _ _ s
 rw[aE _ _ F.entry_str_iter]
 have e:(true&&(⟨l⟩:Array Nat).all (· <128))=true:=by simpa using a
 show Fr _ _ (HV (if(true&&(⟨l⟩:Array Nat).all (· <128))=true then"str_ascii_iterator" else"str_iterator") [.str ⟨⟨l⟩⟩ t,FV 0]>>=_) _ _ s
 rw[if_pos e]
 refine E3 ?_
 unfold HV
 refine Gg (E5 ?_)
 exact h s.heap.objs.size _ trivial (((ap.start P).push (cq l t 0) rfl))
noncomputable def yM (a:Nat) (k:Fb):af:={d:=20,α:=Nat,c:=.call (.ref 894) ⟨[.ref a,k],[]⟩,need:=[],r:=λt=>.ok (.ret (.int 0 t))}
theorem Bo (w:E9) (a:Nat) (k:Fb):ab (env w) (yM a k):=ct (λ_ b=>.seg 0x1001001001001000000001 λO=>b (O 3) (by trivial) [] [] [])
noncomputable def aa (m:List (Nat×Nat×Int×Nat)) (c:Nat):Int:=((look? m c).map (·.1)).getD 0
noncomputable def sB (P:E8) (d a:Nat) (m:List (Nat×Nat×Int×Nat)) (e c t:Nat):af:={d:=30,α:=Nat,c:=.builtin "dict.__getitem__" ⟨[.ref d,.str ⟨⟨[c]⟩⟩ t],[]⟩,need:=[(d,dO P (.ref 1093) (some a) iv m e)],r:=λu=>.ok (.ret (.int (aa m c) u)),put:=λ_=>[dO P (.ref 1093) (some a) iv m e]}
noncomputable def Bp (d:Nat) (k:Fb):Sem Gq:=do
 if(<-typeOf (.ref d)) != .type "dict" then
  if let some r<-callSpecial? (.ref d) "__missing__" [k]then rule "dict.__getitem__.missing-hook";return<-ret r
 rule "dict.__getitem__.keyerror"
 raiseNew (<-newExc (.type "KeyError") [k])
noncomputable def rY (P:E8) (d a:Nat) (m:List (Nat×Nat×Int×Nat)) (e c t:Nat):af:={d:=30,α:=Nat,c:=.builtin "dict.__getitem__" ⟨[.ref d,.str ⟨⟨[c]⟩⟩ t],[]⟩,need:=[(d,dO P (.ref 1093) (some a) iv m e)],r:=λu=>.ok (.ret (.int 0 u)),put:=λ_=>[dO P (.ref 1093) (some a) iv m e]}
noncomputable def z8 {w:E9} {d a:Nat} {m:List (Nat×Nat×Int×Nat)} {e c t:Nat}:bV (env w) (rY w.params d a m e c t):=
 .seg 4097 λO=>
 .use _ (Bo w d (GT {cps:={toList:=[c]}} t)) [] [] λx h=>
 .seg 0 λb=>
 .fin (x) h [0] [] []
theorem vT {w:E9} {d:Type} {t:Sem d} {b:Ctx} {p:Pos} {s:Fe} {Q:d->Pos->Fe->Prop} {E:Fb->Pos->Fe->Prop}
 (h:Fr (FT pq w) (ia b) t (λa s=>∀p,Q a p s) (λv s=>∀p,E v p s) s):wp (FT pq w) b t Q E p s:=
 Fu _ _ _ (λ_ p _ h=>h p) (λ_ p _ h=>h p) _ _ (h b p (kB b))
theorem dF (w:E9) (d a:Nat) (m:List (Nat×Nat×Int×Nat)) (b c t:Nat):ab (env w) (sB w.params d a m b c t):=by
 intro g l f _ o p s R P i
 have f:g.handled=none:=f.resolve_left (λz=>nomatch z)
 have y:s.heap.get? d=some (dO w.params (.ref 1093) (some a) iv m b):=P.has (d,_) E2
 have n:1228<=d:=P.ge (d,_) E2
 rw[F3,l]
 show wp _ _ (FM table (.builtin "dict.__getitem__" ⟨[.ref d,.str ⟨⟨[c]⟩⟩ t],[]⟩)) _ _ p s
 rw[aE _ _ F.entry_dict_getitem]
 show wp _ _ (dictGet d (.str ⟨⟨[c]⟩⟩ t)>>=_) _ _ p s
 rw[E7]
 refine vT (kL y λB=>?_)
 cases j:look? m c with
 | some x=>
  have e:(x.1:Int)=aa m c:=by unfold aa;rw[j];rfl
  show R (.ok (.ret (.int x.1 x.2))) _
  rw[e]
  exact i x.2 _ trivial ((ap.start P).toks _)
 | none=>
  have e:(0:Int)=aa m c:=by unfold aa;rw[j];rfl
  show wp _ _ (Builtin.Dict.missed d (.str ⟨⟨[c]⟩⟩ t)>>=_) _ _ B _
  rw[E7]
  refine vT (wpAny_missed_other (eL n) λC=>?_)
  have r:dQ 30 g:=o
  have E:=(ap.start P).toks (s.toks+1)
  have k:d4 (env w).kt (rY w.params d a m b c t).all {s with toks:=s.toks+1}:=⟨P.base,P.has,P.nd,P.hi,P.ge,P.lo⟩
  have q:=qw (Bp d (.str ⟨⟨[c]⟩⟩ t)) (z8) (by kernel_rfl) g f (λ_ z=>nomatch z) r C {s with toks:=s.toks+1} R k (λu D _ A=>?_)
  .exact Fu _ _ _ (λfin p s h=>h.2) (λv p s h=>h.2) _ _ q
  .have:=i u D trivial ⟨⟨A.same.gens,A.same.drawn,A.same.os⟩,A.keep,A.has,A.frs,A.nd,A.size⟩
   rw[show(sB w.params d a m b c t).r u=.ok (.ret (.int (aa m c) u))from rfl,<-e]at this
   exact this
noncomputable def y5 (P:E8) (d:Nat) (a:Fb) (b:Option Addr) (m:List (Nat×Nat×Int×Nat)) (e c t f:Nat):af:={d:=1,α:=Nat,c:=.builtin "dict.get" ⟨[.ref d,.str ⟨⟨[c]⟩⟩ t,.int 0 f],[]⟩,need:=[(d,dO P a b iv m e)],r:=λu=>.ok (.ret (.int (aa m c) u)),put:=λ_=>[dO P a b iv m e]}
theorem mu (w:E9) (d:Nat) (b:Fb) (e:Option Addr) (m:List (Nat×Nat×Int×Nat)) (f c t a:Nat):ab (env w) (y5 w.params d b e m f c t a):=by
 intro n i j _ k p s F P g
 refine DV iv w d b e m f c t (.int 0 a) (.int (aa m c) (((look? m c).map (·.2)).getD a)) ?_ n i (.inr (j.resolve_left (λz=>nomatch z))) (λ_ z=>nomatch z) k p s F P (λx l h A=>g _ l trivial A)
 unfold aa
 cases look? m c<;>rfl
section
variable (w:E9) (d:Nat) (cls:Fb) (dd:Option Addr) (ep c t:Nat)
theorem kG (m:List (Nat×Nat×Nat)) (v:Nat) (h:look? m c=some v):ab (env w) (lH .ref w.params d (.type "dict") dd m ep c t [] (.ref v)):=vg _ _ _ _ _ _ _ _ _ _ rfl (by rw[h];rfl)
theorem DW (m:List (Nat×Nat×Nat)) (h:look? m c=none):ab (env w) (lH .ref w.params d (.type "dict") dd m ep c t [] .none):=vg _ _ _ _ _ _ _ _ _ _ rfl (by rw[h];rfl)
end
noncomputable def es (P:E8) (l:List Nat) (t:Nat) (v:Fb):E6:=⟨PyData.keyHash P ⟨⟨l⟩⟩,.str ⟨⟨l⟩⟩ t,v⟩
noncomputable def oD (es:List E6) (e:Nat):Obj:={cls:=.type "dict",data:=.dict es.toArray e}
noncomputable def bd (s:Nat):Obj:={cls:=.ref 1213,dict:=some s,data:=.plain}
noncomputable def be (P:E8) (k:Nat×Nat×Nat×Nat) (a:Nat) (r:Fb) (p n:Int×Nat):Obj:=
 oD [es P [95,110,111,100,101,50,105,110,102,111] k.1 (.ref a),es P [95,114,101,97,100,121,95,110,111,100,101,115] k.2.1 r,es P [95,110,112,97,115,115,101,100,111,117,116] k.2.2.1 (.int p.1 p.2),es P [95,110,102,105,110,105,115,104,101,100] k.2.2.2 (.int n.1 n.2)] 4
noncomputable def yt (P:E8):af:={d:=40,α:=(Nat×Nat×Nat)×(Nat×Nat×Nat×Nat)×Nat×Nat,c:=.call (.ref 1213) ⟨[],[]⟩,need:=[],r:=λx=>.ok (.ret (.ref x.1.1)),new:=λx=>[(x.1.1,bd x.1.2.1),(x.1.2.1,be P x.2.1 x.1.2.2 .none (0,x.2.2.1) (0,x.2.2.2)),(x.1.2.2,dO P (.type "dict") none .ref [] 0)]}
theorem xV (w:E9):ab (env w) (yt w.params):=ct (λ_ a=>.seg 0x2004004004000003000000000003000003001000003001000000000003002004004004000003000000000003000003001000003001000000000003002004004004000003000000000003000003001000003001000000000003002004004004000003000000000003000003001000003001000000000003002001001001001001000000000001000000000000001000001000000000000000000000000001000000000000000000000001000000000001000001000000001 λO=>a (((O 1,O 0,O 5),(O 7,O 9,O 12,O 15),O 10,O 13)) (by trivial) [] [2,2,0] [])
noncomputable def cW (o:Obj):FuncData:=match o.data with|.func f=>f | _=>default
noncomputable def cX (o:Obj):List Stmt:=match(cW o).body with|.stmts b=>b | _=>[]
noncomputable def dY (o:Obj) (fa f:Nat):Env:={scope:=(cW o).scope,locals:=f,globals:=3,cells:=[],qual:=(cW o).qualname++Str.ofString ".<locals>.",func:=some fa,code:=(cW o).code,frame:=some f,builtins:=0}
noncomputable def aA (l:List Stmt) (i:Nat):Stmt:=List.rec (motive:=λ_=>Nat->Stmt) (λ_=>.Pass default) (λx _ a i=>Nat.rec (motive:=λ_=>Stmt) x (λk _=>a k) i) l i
noncomputable def aY (s:Stmt):List Stmt:=(sP s).2.2.1
noncomputable def cw (s:Stmt):List Stmt:=(sP s).2.2.2.1
noncomputable def bI (s:Stmt):Expr:=(sP s).2.1
noncomputable def bR (s:Stmt) (i:Fb) (env:Env):Code:=.forLoop (sP s).1 i (aY s) (cw s) env
noncomputable def qb (s:Stmt) (env:Env):Code:=.whileLoop (bI s) (aY s) (cw s) env
noncomputable def bD (es:List E6) (e:Nat):Obj:={cls:=.type "frame",data:=.dict es.toArray e}
noncomputable def n9 (node:Fb) (n:Int×Nat) (s d:Nat):Obj:={cls:=.ref 1116,dict:=some d,data:=.plain,slots:= #[some node,some (.int n.1 n.2),some (.ref s)]}
noncomputable def yX (node:Fb):af:={d:=40,α:=Nat×Nat×Nat×Nat,c:=.call (.ref 1116) ⟨[node],[]⟩,need:=[],r:=λx=>.ok (.ret (.ref x.1)),new:=λx=>[(x.1,n9 node (0,x.2.1) x.2.2.1 x.2.2.2),(x.2.2.1,ae [] 0)]}
theorem CO (w:E9) (c t:Nat):ab (env w) (yX (.str ⟨⟨[c]⟩⟩ t)):=ct (λ_ a=>.seg 0x3000003000000001000000000003000000001000001000000000000000003000003001000003001000000000003002002000002000000001000000000002000000001000001000000000000000002000002001000002001000000000002001002000002000000001000000000002000000001000001000000000000000002000002001000002001000000000002001001001001001001001000000001000000000000001000001000000000000000000000000000000000000000001000000000000000000000001000000000001000001000000001 λO=>a (O 1,O 6,O 8,O 0) (by trivial) [] [2,0] [])
noncomputable def yY (P:E8) (S s:Nat) (k:Nat×Nat×Nat×Nat) (n:Nat) (r:Fb) (p b:Int×Nat) (m:List (Nat×Nat×Nat)) (e c t a:Nat):af:={d:=40,α:=Unit,c:=.call (.ref 1156) ⟨[.ref S,.str ⟨⟨[c]⟩⟩ t],[]⟩,need:=[(S,bd s),(s,be P k n r p b),(n,dO P (.type "dict") none .ref m e)],r:=λx=>.ok (.ret (.ref a)),put:=λ_=>[bd s,be P k n r p b,dO P (.type "dict") none .ref m e]}
theorem uG (w:E9) (S s:Nat) (k:Nat×Nat×Nat×Nat) (n:Nat) (r:Fb) (p d:Int×Nat) (m:List (Nat×Nat×Nat)) (e c t a:Nat) (h:look? m c=some a):ab (env w) (yY w.params S s k n r p d m e c t a):=ct (λ_ f=>.seg 0x4001001004004004004003000002002000000000002001000000000002001001001001001001000000001 λO=>.use _ (kG w n none e c t m a h) [3] [] λx b=>.seg 33562626 λg=>f () b [2,2,0] [] [])
noncomputable def yP (P:E8) (S s:Nat) (k:Nat×Nat×Nat×Nat) (n:Nat) (r:Fb) (p a:Int×Nat) (m:List (Nat×Nat×Nat)) (e c t:Nat):af:={d:=45,α:=Nat×Nat×Nat×Nat×Nat,c:=.call (.ref 1156) ⟨[.ref S,.str ⟨⟨[c]⟩⟩ t],[]⟩,need:=[(S,bd s),(s,be P k n r p a),(n,dO P (.type "dict") none .ref m e)],r:=λx=>.ok (.ret (.ref x.1)),put:=λx=>[bd s,be P k n r p a,dO P (.type "dict") none .ref (aw m c t x.1) x.2.2.2.2],new:=λx=>[(x.1,n9 (.str ⟨⟨[c]⟩⟩ t) (0,x.2.1) x.2.2.1 x.2.2.2.1),(x.2.2.1,ae [] 0)]}
theorem Bx (w:E9) (S s:Nat) (k:Nat×Nat×Nat×Nat) (n:Nat) (r:Fb) (p b:Int×Nat) (m:List (Nat×Nat×Nat)) (e c t:Nat) (h:look? m c=none) (q:m.length<=100):ab (env w) (yP w.params S s k n r p b m e c t):=ct (λ_ f=>.seg 0x4001001004004004004003000002002000000000002001000000000002001001001001001001000000001 λO=>.use _ (DW w n none e c t m h) [3] [] λu a=>.seg 137438961666 λg=>.use _ (CO w c t) [] [] λx l=>.seg 0x3001003003004006000005005000000000005001000000000005004 λi=>.use _ (gH w n none e c t m (x.1) (by omega)) [2] [] λd o=>.seg 67125252 λj=>f (x.1,x.2.1,x.2.2.1,x.2.2.2,d) a [4,4,0] [0,0] [])
section
variable {γ:Type} (g:γ->Fb) (w:E9) (l:Nat) (n t:Nat) (k:Int) (i:Nat)
theorem t6 (a:List γ) (x:γ) (h:a.length<=100000):ab (env w) (iP g l a n x):=mG _ _ _ _ _ _ h
theorem dw (a:List (Nat×Nat)) (x:Nat×Nat) (h:a.length<=100000):ab (env w) (iP cv l a n x):=mG _ _ _ _ _ _ h
theorem jb (a:List (Int×Nat)) (x:Int×Nat) (h:a.length<=100000):ab (env w) (iP iv l a n x):=mG _ _ _ _ _ _ h
theorem oM (a:List Nat) (x:Nat) (h:a.length<=100000):ab (env w) (iP .ref l a n x):=mG _ _ _ _ _ _ h
theorem bH (a:List γ) (x:γ) (hk:k=↑i) (b:a[i]? =some x) (h:a.length<=100000):ab (env w) (sf g l a n k t x):=Cw _ _ _ _ _ _ _ _ _ hk b h
theorem tY (a:List γ) (x:γ) (hk:k=↑i) (h:i<a.length) (b:a.length<=100000):ab (env w) (nC g l a n k t i x):=zR _ _ _ _ _ _ _ _ _ hk h b
end
theorem bw {L a x:ao} (h:L.Perm (x++a)):(([]:ao)++[L].flatten).Perm (x++[a].flatten):=by simpa using h
theorem aX {L a x:ao} (h:(x++L).Perm a):(x++[L].flatten).Perm (([]:ao)++[a].flatten):=by simpa using h
theorem bC {a:Nat} {o b:Obj} (h:o=b):([(a,o)]++([]:List ao).flatten).Perm ([(a,b)]++([]:List ao).flatten):=by rw[h]
theorem qd:(([]:ao)++([]:List ao).flatten).Perm (([]:ao)++([[]]:List ao).flatten):=.refl _
structure ai where
 a:Nat
 node:Nat×Nat
 np:Int×Nat
 sc:Nat
 dd:Nat
 su:List (Nat×Nat)
 n:Nat
noncomputable def ai.cells (i:ai):ao:=[(i.a,n9 (.str ⟨⟨[i.node.1]⟩⟩ i.node.2) i.np i.sc i.dd),(i.sc,ae (i.su.map cv) i.n)]
noncomputable def aB (I:List ai):ao:=I.flatMap ai.cells
noncomputable def ay (I:List ai):List (Nat×Nat×Nat):=I.map λi=>(i.node.1,i.node.2,i.a)
theorem hU (I:List ai) (i:ai) (a:List ai):(aB (I++i::a)).Perm (i.cells++aB (I++a)):=by
 unfold aB
 rw[HL,GP,HL,<-Fp,<-Fp]
 exact .append_right _ FG
noncomputable def dr (x:Nat×Nat) (i:ai):ai:={i with su:=i.su++[x],n:=i.n+1}
theorem l4 {a:Type}:∀{m:List (Nat×Nat×a)} {c t:Nat} {v:a} {m2:List (Nat×Nat×a)},(∀x∈m,x.1≠c)->look? (m++(c,t,v)::m2) c=some v
 | [],_,_,_,_,_=>by simp[look?]
 | (k,u,x)::m,c,t,v,m2,h=>by
  rw[H7,look?,if_neg (h (k,u,x) E2)]
  exact l4 λy b=>h y (E4 _ b)
noncomputable def Dm (P:E8) (k:Nat×Nat×Nat×Nat) (S:Nat) (c t b a:Nat) (m:List E6) (e:Nat):Obj:=
 bD ([es P [115,101,108,102] k.1 (.ref S),es P [110,111,100,101] k.2.1 (.str ⟨⟨[c]⟩⟩ t),es P [112,114,101,100,101,99,101,115,115,111,114,115] k.2.2.1 (.ref b),es P [110,111,100,101,105,110,102,111] k.2.2.2 (.ref a)]++m) e
noncomputable def oF (P:E8) (k a:Nat) (p:Nat×Nat) (b:Nat):List E6:=[es P [112,114,101,100] k (cv p),es P [112,114,101,100,95,105,110,102,111] a (.ref b)]
noncomputable def ER (P:E8) (i f:Nat):Code:=bR (aA (cX (oi P)) 3) (.ref i) (dY (oi P) 1163 f)
noncomputable def j2 (P:E8) (d i f b r S s:Nat) (k:Nat×Nat×Nat×Nat) (n:Nat) (p g:Int×Nat) (e c t a:Nat) (m:Nat×Nat×Nat×Nat) (o:List E6) (l:Nat) (q:List (Nat×Nat)) (I h:List ai):af:={d:=50,α:=List ai,c:=ER P d f,need:=[(S,bd s),(s,be P k n .none p g),(n,dO P (.type "dict") none .ref (ay I) e),(d,aW "tuple_iterator" b i),(b,aR (q.map cv) r),(f,Dm P m S c t b a o l)],put:=λx=>[bd s,be P k n .none p g,dO P (.type "dict") none .ref (ay x) e],post:=λj=>j=h,needB:=[aB I],putB:=λx=>[aB x]}
noncomputable def th {w:E9} {b i j e d S s:Nat} {k:Nat×Nat×Nat×Nat} {n:Nat} {q o:Int×Nat} {f c t a:Nat} {l:Nat×Nat×Nat×Nat} {m:List E6} {g:Nat} {p:List (Nat×Nat)} {I:List ai} (h:p[i]? =none):PP (env w) (j2 w.params b i j e d S s k n q o f c t a l m g p I I):=λ_ r=>
 .seg 274894700545 λO=>
 .use _ (ir w b e i d cv p h) [3,3] [] λx v=>
 .seg 4099 λu=>
 r (I) (by trivial) [4,4,4] [] [0]
noncomputable def am (I:List ai):List Nat:=I.map λi=>i.node.1
noncomputable def aJ (c:Nat) (f:ai->ai) (I:List ai):List ai:=I.map λi=>if i.node.1=c then f i else i
noncomputable def ie (f:ai->ai):Prop:=∀i,(f i).a=i.a/\(f i).node=i.node
theorem mS {c:Nat} {f:ai->ai}:∀{I:List ai},(∀i∈I,i.node.1≠c)->aJ c f I=I
 | [],_=>rfl
 | i::I,h=>by
  unfold aJ
  rw[Fw,if_neg (h i E2)]
  exact congrArg (i:: ·) (mS λj a=>h j (E4 _ a))
theorem lj {c:Nat} {f:ai->ai} {I:List ai} {i:ai} {a:List ai} (d:∀j∈I,j.node.1≠c) (h:i.node.1=c) (g:∀j∈a,j.node.1≠c):aJ c f (I++i::a)=I++f i::a:=by
 have e:=mS (f:=f) d
 have b:=mS (f:=f) g
 unfold aJ at e b⊢
 rw[Ff,Fw,e,b,if_pos h]
theorem jh {c:Nat} {f:ai->ai} (b:ie f) (I:List ai):ay (aJ c f I)=ay I:=by
 unfold ay aJ
 rw[GU]
 refine Gz λi _=>?_
 show(λi:ai=>(i.node.1,i.node.2,i.a)) (if i.node.1=c then f i else i)=_
 split
 .obtain ⟨h,a⟩:=b i;simp only[h,a]
 .rfl
theorem dg {c:Nat} {f:ai->ai} (a:ie f) (I:List ai):am (aJ c f I)=am I:=by
 unfold am aJ
 rw[GU]
 refine Gz λi _=>?_
 show(λi:ai=>i.node.1) (if i.node.1=c then f i else i)=_
 split
 .obtain ⟨b,h⟩:=a i;simp only[h]
 .rfl
theorem jO {I:List ai} {c:Nat} (h:(am I).Nodup) (f:c∈am I):∃a i b,I=a++i::b/\i.node.1=c/\(∀j∈a,j.node.1≠c)/\(∀j∈b,j.node.1≠c):=by
 obtain⟨i,g,e⟩:=Gl.mp f
 obtain⟨a,b,rfl⟩:=Hu g
 refine⟨a,i,b,rfl,e,λj d q=>?_,λj d q=>?_⟩
 .unfold am at h
  rw[Ff,Fw,Gm]at h
  exact h.2.2 j.node.1 (Fc d) i.node.1 E2 (q.trans e.symm)
 .unfold am at h
  rw[Ff,Fw,Gm,GQ]at h
  exact h.2.1.1 (Gl.mpr ⟨j,d,q.trans e.symm⟩)
theorem fX {I:List ai} {c:Nat} (l:(am I).Nodup) (g:c∈am I):∃i R,i∈I/\i.node.1=c/\look? (ay I) c=some i.a/\(aB I).Perm (i.cells++R)/\∀f,((f i).cells++R).Perm (aB (aJ c f I)):=by
 obtain⟨a,i,b,rfl,e,h,d⟩:=jO l g
 refine⟨i,aB (a++b),FH _ E2,e, ?_,hU ..,λf=>?_⟩
 .unfold ay
  rw[Ff,Fw,<-e]
  refine l4 λx m=>?_
  obtain⟨j,k,rfl⟩:=Gl.mp m
  rw[e];exact h j k
 .rw [lj h e d];exact(hU ..).symm
theorem gB (x:Nat×Nat):ie (dr x):=λ_=>⟨rfl,rfl⟩
noncomputable def cm (x:Nat×Nat):List (Nat×Nat)->List ai->List ai
 | [],I=>I
 | p::a,I=>cm x a (aJ p.1 (dr x) I)
theorem aQ {a:Type} {l:List a} {i:Nat} {x:a} {r:List a} (h:l.drop i=x::r):l[i]? =some x/\l.drop (i+1)=r:=by
 constructor
 .have:=congrArg List.head? h
  rwa [List.head?_drop]at this
 .rw [<-List.tail_drop,h];rfl
theorem aV {a:Type} {l:List a} {i:Nat} (h:l.drop i=[]):l[i]? =none:=by
 have:=congrArg List.head? h
 rwa [List.head?_drop]at this
theorem mQ {c:Nat} {x:Nat×Nat} {I:List ai} {n:Nat} (h:∀i∈I,i.su.length<=n):∀i∈aJ c (dr x) I,i.su.length<=n+1:=by
 intro i a
 obtain⟨j,b,rfl⟩:=Gl.mp a
 have:=h j b
 show(if j.node.1=c then dr x j else j).su.length<=n+1
 split
 .unfold dr;simp;omega
 .omega
theorem vZ (w:E9) (j y v u S s:Nat) (k:Nat×Nat×Nat×Nat) (g:Nat) (o l:Int×Nat) (e c t a:Nat) (G:Nat×Nat×Nat×Nat) (E F:Nat) (h:List (Nat×Nat)):
 ∀(r:List (Nat×Nat)) (i:Nat) (H:Nat×Nat) (x f:Nat) (I:List ai) (n:Nat),h.drop i=r->(am I).Nodup->(∀p∈r,p.1∈am I)->(∀i∈I,i.su.length<=n)->n+r.length<=1000->
  ab (env w) (j2 w.params j i y v u S s k g o l e c t a G (oF w.params E F H x) f h I (cm (c,t) r I))
 | [],i,H,x,f,I,n,A,C,B,D,J=>ct (th (aV A))
 | p::r,i,H,x,f,I,n,A,C,B,D,J=>by
  obtain⟨L,M⟩:=aQ A
  obtain⟨d,gt,P,io,Q,T,O⟩:=fX C (B p E2)
  have hk:=dg (c:=p.1) (gB (c,t)) I
  simp only[Fd]at J
  exact ct (have R:ay I=ay (aJ p.1 (dr (c,t)) I):=((jh (gB _) I).symm);have Iw:d.su.length<=1000:=(by have:=D d P;omega);have V:∀(X:Nat×Nat) (b f:Nat),ab (env w) (j2 w.params j (i+1) y v u S s k g o l e c t a G (oF w.params E F X b) f h (aJ p.1 (dr (c,t)) I) (cm (c,t) (p::r) I)):=(λW b f=>vZ w j y v u S s k g o l e c t a G E F h r (i+1) W b f _ (n+1) M (hk▸C) (λq U=>hk▸B q (E4 _ U)) (mQ D) (by omega));λ_ Z=>.view [] [0] _ _ _ _ (bw T) (.seg 412333662209 λO1=>.use _ (fK w j v i u cv h p L) [5,5] [] λx2 Iv=>.seg 0x8006005000000000000005000000000005000000000005008008008 λO3=>.use _ (uG w S s k g FY o l (ay I) e (p.1) (p.2) (d.a) Q) [4,4,4] [] λx4 h4=>.seg 0x7001008007007007007006000006000000001000000000006000000001000001000000000000000000000000006001000000000006008008008 λO5=>.use _ (dw w (d.sc) (d.n) (d.su) (c,t) (by omega)) [6] [] λx6 h6=>.seg 0 λO7=>.view [3] [] _ _ _ _ ((bC (a:=g) (congrArg (λm=>dO w.params (.type "dict") none .ref m e) R))) (.view [6,1] [0] _ _ _ _ (aX (O (dr (c,t)))) (.use _ (V p (d.a) f) [1,1,0,0,0,0] [0] λY N=>Z (Y) N [0,0,0] [] [0]))))
theorem EQ (w:E9) (j x v u S s:Nat) (k:Nat×Nat×Nat×Nat) (g:Nat) (o l:Int×Nat) (e c t a:Nat) (B:Nat×Nat×Nat×Nat) (h:List (Nat×Nat)) (f:Nat) (I:List ai) (n:Nat) (D:(am I).Nodup) (C:∀p∈h,p.1∈am I) (E:∀i∈I,i.su.length<=n) (U:n+h.length<=1000):
 ab (env w) (j2 w.params j 0 x v u S s k g o l e c t a B [] f h I (cm (c,t) h I)):=by
 cases M:h with
 | nil=>exact ct (th rfl)
 | cons p r=>
  subst M
  obtain⟨G,H⟩:=aQ (l:=p::r) (i:=0) rfl
  obtain⟨d,gt,N,io,P,R,L⟩:=fX D (C p E2)
  have hk:=dg (c:=p.1) (gB (c,t)) I
  simp only[Fd]at U
  exact ct (have Q:ay I=ay (aJ p.1 (dr (c,t)) I):=((jh (gB _) I).symm);have Iw:d.su.length<=1000:=(by have:=E d N;omega);have V:∀(y A:Nat) (X:Nat×Nat) (b f:Nat),ab (env w) (j2 w.params j (0+1) x v u S s k g o l e c t a B (oF w.params y A X b) f (p::r) (aJ p.1 (dr (c,t)) I) (cm (c,t) (p::r) I)):=(λy A W b f=>vZ w j x v u S s k g o l e c t a B y A (p::r) r 1 W b f _ (n+1) H (hk▸D) (λq T=>hk▸C q (E4 _ T)) (mQ E) (by omega));λ_ Z=>.view [] [0] _ _ _ _ (bw R) (.seg 412333662209 λO1=>.use _ (fK w j v 0 u cv (p::r) p G) [5,5] [] λx2 Iv=>.seg 0x8006005000000000000005000000000005000000000005008008008 λO=>.use _ (uG w S s k g FY o l (ay I) e (p.1) (p.2) (d.a) P) [4,4,4] [] λx4 h4=>.seg 0x7001008007007007007006000006000000001000000000006000000001000001000000000000000000000000006001000000000006008008008 λF=>.use _ (dw w (d.sc) (d.n) (d.su) (c,t) (by omega)) [6] [] λx6 h6=>.seg 0 λO7=>.view [3] [] _ _ _ _ ((bC (a:=g) (congrArg (λm=>dO w.params (.type "dict") none .ref m e) Q))) (.view [6,1] [0] _ _ _ _ (aX (L (dr (c,t)))) (.use _ (V (O 0) (F 0) p (d.a) (f+1+1)) [1,1,0,0,0,0] [0] λY J=>Z (Y) J [0,0,0] [] [0]))))
noncomputable def fp (a c t:Nat) (n:Int) (u s d:Nat):ai:=⟨a,(c,t),(n,u),s,d,[],0⟩
theorem CP (I:List ai) (i:ai):(i.cells++aB I).Perm (aB (I++[i])):=by
 unfold aB
 rw[HL]
 simp only[GP,List.flatMap_nil,FL]
 exact FG
theorem BJ {I:List ai} {c:Nat} (h:c∉am I):look? (ay I) c=none:=by
 induction I with
 | nil=>rfl
 | cons i I a=>
  unfold am at h
  rw[Fw,GR,not_or]at h
  show(if i.node.1=c then some i.a else look? (ay I) c)=none
  rw[if_neg (λq=>h.1 q.symm)]
  exact a h.2
theorem zQ {I:List ai} {c t a:Nat} {np:Int} {u sc dd:Nat} (h:c∉am I):aw (ay I) c t a=ay (I++[fp a c t np u sc dd]):=by
 induction I with
 | nil=>rfl
 | cons i I b=>
  unfold am at h
  rw[Fw,GR,not_or]at h
  show(if i.node.1=c then(i.node.1,i.node.2,a)::ay I else(i.node.1,i.node.2,i.a)::aw (ay I) c t a)=_
  rw[if_neg (λq=>h.1 q.symm),b h.2]
  rfl
noncomputable def sH (P:E8) (S s:Nat) (k:Nat×Nat×Nat×Nat) (n:Nat) (b a:Int×Nat) (e c t:Nat) (p:List (Nat×Nat)) (I:List ai):af:={d:=60,α:=List ai×Nat×ai,c:=.call (.ref 1163) ⟨.ref S:: .str ⟨⟨[c]⟩⟩ t::p.map cv,[]⟩,need:=[(S,bd s),(s,be P k n .none b a),(n,dO P (.type "dict") none .ref (ay I) e)],r:=λx=>.ok (.ret .none),put:=λx=>[bd s,be P k n .none b a,dO P (.type "dict") none .ref (ay x.1) x.2.1],post:=λx=>x.1=cm (c,t) p (I++[x.2.2])/\x.2.2.node=(c,t)/\x.2.2.np.1=p.length/\x.2.2.su=[],needB:=[aB I],putB:=λx=>[aB x.1]}
structure eY (I:List ai) (c:Nat) (ps:List (Nat×Nat)):Prop where
 nd:(am I).Nodup
 new:c∉am I
 mem:∀p∈ps,p.1∈am I
 len:I.length<=90
 su:∀i∈I,i.su.length<=900
 few:ps.length<=90
theorem eY.nd' {I c p} (h:eY I c p) (i:ai) (e:i.node.1=c):(am (I++[i])).Nodup:=by
 unfold am
 rw[Ff,Gm]
 refine⟨h.nd,by simp,λx b y a q=>?_⟩
 simp only[Fw,List.map_nil,Gd]at a
 exact h.new (by rw[<-e,<-a,<-q];exact b)
theorem eY.ps' {I c a} (h:eY I c a) (i:ai):∀p∈a,p.1∈am (I++[i]):=λp hp=>by
 unfold am
 rw[Ff];exact F5 _ (h.mem p hp)
theorem eY.su' {I c p} (h:eY I c p) (i:ai) (e:i.su=[]):∀j∈I++[i],j.su.length<=900:=λj a=>by
 rcases GE.mp a with q | q
 .exact h.su j q
 .simp only[Gd]at q;rw[q,e];simp
theorem vX (w:E9) (S s:Nat) (k:Nat×Nat×Nat×Nat) (n:Nat) (i g:Int×Nat) (l c t:Nat) (a:List (Nat×Nat)) (I:List ai) (h:eY I c a) (u:a.length<=8):ab (env w) (sH w.params S s k n i g l c t a I):=by
 let f:∀{w:E9} {a:List (Nat×Nat)} {S s:Nat} {k:Nat×Nat×Nat×Nat} {n:Nat} {i g:Int×Nat} {l c t:Nat} {I:List ai} (h:eY I c a) (b:look? (ay I) c=none) (d:(ay I).length<=100),PP (env w) (sH w.params S s k n i g l c t a I):= @λw a S s k n i g l c t I h b d _ C=>
  .seg 0x1004003000000000000003000000000003000000000003001004000003003000000000003001000000000003001001001001001001001001000000001 λO=>
  .use _ (Bx w S s k n FY i g (ay I) l c t b d) [2,2,2] [] λx E=>
  .seg 0x1007001007001007001001006000000004000004000000001000000000004000000001000001000000000000000000000000004001000000000004006006006 λo=>
  .use _ (b8 w 0 (a.length:Nat) x.2.1 (o 3) a.length (Int.zero_add _)) [] [] λe F=>
  .seg 0x1001007001007007006004000004000000001000000000004000000001000001000000000000000004000004001000004001000000000004 λq=>
  .view [3] [] _ _ _ _ ((bC (a:=n) (congrArg (λm=>dO w.params (.type "dict") none .ref m x.2.2.2.2) (zQ (a:=x.1) (t:=t) (np:=a.length) (u:=e) (sc:=x.2.2.1) (dd:=x.2.2.2.1) h.new))))
  (.view [4,4] [0] _ _ _ _ ((aX (CP I (fp x.1 c t a.length e x.2.2.1 x.2.2.2.1))))
  (have y:(am (I++[(fp x.1 c t a.length e x.2.2.1 x.2.2.2.1)])).Nodup:=(h.nd' (fp x.1 c t a.length e x.2.2.1 x.2.2.2.1) rfl);
  have v:(∀p∈(a:List (Nat×Nat)),p.1∈am (I++[(fp x.1 c t a.length e x.2.2.1 x.2.2.2.1)])):=(h.ps' (fp x.1 c t a.length e x.2.2.1 x.2.2.2.1));
  have A:(∀j∈I++[(fp x.1 c t a.length e x.2.2.1 x.2.2.2.1)],j.su.length<=900):=(h.su' (fp x.1 c t a.length e x.2.2.1 x.2.2.2.1) rfl);
  .use _ (EQ w (q 1) (O 1) (O 0) 0 S s k n i g (x.2.2.2.2) c t (x.1) (O 2,O 3,O 4,o 0) (a) 4 (I++[fp x.1 c t a.length e x.2.2.1 x.2.2.2.1]) 900 y v A (by have:=h.few;omega)) [2,2,0,0,1,0] [0] λB r=>
  .seg 0 λD=>
  have G:(900+(a:List (Nat×Nat)).length<=1000):=(by have:=h.few;omega);
  C ((B,x.2.2.2.2,(fp x.1 c t a.length e x.2.2.1 x.2.2.2.1))) ⟨r,rfl,rfl,rfl⟩ [0,0,0] [] [0]))
 have b:=BJ h.new
 have d:(ay I).length<=100:=by have:=h.len;unfold ay;simp;omega
 rcases a with _ | ⟨H,a⟩
 .exact av (f h b d)
 rcases a with _ | ⟨J,a⟩
 .exact av (f h b d)
 rcases a with _ | ⟨L,a⟩
 .exact av (f h b d)
 rcases a with _ | ⟨M,a⟩
 .exact av (f h b d)
 rcases a with _ | ⟨N,a⟩
 .exact av (f h b d)
 rcases a with _ | ⟨P,a⟩
 .exact av (f h b d)
 rcases a with _ | ⟨Q,a⟩
 .exact av (f h b d)
 rcases a with _ | ⟨R,a⟩
 .exact av (f h b d)
 rcases a with _ | ⟨T,a⟩
 .exact av (f h b d)
 .simp at u
section
variable {γ:Type}
theorem vS {w:E9} {A:Around} {E:Fb->Fe->Prop} {s:Fe} {G:HI->Fe->Prop} {a l:Addr} {t:String} {o:Obj} {ws x:List Fb} {n i:Nat} {r:Fb}
 (d:s.heap.get? a=some (ae ws n)) (b:s.heap.get? l=some o) (e:o.cls=.type t) (g:t="list"\/t="tuple") (f:o.data=.seq x.toArray i) (j:ws.length+x.length<=100000)
 (h:G (.ok (.ret r)) {s with heap:=s.heap.update a (FJ (· ++x.toArray))}):
 Fr (FT pq w) A (Hj (.ref a) (.ref l) r) (mr G) E s:=by
 unfold Hj
 refine E3 (wpAny_typeOf (T:=t) ⟨o,b,e⟩ ?_)
 rw[if_pos (by rcases g with rfl | rfl<;>simp)]
 unfold Fy
 refine E3 (E3 (FN b f (E5 ?_)))
 refine E3 (E3 (FN d rfl (E5 ?_)))
 rw[if_neg (by
  intro q
  simp only[Bool.and_eq_true,Builtin.List.listTooLong,decide_eq_true_eq,List.size_toArray,Gw]at q
  omega)]
 refine E3 (GV d rfl ?_ (by simp[Gw];omega) (by simp[Gw];omega))
 exact E5 h
noncomputable def sg (g:γ->Fb) (a b l n:Nat) (t:Bool) (x:List γ):af:={d:=1,α:=Nat,c:=.builtin "list.__iadd__" ⟨[.ref a,.ref l],[]⟩,need:=[(a,ae [] b),(l,ae (x.map g) n)],r:=λ_=>.ok (.ret (.ref a)),put:=λe=>[ae (x.map g) e,ae (x.map g) n]}
theorem l5 (g:γ->Fb) (w:E9) (a b l n:Nat) (x:List γ) (o:x.length<=100000):ab (env w) (sg g a b l n false x):=by
 refine aN λA s G k m P h=>?_
 have j:s.heap.get? a=some (ae [] b):=P.has (a,_) E2
 have i:s.heap.get? l=some (ae (x.map g) n):=P.has (l,_) (E4 _ E2)
 show Fr _ _ (FM table (.builtin "list.__iadd__" ⟨[.ref a,.ref l],[]⟩)) _ _ s
 rw[aE _ _ F.entry_list_iadd]
 refine vS j i rfl (.inl rfl) rfl (by simp;omega) ?_
 have e:FJ (· ++(x.map g).toArray) (ae [] b)=ae (x.map g) (if(x.map g).length=([]:List Fb).length then b else b+1):=e9 (by simp)
 have f:=(ap.start P).set (FJ (· ++(x.map g).toArray)) (by exact E2) (by show(FJ (· ++(x.map g).toArray) (ae [] b)).isFreed=false;rw[e];rfl)
 have d:ap s {s with heap:=s.heap.update a (FJ (· ++(x.map g).toArray))} (sg g a b l n false x).own [(a,FJ (· ++(x.map g).toArray) (ae [] b)),(l,ae (x.map g) n)]:=f
 rw[e]at d
 exact h _ _ trivial d
noncomputable def sr (g:γ->Fb) (a b l n:Nat) (ws x:List γ):af:={d:=1,α:=Nat,c:=.builtin "list.extend" ⟨[.ref a,.ref l],[]⟩,need:=[(a,ae (ws.map g) b),(l,aR (x.map g) n)],r:=λ_=>.ok (.ret .none),put:=λe=>[ae ((ws++x).map g) e,aR (x.map g) n]}
theorem BN (g:γ->Fb) (w:E9) (a b l n:Nat) (ws x:List γ) (o:ws.length+x.length<=100000):ab (env w) (sr g a b l n ws x):=by
 refine aN λA s G k m P h=>?_
 have j:s.heap.get? a=some (ae (ws.map g) b):=P.has (a,_) E2
 have i:s.heap.get? l=some (aR (x.map g) n):=P.has (l,_) (E4 _ E2)
 show Fr _ _ (FM table (.builtin "list.extend" ⟨[.ref a,.ref l],[]⟩)) _ _ s
 rw[aE _ _ F.entry_list_extend]
 refine vS j i rfl (.inr rfl) rfl (by simp;omega) ?_
 have e:FJ (· ++(x.map g).toArray) (ae (ws.map g) b)=ae ((ws++x).map g) (if((ws++x).map g).length=(ws.map g).length then b else b+1):=e9 (by simp)
 have f:=(ap.start P).set (FJ (· ++(x.map g).toArray)) (by exact E2) (by show(FJ (· ++(x.map g).toArray) (ae (ws.map g) b)).isFreed=false;rw[e];rfl)
 have d:ap s {s with heap:=s.heap.update a (FJ (· ++(x.map g).toArray))} (sr g a b l n ws x).own [(a,FJ (· ++(x.map g).toArray) (ae (ws.map g) b)),(l,aR (x.map g) n)]:=f
 rw[e]at d
 exact h _ _ trivial d
noncomputable def sy (g:γ->Fb) (l n:Nat) (x:List γ):af:={d:=1,α:=Nat,c:=.builtin "list.clear" ⟨[.ref l],[]⟩,need:=[(l,ae (x.map g) n)],r:=λ_=>.ok (.ret .none),put:=λe=>[ae [] e]}
theorem t5 (g:γ->Fb) (w:E9) (l n:Nat) (x:List γ) (j:x.length<=100000):ab (env w) (sy g l n x):=by
 refine aN λA s G f i P d=>?_
 have h:s.heap.get? l=some (ae (x.map g) n):=P.has (l,_) E2
 show Fr _ _ (FM table (.builtin "list.clear" ⟨[.ref l],[]⟩)) _ _ s
 rw[aE _ _ F.entry_list_clear]
 refine E3 (E5 (a:=Fs l) ?_)
 unfold Fy
 refine E3 (E3 (FN h rfl (E5 ?_)))
 refine E3 (GV h rfl ?_ (by simp[Gw];omega) (by simp[Gw]))
 refine E3 (H9 (E5 ?_))
 have e:FJ (λ_=> #[]) (ae (x.map g) n)=ae [] (if([]:List Fb).length=(x.map g).length then n else n+1):=e9 (by simp)
 have b:=(ap.start P).set (FJ λ_=> #[]) (by exact E2) (by show(FJ (λ_=> #[]) (ae (x.map g) n)).isFreed=false;rw[e];rfl)
 have a:ap s {s with heap:=s.heap.update l (FJ λ_=> #[])} (sy g l n x).own [(l,FJ (λ_=> #[]) (ae (x.map g) n))]:=b
 rw[e]at a
 exact d _ _ trivial a
noncomputable def r5 (l:Nat) (o:Obj) (z:Int):af:={d:=3,α:=Nat,c:=.builtin "len" ⟨[.ref l],[]⟩,need:=[(l,o)],r:=λu=>.ok (.ret (.int z u)),put:=λ_=>[o]}
theorem dv (g:γ->Fb) (w:E9) (l n:Nat) (x:List γ) (k:Nat) (hk:x.length=k) (i:x.length<=100000):ab (env w) (r5 l (ae (x.map g) n) k):=by
 subst hk
 refine aN λA s G d f P b=>?_
 have a:s.heap.get? l=some (ae (x.map g) n):=P.has (l,_) E2
 have h:s.TypeIs (.ref l) "list":=⟨_,a,rfl⟩
 show Fr _ _ (FM table (.builtin "len" ⟨[.ref l],[]⟩)) _ _ s
 rw[aE _ _ entry_len]
 unfold Builtin.«len»
 refine E3 (m:=oneArg "len" _) (E5 ?_)
 refine E3 (m:=callSpecial? (.ref l) (Str.ofString "__len__")) (wpAny_callSpecial?_slot (name:=Str.ofString "__len__") h slot_list_len
  (HO slot_list_len h entry_list_len ?_ (args_list_len _)))
 show Fr _ _ (do retInt (<-seqSize l)) _ _ s
 unfold seqSize
 refine E3 (E3 (wpAny_loadPart a (E5 ?_)))
 refine E3 (wpAny_mkInt (E5 ⟨_,rfl, ?_⟩))
 refine E3 (Gj (E5 ?_))
 refine E3 (H9 ?_)
 show Fr _ _ (if(((x.map g).toArray.size:Nat):Int)<0 then _ else _) _ _ _
 rw[if_neg (by omega)]
 show Fr _ _ (if(((x.map g).toArray.size:Nat):Int)>=2^63 then _ else _) _ _ _
 rw[if_neg (by simp;omega)]
 have e:(((x.map g).toArray.size:Nat):Int)=(x.length:Int):=by simp
 rw[e]
 refine E3 (wpAny_mkInt (E5 ?_))
 exact b _ _ trivial ((ap.start P).toks _)
theorem qn (g:γ->Fb) (w:E9) (l n:Nat) (x:List γ) (i:x.length<=100000):ab (env w) (r5 l (aR (x.map g) n) x.length):=by
 refine aN λA s G d f P b=>?_
 have a:s.heap.get? l=some (aR (x.map g) n):=P.has (l,_) E2
 have h:s.TypeIs (.ref l) "tuple":=⟨_,a,rfl⟩
 show Fr _ _ (FM table (.builtin "len" ⟨[.ref l],[]⟩)) _ _ s
 rw[aE _ _ entry_len]
 unfold Builtin.«len»
 refine E3 (m:=oneArg "len" _) (E5 ?_)
 refine E3 (m:=callSpecial? (.ref l) (Str.ofString "__len__")) (wpAny_callSpecial?_slot (name:=Str.ofString "__len__") h slot_tuple_len
  (HO slot_tuple_len h entry_tuple_len ?_ (args_tuple_len _)))
 show Fr _ _ (do retInt (<-Builtin.Tuple.tupleItemsOf (.ref l)).size) _ _ s
 refine E3 ?_
 unfold Builtin.Tuple.tupleItemsOf
 refine E3 (FN a rfl (E5 ?_))
 refine E3 (wpAny_mkInt (E5 ⟨_,rfl, ?_⟩))
 refine E3 (Gj (E5 ?_))
 refine E3 (H9 ?_)
 show Fr _ _ (if(((x.map g).toArray.size:Nat):Int)<0 then _ else _) _ _ _
 rw[if_neg (by omega)]
 show Fr _ _ (if(((x.map g).toArray.size:Nat):Int)>=2^63 then _ else _) _ _ _
 rw[if_neg (by simp;omega)]
 have e:(((x.map g).toArray.size:Nat):Int)=(x.length:Int):=by simp
 rw[e]
 refine E3 (wpAny_mkInt (E5 ?_))
 exact b _ _ trivial ((ap.start P).toks _)
end
noncomputable def rD (l n:Nat) (a:List (Nat×Nat)):af:={d:=6,α:=Nat×Nat,c:=.builtin "tuple.__new__" ⟨[.type "tuple",.ref l],[]⟩,need:=[(l,ae (a.map cv) n)],r:=λx=>.ok (.ret (.ref x.1)),put:=λ_=>[ae (a.map cv) n],new:=λx=>[(x.1,aR (a.map cv) x.2)]}
theorem qm (w:E9) (l n:Nat) (x:List (Nat×Nat)) (h:x.length<=6):ab (env w) (rD l n x):=by
 let p:∀{w:E9} {a:List (Nat×Nat)} {l n:Nat} (e:a.length<=8),PP (env w) (rD l n a):= @λw a l n e _ f=>
  .seg 16781313 λO=>
  .use _ (l5 cv w (O 0) 0 l n (a) (by omega)) [0,0] [] λr d=>
  .seg 1 λb=>
  f (b 0,0) d [2] [0] []
 rcases x with _ | ⟨g,x⟩
 .exact ct (p (by simp))
 rcases x with _ | ⟨i,x⟩
 .exact ct (p (by simp))
 rcases x with _ | ⟨j,x⟩
 .exact ct (p (by simp))
 rcases x with _ | ⟨k,x⟩
 .exact ct (p (by simp))
 rcases x with _ | ⟨m,x⟩
 .exact ct (p (by simp))
 rcases x with _ | ⟨o,x⟩
 .exact ct (p (by simp))
 rcases x with _ | ⟨q,x⟩
 .exact ct (p (by simp))
 .simp at h
noncomputable def zh (P:E8) (S s:Nat) (k:Nat×Nat×Nat×Nat) (d r e:Nat) (p n:Int×Nat) (a:List (Nat×Nat)):af:={d:=20,α:=Bool,c:=.call (.ref 1182) ⟨[.ref S],[]⟩,need:=[(S,bd s),(s,be P k d (.ref r) p n),(r,ae (a.map cv) e)],r:=λb=>.ok (.ret (.bool b)),put:=λx=>[bd s,be P k d (.ref r) p n,ae (a.map cv) e],post:=λb=>b=(decide (n.1<p.1) || !a.isEmpty)}
theorem ET (w:E9) (S s:Nat) (k:Nat×Nat×Nat×Nat) (m r e:Nat) (p n:Int×Nat) (a:List (Nat×Nat)) (l:a.length<=100000):ab (env w) (zh w.params S s k m r e p n a):=by
 cases a with
 | nil=>exact av (λ_ d=>.seg 0x1003000002002000000000002001000000000002001003000002002000000000002001000000000002001003000002002000000000002001000000000002001001001001000000001 λg=>.or (n.1<p.1) (¬(n.1<p.1)) (FK _) (λb=>.use _ (gq w (n.1) (p.1) (n.2) (p.2) b) [] [] λf h=>.seg 0 λO=>d (HN) (show HN=(Decidable.decide (n.1<p.1) || !List.isEmpty [])from(by(simp;omega))) [1,1,1] [] []) (λb=>.use _ (gr w (n.1) (p.1) (n.2) (p.2) b) [] [] λf h=>.seg 0x4004001001001001003000002002000000000002001000000000002001000000 λO=>.use _ (dv cv w r e ([]) 0 rfl (by trivial)) [3] [] λo j=>.seg 4097 λi=>d (Bool.false) (show Bool.false=(Decidable.decide (n.1<p.1) || !List.isEmpty [])from(by(simp;omega))) [2,2,0] [] []))
 | cons x a=>exact av (λ_ d=>.seg 0x1003000002002000000000002001000000000002001003000002002000000000002001000000000002001003000002002000000000002001000000000002001001001001000000001 λg=>.or (n.1<p.1) (¬(n.1<p.1)) (FK _) (λb=>.use _ (gq w (n.1) (p.1) (n.2) (p.2) b) [] [] λf h=>.seg 0 λO=>d (HN) (show HN=(Decidable.decide (n.1<p.1) || !List.isEmpty (x::a))from(by(simp;done))) [1,1,1] [] []) (λb=>.use _ (gr w (n.1) (p.1) (n.2) (p.2) b) [] [] λf h=>.seg 0x4004001001001001003000002002000000000002001000000000002001000000 λO=>.use _ (dv cv w r e (x::a) (Fo (x::a)) rfl l) [3] [] λo j=>.seg 4097 λi=>d (HN) (show HN=(Decidable.decide (n.1<p.1) || !List.isEmpty (x::a))from(by(simp;done))) [2,2,0] [] []))
noncomputable def yz (P:E8) (S s:Nat) (k:Nat×Nat×Nat×Nat) (n r g:Nat) (p f:Int×Nat) (e:Nat) (a:List (Nat×Nat)) (I d:List ai):af:={d:=20,α:=(Nat×Nat)×Nat×Nat,c:=.call (.ref 1175) ⟨[.ref S],[]⟩,need:=[(S,bd s),(s,be P k n (.ref r) p f),(r,ae (a.map cv) g),(n,dO P (.type "dict") none .ref (ay I) e)],r:=λx=>.ok (.ret (.ref x.1.1)),put:=λx=>[bd s,be P k n (.ref r) (p.1+a.length,x.1.2) f,ae [] x.2.1,dO P (.type "dict") none .ref (ay d) e],new:=λx=>[(x.1.1,aR (a.map cv) x.2.2)],post:=λb=>True,needB:=[aB I],putB:=λ_=>[aB d]}
noncomputable def aO (v:Int) (u:Nat) (i:ai):ai:={i with np:=(v,u)}
theorem bX (v:Int) (u:Nat):ie (aO v u):=λ_=>⟨rfl,rfl⟩
noncomputable def uP (P:E8) (k:Nat×Nat×Nat×Nat) (S t n:Nat) (x:Nat×Nat) (e:Nat):Obj:=
 bD [es P [115,101,108,102] k.1 (.ref S),es P [114,101,115,117,108,116] k.2.1 (.ref t),es P [110,50,105] k.2.2.1 (.ref n),es P [110,111,100,101] k.2.2.2 (cv x)] e
noncomputable def zC (P:E8) (i f:Nat):Code:=bR (aA (cX (oh P)) 3) (.ref i) (dY (oh P) 1175 f)
noncomputable def nA (P:E8) (b i f t d S n e:Nat) (k:Nat×Nat×Nat×Nat) (h:Nat×Nat) (g:Nat) (p:List (Nat×Nat)) (I a:List ai):af:={d:=10,α:=(Nat×Nat)×Nat,c:=zC P b f,need:=[(n,dO P (.type "dict") none .ref (ay I) e),(t,aR (p.map cv) d),(f,uP P k S t n h g),(b,aW "tuple_iterator" t i)],put:=λx=>[dO P (.type "dict") none .ref (ay a) e,aR (p.map cv) d,uP P k S t n x.1 x.2],needB:=[aB I],putB:=λx=>[aB a]}
theorem sR (w:E9) (d h g t S n b:Nat) (o:Nat×Nat×Nat×Nat) (a:List (Nat×Nat)):∀(r:List (Nat×Nat)) (i:Nat) (x:Nat×Nat) (f:Nat) (I:List ai),a.drop i=r->(am I).Nodup->(∀p∈r,p.1∈am I)->
 ab (env w) (nA w.params d i h g t S n b o x f a I (r.foldl (λI p=>aJ p.1 (aO (-1) 1766) I) I))
 | [],i,x,f,I,j,l,k=>ct (λ_ u=>.seg 274894700545 λO=>.use _ (ir w d g i t cv a (aV j)) [3,1] [] λL v=>.seg 4099 λA=>u (((x.1,x.2),f)) trivial [4,1,3] [] [0])
 | p::r,i,x,f,I,j,l,k=>by
  obtain⟨C,v⟩:=aQ j
  obtain⟨y,R,T,e,E,F,D⟩:=fX l (k p E2)
  have hk:=dg (c:=p.1) (bX (-1) 1766) I
  exact ct (λ_ u=>.view [] [0] _ _ _ _ (bw F) (.seg 412333662209 λO=>.use _ (fK w d g i t cv a p C) [5,3] [] λL N=>.seg 0x5001005005005006006000006006 λA=>.use _ (dW w n (Fz "dict") none b (p.1) (p.2) (ay I) (y.a) E) [4] [] λU P=>.seg 0x4000004000000001000000000004000000001000001000000000000000004000004001000004001000000000004 λM=>.view [0] [] _ _ _ _ ((bC (a:=n) (congrArg (λm=>dO w.params (.type "dict") none .ref m b) ((jh (bX _ _) I).symm:ay I=ay (aJ p.1 (aO (-1) 1766) I))))) (.view [3,3] [0] _ _ _ _ (aX (D _:((aO (-1) 1766 y).cells++R).Perm (aB (aJ p.1 (aO (-1) 1766) I)))) (.use _ ((λH f=>sR w d h g t S n b o a r (i+1) H f _ v (hk▸l) (λq G=>hk▸k q (E4 _ G)):∀(J:Nat×Nat) (B:Nat),ab (env w) (nA w.params d (i+1) h g t S n b o J B a (aJ p.1 (aO (-1) 1766) I) (r.foldl (λI p=>aJ p.1 (aO (-1) 1766) I) (aJ p.1 (aO (-1) 1766) I)))) p f) [0,1,1,0] [0] λs Q=>u (((s.1.1,s.1.2),s.2)) trivial [0,0,0] [] [0]))))
theorem zB (w:E9) (S sd:Nat) (k:Nat×Nat×Nat×Nat) (n r d:Nat) (b Z:Int×Nat) (e:Nat) (f:List (Nat×Nat)) (I:List ai) (U:f.length<=6) (q:(am I).Nodup) (o:∀p∈f,p.1∈am I):
 ab (env w) (yz w.params S sd k n r d b Z e f I (f.foldl (λI p=>aJ p.1 (aO (-1) 1766) I) I)):=by
 cases f with
 | nil=>exact av (λ_ i=>.seg 0x1001001003000002002000000000002001000000000002001000000003000002002000000000002001000000000002001001001001000000001 λg=>.use _ (qm w r d ([]) (by trivial)) [3] [] λx l=>.seg 0x1001002001002002003003003005000004004000000000004001000000000004003003003002001002001002002 λO=>.seg 68736258049 λA=>.use _ (ir w (O 3) (x.1) 0 (x.2) cv ([]) (by trivial)) [0,1] [] λx5 H=>.seg 0x5001005005005005008000007007000000000007001000000000007006001003 λj=>.use _ (t5 cv w r d ([]) (by trivial)) [4] [] λt J=>.seg 0x1006000000008000007007000000000007001000000000007006 λB=>.use _ (qn cv w (x.1) (x.2) ([]) (by trivial)) [2] [] λu L=>.seg 1 λv=>.use _ (b8 w (b.1) 0 (b.2) u (b.1+0) rfl) [] [] λh G=>.seg 0x6008008008000007000000000007000007001000007001000000000007 λy=>i (((x.1,h),t,x.2)) trivial [6,6,1,5] [0] [0])
 | cons p a=>
  obtain⟨h1,l⟩:=aQ (l:=p::a) (i:=0) rfl
  obtain⟨s,R,hi,IC,N,Q,M⟩:=fX q (o p E2)
  have hk:=dg (c:=p.1) (bX (-1) 1766) I
  exact av (have P:ay I=ay (aJ p.1 (aO (-1) 1766) I):=((jh (bX _ _) I).symm);λ_ i=>.view [] [0] _ _ _ _ (bw Q) (.seg 0x1001001005000004004000000000004001000000000004001000000005000004004000000000004001000000000004001001001001000000001 λg=>.use _ (qm w r d (p::a) U) [5] [] λx IF=>.seg 0x1001002001002002003003003007000006006000000000006001000000000006003003003002001002001002002 λO=>.seg 68736258049 λA=>.use _ (fK w (O 3) (x.1) 0 (x.2) cv (p::a) p rfl) [0,1] [] λx5 H=>.seg 0x9001009009009004004000004004 λj=>.use _ (dW w n (Fz "dict") none e (p.1) (p.2) (ay I) (s.a) N) [8] [] λt J=>.seg 0x6000006000000001000000000006000000001000001000000000000000006000006001000006001000000000006 λB=>.view [0] [] _ _ _ _ ((bC (a:=n) (congrArg (λm=>dO w.params (.type "dict") none .ref m e) P))) (.view [5,5] [0] _ _ _ _ (aX (M _:((aO (-1) 1766 s).cells++R).Perm (aB (aJ p.1 (aO (-1) 1766) I)))) (.use _ ((λV E Iv tn X x0 C=>sR w V E Iv tn S n e X (p::a) a 1 x0 C _ l (hk▸q) (λgt T=>hk▸o gt (E4 _ T)):∀(W F Iw io:Nat) (Y:Nat×Nat×Nat×Nat) (Ix:Nat×Nat) (D:Nat),ab (env w) (nA w.params W 1 F Iw io S n e Y Ix D (p::a) (aJ p.1 (aO (-1) 1766) I) (a.foldl (λI p=>aJ p.1 (aO (-1) 1766) I) (aJ p.1 (aO (-1) 1766) I)))) (O 3) (g 0) (x.1) (x.2) (g 1,O 0,O 2,j 0) p 4) [0,1,2,0] [0] λu L=>.seg 0x4001004004004004006000005005000000000005001000000000005003 λv=>.use _ (t5 cv w r d (p::a) (by omega)) [3] [] λh G=>.seg 0x1004000000006000005005000000000005001000000000005004 λy=>.use _ (qn cv w (x.1) (x.2) (p::a) (by omega)) [2] [] λIy ID=>.seg 1 λIA=>.use _ (b8 w (b.1) ((↑(Fo (p::a)):Int)) (b.2) Iy (b.1+(↑(Fo (p::a)):Int)) rfl) [] [] λIz IE=>.seg 0x4006006006000005000000000005000005001000005001000000000005 λIB=>i (((x.1,Iz),h,x.2)) trivial [4,4,1,1] [0] [0]))))
noncomputable def az (I:List ai) (c:Nat):Int:=((I.find? λi=>i.node.1==c).map (·.np.1)).getD 0
noncomputable def cI:List (Nat×Nat)->List ai->List (Nat×Nat)->List ai->List (Nat×Nat)->Prop
 | [],I,r,a,b=>a=I/\b=r
 | s::d,I,r,a,b=>∃u,cI d (aJ s.1 (aO (az I s.1-1) u) I) (if az I s.1-1=0 then r++[s]else r) a b
noncomputable def kD (P:E8) (k:Nat×Nat×Nat×Nat×Nat×Nat) (S t n a:Nat) (x:Nat×Nat) (st:Fb) (m:List E6) (e:Nat):Obj:=
 bD ([es P [115,101,108,102] k.1 (.ref S),es P [110,111,100,101,115] k.2.1 (.ref t),es P [110,50,105] k.2.2.1 (.ref n),es P [110,111,100,101] k.2.2.2.1 (cv x),es P [110,111,100,101,105,110,102,111] k.2.2.2.2.1 (.ref a),es P [115,116,97,116] k.2.2.2.2.2 st]++m) e
noncomputable def gW (P:E8) (k:Nat×Nat) (s:Nat×Nat) (b:Nat):List E6:=[es P [115,117,99,99,101,115,115,111,114] k.1 (cv s),es P [115,117,99,99,101,115,115,111,114,95,105,110,102,111] k.2 (.ref b)]
noncomputable def DR (P:E8) (i f:Nat):Code:=bR (aA (cX (kp P)) 2) (.ref i) (dY (kp P) 1196 f)
noncomputable def xA (P:E8) (i f:Nat):Code:=bR (aA (aY (aA (cX (kp P)) 2)) 4) (.ref i) (dY (kp P) 1196 f)
noncomputable def iJ (P:E8) (b i f t S s:Nat) (k:Nat×Nat×Nat×Nat) (n r v:Nat) (p g:Int×Nat) (m:List (Nat×Nat×Nat)) (e:Nat) (d:Nat×Nat×Nat×Nat×Nat×Nat) (a j sn:Nat) (x:Nat×Nat) (st:Fb) (q:List E6) (o:Nat) (l:List (Nat×Nat)) (u h:List (Nat×Nat)) (I:List ai):af:={d:=10,α:=(List ai×List (Nat×Nat)×Nat)×(Nat×Nat)×(Nat×Nat)×Nat×Nat,c:=xA P b f,need:=[(S,bd s),(s,be P k n (.ref r) p g),(n,dO P (.type "dict") none .ref m e),(r,ae (h.map cv) v),(j,ae (l.map cv) sn),(f,kD P d S t n a x st q o),(b,aW "list_iterator" j i)],put:=λy=>[bd s,be P k n (.ref r) p g,dO P (.type "dict") none .ref m e,ae (y.1.2.1.map cv) y.1.2.2,ae (l.map cv) sn,kD P d S t n a x st (gW P y.2.1 y.2.2.1 y.2.2.2.1) y.2.2.2.2],post:=λy=>cI u I h y.1.1 y.1.2.1,needB:=[aB I],putB:=λy=>[aB y.1.1]}
noncomputable def fC (m:List (Nat×Nat×Nat)) (I:List ai):Prop:=∀i∈I,look? m i.node.1=some i.a
theorem fC.up {m:List (Nat×Nat×Nat)} {I:List ai} (h:fC m I) {c:Nat} {f:ai->ai} (e:ie f):fC m (aJ c f I):=by
 intro i g
 obtain⟨j,k,rfl⟩:=Gl.mp g
 have a:=h j k
 show look? m (if j.node.1=c then f j else j).node.1=some (if j.node.1=c then f j else j).a
 obtain⟨b,d⟩:=e j
 split
 .rw [b,d];exact a
 .exact a
theorem kr {I:List ai} {i:ai} (a:(am I).Nodup) (h:i∈I):az I i.node.1=i.np.1:=by
 unfold az
 induction I with
 | nil=>cases h
 | cons j I b=>
  unfold am at a
  rw[Fw,GQ]at a
  rcases GR.mp h with rfl | h
  .simp
  .have:¬j.node.1=i.node.1:=λq=>a.1 (Gl.mpr ⟨i,h,q.symm⟩)
   rw[HR (by simpa using this)]
   exact b a.2 h
theorem lu (w:E9) (B Q gt S sd:Nat) (k:Nat×Nat×Nat×Nat) (N O:Nat) (po Z:Int×Nat) (m:List (Nat×Nat×Nat)) (F:Nat) (Y:Nat×Nat×Nat×Nat×Nat×Nat) (a D sn:Nat) (io:Nat×Nat) (st:Fb) (C:Nat×Nat) (v:List (Nat×Nat)):
 ∀(d:List (Nat×Nat)) (i:Nat) (t:Nat×Nat) (y f r:Nat) (g:List (Nat×Nat)) (I:List ai),v.drop i=d->fC m I->(am I).Nodup->(∀p∈d,p.1∈am I)->g.length+d.length<=1000->
  ab (env w) (iJ w.params B i Q gt S sd k N O r po Z m F Y a D sn io st (gW w.params C t y) f v d g I):=by
 intro d
 induction d with
 | nil=>
  intro i t y f r g I J H A L M
  exact ct (λ_ E=>.seg 481053143041 λO1=>.use _ (ch w B D i sn cv v (aV J)) [6,4] [] λx2 G=>.seg 4099 λO3=>E (((I,g,r),(C.1,C.2),(t.1,t.2),y,f)) ⟨rfl,rfl⟩ [4,4,4,4,1,3] [] [0])
 | cons p d lu=>
  intro i t y f r g I J H A L M
  obtain⟨h1,G⟩:=aQ J
  obtain⟨n,Iz,U,e,hl,ho,T⟩:=fX A (L p E2)
  have W:=kr A U
  rw[e]at W
  have V:=H n U
  rw[e]at V
  simp only[Fd]at M
  have X:∀(o:Nat×Nat) (b f r u:Nat) (j:List (Nat×Nat)),j.length+d.length<=1000->ab (env w) (iJ w.params B (i+1) Q gt S sd k N O r po Z m F Y a D sn io st (gW w.params C o b) f v d j (aJ p.1 (aO (az I p.1-1) u) I)):=λo b f r u j s=>
   lu (i+1) o b f r j _ G (H.up (bX _ _)) (by rw[dg (bX _ _)];exact A) (λIx hq=>by rw[dg (bX _ _)];exact L Ix (E4 _ hq)) s
  exact av (have hv:n.np.1-1=(az I p.1-1):=(by rw[W]);have M:g.length+(d.length+1)<=1000:=(by omega);λ_ E=>.view [] [0] _ _ _ _ (bw ho) (.seg 618492104705 λO1=>.use _ (cr w B D i sn cv v p h1) [8,6] [] λx2 G=>.seg 0x7001007007007009009009009 λO3=>.use _ (dW w N (Fz "dict") none F (p.1) (p.2) m (n.a) V) [6] [] λx4 h4=>.seg 0x1004000004000000001000000000004000000001000001000000000000000000000000004001000000000004009009009 λO5=>.use _ (bx w (n.np.1) 1 (n.np.2) (O5 2) (az I p.1-1) hv) [] [] λl h6=>.seg 0x1004000004000000001000000000004000000001000001000000000000000000000000004001000000000004009004000004000000001000000000004000000001000001000000000000000004000004001000004001000000000004 λP=>.or ((az I p.1-1)=0) (¬((az I p.1-1)=0)) (FK _) (λq=>.use _ (g7 w (az I p.1-1) 0 l (P 2) q) [] [] λx9 h9=>.seg 0x8001009008008008008007000006006000000000006001000000000006009 λIv=>.use _ (dw w O r g (p.1,p.2) (by omega)) [7] [] λx R=>.seg 0 λIy=>.view [4,4] [0] _ _ _ _ ((aX (T (aO (az I p.1-1) l)))) (.use _ ((λo b f r u j s=>X o b f r u j s) p (n.a) f (r+1) l (g++[(p.1,p.2)]) (by(simp;omega))) [4,4,1,0,1,1,0] [0] λh Iw=>E (((h.1.1,h.1.2.1,h.1.2.2),(h.2.1.1,h.2.1.2),(h.2.2.1.1,h.2.2.1.2),h.2.2.2.1,h.2.2.2.2)) ⟨l,by rw[(rfl:az I p.1-1=(az I p.1-1)),if_pos q];exact Iw⟩ [0,0,0,0,0,0] [] [0])) (λq=>.use _ (g8 w (az I p.1-1) 0 l (P 2) q) [] [] λx9 h9=>.seg 0 λIv=>.view [3,3] [0] _ _ _ _ ((aX (T (aO (az I p.1-1) l)))) (.use _ ((λo b f r u j s=>X o b f r u j s) p (n.a) f r l g (by omega)) [3,3,0,2,1,1,0] [0] λx R=>E (((x.1.1,x.1.2.1,x.1.2.2),(x.2.1.1,x.2.1.2),(x.2.2.1.1,x.2.2.1.2),x.2.2.2.1,x.2.2.2.2)) ⟨l,by rw[(rfl:az I p.1-1=(az I p.1-1)),if_neg q];exact R⟩ [0,0,0,0,0,0] [] [0]))))
theorem qP (w:E9) (s A H S G:Nat) (k:Nat×Nat×Nat×Nat) (t v:Nat) (F E:Int×Nat) (m:List (Nat×Nat×Nat)) (o:Nat) (D:Nat×Nat×Nat×Nat×Nat×Nat) (a y sn:Nat) (x:Nat×Nat) (st:Fb)
 (p:Nat×Nat) (r:List (Nat×Nat)) (j h:Nat) (f:List (Nat×Nat)) (I:List ai) (N:fC m I) (B:(am I).Nodup) (T:∀q∈p::r,q.1∈am I) (V:f.length+(p::r).length<=1000):
  ab (env w) (iJ w.params s 0 A H S G k t v h F E m o D a y sn x st [] j (p::r) (p::r) f I):=by
 obtain⟨l,Iw,Q,e,hl,ho,P⟩:=fX B (T p E2)
 have U:=kr B Q
 rw[e]at U
 have R:=N l Q
 rw[e]at R
 simp only[Fd]at V
 exact av (have hv:l.np.1-1=(az I p.1-1):=(by rw[U]);have V:f.length+(r.length+1)<=1000:=(by omega);have W:∀(C:Nat×Nat) (q:Nat×Nat) (b j h u:Nat) (f:List (Nat×Nat)),f.length+r.length<=1000->ab (env w) (iJ w.params s (0+1) A H S G k t v h F E m o D a y sn x st (gW w.params C q b) j (p::r) r f (aJ p.1 (aO (az I p.1-1) u) I)):=(λC p' b j h u io gt=>lu w s A H S G k t v F E m o D a y sn x st C (p::r) r 1 p' b j h io _ rfl (N.up (bX _ _)) (by rw[dg (bX _ _)];exact B) (λq hq=>by rw[dg (bX _ _)];exact T q (E4 _ hq)) gt);λ_ X=>.view [] [0] _ _ _ _ (bw ho) (.seg 618492104705 λO1=>.use _ (cr w s y 0 sn cv (p::r) p rfl) [8,6] [] λx2 h2=>.seg 0x7001007007007009009009009 λJ=>.use _ (dW w t (Fz "dict") none o (p.1) (p.2) m (l.a) R) [6] [] λx4 h4=>.seg 0x1004000004000000001000000000004000000001000001000000000000000000000000004001000000000004009009009 λO=>.use _ (bx w (l.np.1) 1 (l.np.2) (O 2) (az I p.1-1) hv) [] [] λi h6=>.seg 0x1004000004000000001000000000004000000001000001000000000000000000000000004001000000000004009004000004000000001000000000004000000001000001000000000000000004000004001000004001000000000004 λL=>.or ((az I p.1-1)=0) (¬((az I p.1-1)=0)) (FK _) (λn=>.use _ (g7 w (az I p.1-1) 0 i (L 2) n) [] [] λx9 h9=>.seg 0x8001009008008008008007000006006000000000006001000000000006009 λY=>.use _ (dw w v h f (p.1,p.2) (by omega)) [7] [] λd M=>.seg 0 λIv=>.view [4,4] [0] _ _ _ _ ((aX (P (aO (az I p.1-1) i)))) (.use _ (W (J 0,O 0) p (l.a) (j+1+1) (h+1) i (f++[(p.1,p.2)]) (by(simp;omega))) [4,4,1,0,1,1,0] [0] λg Z=>X (((g.1.1,g.1.2.1,g.1.2.2),(g.2.1.1,g.2.1.2),(g.2.2.1.1,g.2.2.1.2),g.2.2.2.1,g.2.2.2.2)) ⟨i,by rw[(rfl:az I p.1-1=(az I p.1-1)),if_pos n];exact Z⟩ [0,0,0,0,0,0] [] [0])) (λn=>.use _ (g8 w (az I p.1-1) 0 i (L 2) n) [] [] λx9 h9=>.seg 0 λY=>.view [3,3] [0] _ _ _ _ ((aX (P (aO (az I p.1-1) i)))) (.use _ (W (J 0,O 0) p (l.a) (j+1+1) h i f (by omega)) [3,3,0,2,1,1,0] [0] λd M=>X (((d.1.1,d.1.2.1,d.1.2.2),(d.2.1.1,d.2.1.2),(d.2.2.1.1,d.2.2.1.2),d.2.2.2.1,d.2.2.2.2)) ⟨i,by rw[(rfl:az I p.1-1=(az I p.1-1)),if_neg n];exact M⟩ [0,0,0,0,0,0] [] [0]))))
noncomputable def bj (I:List ai) (c:Nat):List (Nat×Nat):=((I.find? λi=>i.node.1==c).map (·.su)).getD []
noncomputable def ec:List (Nat×Nat)->List ai->List (Nat×Nat)->List ai->List (Nat×Nat)->Prop
 | [],I,r,a,b=>a=I/\b=r
 | p::f,I,r,a,b=>∃u d e,cI (bj I p.1) (aJ p.1 (aO (-2) u) I) r d e/\ec f d e a b
theorem Bb {I a:List ai} {i:ai} {c:Nat} (h:i.node.1≠c):az (I++i::a) c=az (I++a) c:=by
 unfold az
 rw[HD,HD,HR (by simpa using h)]
theorem wO {I a:List ai} {i:ai} {c:Nat} {f:ai->ai} (h:i.node.1≠c):aJ c f (I++i::a)=aJ c f I++i::aJ c f a:=by
 unfold aJ
 rw[Ff,Fw,if_neg h]
theorem wN {I a:List ai} {c:Nat} {f:ai->ai}:aJ c f (I++a)=aJ c f I++aJ c f a:=Ff ..
theorem cI.ins {i:ai}:∀{f:List (Nat×Nat)} {I a X:List ai} {r d:List (Nat×Nat)},(∀s∈f,i.node.1≠s.1)->cI f (I++a) r X d->∃J b,X=J++b/\cI f (I++i::a) r (J++i::b) d
 | [],I,a,X,r,d,_,⟨l,m⟩=>⟨I,a,l,rfl,m⟩
 | s::f,I,a,X,r,d,j,⟨u,h⟩=>by
  have g:=j s E2
  rw[wN]at h
  obtain⟨J,b,e,k⟩:=cI.ins (λq n=>j q (E4 _ n)) h
  refine⟨J,b,e,u, ?_⟩
  rw[Bb g,wO g]
  exact k
theorem cI.keeps:∀{g:List (Nat×Nat)} {I X:List ai} {r f:List (Nat×Nat)},cI g I r X f->
 ay X=ay I/\am X=am I/\X.map (·.su)=I.map (·.su)/\f.length<=r.length+g.length/\∀c,c∉g.map (·.1)->az X c=az I c
 | [],I,X,r,f,⟨k,l⟩=>by subst k;subst l;exact⟨rfl,rfl,rfl,by simp,λ_ _=>rfl⟩
 | s::g,I,X,r,f,⟨u,h⟩=>by
  obtain⟨a,b,c,d,e⟩:=cI.keeps h
  refine⟨a.trans (jh (bX _ _) I),b.trans (dg (bX _ _) I),c.trans ?_, ?_,λq j=>?_⟩
  .unfold aJ
   rw[GU]
   refine Gz λi _=>?_
   show(if i.node.1=s.1 then _ else i).su=i.su
   split<;>rfl
  .simp only[Fd]
   split at d
   .simp at d;omega
   .omega
  .rw [Fw,GR,not_or]at j
   rw[e q j.2]
   unfold az aJ
   rw[List.find?_map]
   have hp:((λi:ai=>i.node.1==q)∘λi=>if i.node.1=s.1 then aO (az I s.1-1) u i else i)=λi=>i.node.1==q:=by
    funext i
    show((if i.node.1=s.1 then aO (az I s.1-1) u i else i).node.1==q)=_
    split<;>rfl
   have n:((λi:ai=>i.node.1==q)∘λi=>if i.node.1=s.1 then aO (((I.find? λi=>i.node.1==s.1).map (·.np.1)).getD 0-1) u i else i)=λi=>i.node.1==q:=hp
   rw[n]
   cases m:I.find? λi=>i.node.1==q with
   | none=>rfl
   | some i=>
    have:i.node.1=q:=by simpa using List.find?_some m
    rw[GD,if_neg (λz=>j.1 (this.symm.trans z))]
structure dI (m:List (Nat×Nat×Nat)) (rest:List (Nat×Nat)) (I:List ai) (rd:List (Nat×Nat)):Prop where
 nd:(am I).Nodup
 looks:fC m I
 mem:∀p∈rest,p.1∈am I
 ndr:(rest.map (·.1)).Nodup
 out:∀p∈rest,az I p.1= -1
 suc:∀i∈I,i.node.1∈rest.map (·.1)->∀s∈i.su,s.1∈am I/\s.1∉rest.map (·.1)
 suL:∀i∈I,i.su.length<=10
 len:rd.length+10*rest.length<=900
theorem BI {m:List (Nat×Nat×Nat)} {I X:List ai} (h:fC m I) (e:ay X=ay I):fC m X:=by
 intro i b
 have:(i.node.1,i.node.2,i.a)∈ay I:=by rw[<-e];exact Fc (f:=λi:ai=>(i.node.1,i.node.2,i.a)) b
 obtain⟨j,d,q⟩:=Gl.mp this
 have a:=h j d
 simp only[Prod.mk.injEq]at q
 rw[q.1,q.2.2]at a
 exact a
theorem lV {I:List ai} {c q:Nat} {f:ai->ai} (a:ie f) (h:c≠q):az (aJ c f I) q=az I q:=by
 unfold az aJ
 rw[List.find?_map]
 have hp:((λi:ai=>i.node.1==q)∘λi=>if i.node.1=c then f i else i)=λi=>i.node.1==q:=by
  funext i
  show((if i.node.1=c then f i else i).node.1==q)=_
  split
  .rw [(a i).2]
  .rfl
 rw[hp]
 cases b:I.find? λi=>i.node.1==q with
 | none=>rfl
 | some i=>
  have:i.node.1=q:=by simpa using List.find?_some b
  rw[GD,if_neg (λz=>h (z.symm.trans this))]
theorem jL {I:List ai} {i:ai} (a:(am I).Nodup) (h:i∈I):bj I i.node.1=i.su:=by
 unfold bj
 induction I with
 | nil=>cases h
 | cons j I b=>
  unfold am at a
  rw[Fw,GQ]at a
  rcases GR.mp h with rfl | h
  .simp
  .have:¬j.node.1=i.node.1:=λq=>a.1 (Gl.mpr ⟨i,h,q.symm⟩)
   rw[HR (by simpa using this)]
   exact b a.2 h
theorem u9 {m:List (Nat×Nat×Nat)} {p:Nat×Nat} {y:List (Nat×Nat)} {I:List ai} {w:List (Nat×Nat)} (C:dI m (p::y) I w):
 ∃a k,look? m p.1=some a.a/\a.np.1= -1/\bj I p.1=a.su/\(aB I).Perm (a.cells++aB k)/\fC m k/\(am k).Nodup/\(∀s∈a.su,s.1∈am k)/\w.length+a.su.length<=1000/\
  ∀u X x,cI a.su k w X x->∃J,((aO (-2) u a).cells++aB X).Perm (aB J)/\cI (bj I p.1) (aJ p.1 (aO (-2) u) I) w J x/\dI m y J x:=by
 obtain⟨b,a,d,rfl,e,M,N⟩:=jO C.nd (C.mem p E2)
 have o:a∈b++a::d:=FH _ E2
 have S:=kr C.nd o
 have F:=jL C.nd o
 rw[e]at S F
 have Q:=C.looks a o
 rw[e]at Q
 have hk:am (b++a::d)=am b++a.node.1::am d:=by unfold am;rw[Ff,Fw]
 have P:am (b++d)=am b++am d:=Ff ..
 have R:=C.nd
 rw[hk,(List.perm_middle (l₁:=am b) (a:=a.node.1) (l₂:=am d)).nodup_iff,GQ]at R
 have G:∀s∈a.su,s.1∈am (b++a::d)/\s.1∉(p::y).map (·.1):=C.suc a o (by rw[e];exact E2)
 have U:∀s∈a.su,a.node.1≠s.1:=λs f q=>(G s f).2 (by rw[<-q,e];exact E2)
 have Z:=C.len
 have io:=C.suL a o
 simp only[Fd]at Z
 refine⟨a,b++d,Q, ?_,F,hU ..,λi g=>C.looks i ?_,by rw[P];exact R.2,λs f=>?_,by omega,λu X x Y=>?_⟩
 .rw [<-S];exact C.out p E2
 .rcases GE.mp g with q | q
  .exact F5 _ q
  .exact FH _ (E4 _ q)
 .have h:=(G s f).1
  rw[hk]at h
  rw[P]
  rcases GE.mp h with q | q
  .exact F5 _ q
  .rcases GR.mp q with q | q
   .exact absurd q.symm (U s f)
   .exact FH _ q
 .obtain ⟨A,B,rfl,O⟩:=Y.ins (i:=aO (-2) u a) U
  refine⟨A++aO (-2) u a::B,(hU ..).symm, ?_, ?_⟩
  .rw [F,lj M e N];exact O
  .obtain ⟨k1,k2,k3,k4,k5⟩:=O.keeps
   have m0:ay (b++aO (-2) u a::d)=ay (b++a::d):=by unfold ay;rw[Ff,Ff];rfl
   have k0:am (b++aO (-2) u a::d)=am (b++a::d):=by unfold am;rw[Ff,Ff];rfl
   have s0:(b++aO (-2) u a::d).map (·.su)=(b++a::d).map (·.su):=by rw[Ff,Ff];rfl
   have v:=k2.trans k0
   have W:=k3.trans s0
   have V:∀i∈A++aO (-2) u a::B,∃j∈b++a::d,j.node.1=i.node.1/\j.su=i.su:=λi g=>by
    obtain⟨n,r,q⟩:=Iu.mp g
    have H:(A++aO (-2) u a::B).length=(b++a::d).length:=by
     have:=congrArg Fo W
     simpa using this
    refine⟨(b++a::d)[n]'(H▸r),List.getElem_mem _, ?_, ?_⟩
    .have:=congrArg (λl=>l[n]?) v
     unfold am at this
     simp only[Fl]at this
     rw[Fh r,Fh (H▸r),q]at this
     simpa using this.symm
    .have:=congrArg (λl=>l[n]?) W
     simp only[Fl]at this
     rw[Fh r,Fh (H▸r),q]at this
     simpa using this.symm
   have E:=C.ndr
   rw[Fw,GQ]at E
   refine⟨by rw[v];exact C.nd,BI C.looks (k1.trans m0),λq t=>by rw[v];exact C.mem q (E4 _ t),E.2,λq t=>?_,λi g hr s f=>?_,λi g=>?_, ?_⟩
   .have T:q.1∈y.map (·.1):=Fc t
    rw[k5 q.1 λz=>?_]
    .have:az (b++aO (-2) u a::d) q.1=az (b++a::d) q.1:=by
      have gt:p.1≠q.1:=λz=>E.1 (z▸T)
      have:=lV (I:=b++a::d) (bX (-2) u) gt
      rw[lj M e N]at this
      exact this
     rw[this]
     exact C.out q (E4 _ t)
    .obtain ⟨s,f,z⟩:=Gl.mp z
     exact(G s f).2 (by rw[z];exact E4 _ T)
   .obtain ⟨j,D,q1,L⟩:=V i g
    rw[v]
    have:=C.suc j D (by rw[q1];exact E4 _ hr) s (L▸f)
    exact⟨this.1,λz=>this.2 (E4 _ z)⟩
   .obtain ⟨j,D,_,L⟩:=V i g
    rw[<-L];exact C.suL j D
   .omega
noncomputable def Dl (P:E8) (k:Nat×Nat×Nat) (S t n:Nat) (e:Nat):Obj:=
 bD [es P [115,101,108,102] k.1 (.ref S),es P [110,111,100,101,115] k.2.1 (.ref t),es P [110,50,105] k.2.2 (.ref n)] e
noncomputable def pS (P:E8) (m:List E6):Prop:=m=[]\/∃k s b,m=gW P k s b
noncomputable def lF (P:E8) (a i f t o S s:Nat) (k:Nat×Nat×Nat×Nat) (n r l:Nat) (p b:Int×Nat) (m:List (Nat×Nat×Nat)) (e:Nat) (h:Obj) (j g d:List (Nat×Nat)) (I:List ai):af:={d:=20,α:=(List ai×List (Nat×Nat)×Nat)×Int×Nat,c:=DR P a f,need:=[(S,bd s),(s,be P k n (.ref r) p b),(n,dO P (.type "dict") none .ref m e),(r,ae (d.map cv) l),(t,aR (j.map cv) o),(a,aW "tuple_iterator" t i),(f,h)],put:=λy=>[bd s,be P k n (.ref r) p y.2,dO P (.type "dict") none .ref m e,ae (y.1.2.1.map cv) y.1.2.2],post:=λy=>ec g I d y.1.1 y.1.2.1/\y.2.1=b.1+g.length,needB:=[aB I],putB:=λy=>[aB y.1.1]}
theorem DQ (w:E9) (F D t M S L:Nat) (k:Nat×Nat×Nat×Nat) (j H:Nat) (G:Int×Nat) (m:List (Nat×Nat×Nat)) (s:Nat) (v:List (Nat×Nat)):
 ∀(d:List (Nat×Nat)) (i:Nat) (b:Nat×Nat×Nat×Nat×Nat×Nat) (q:Nat) (A:Nat×Nat) (y:Fb) (h:List E6) (f g:Nat) (n:Int×Nat) (r:List (Nat×Nat)) (I:List ai),v.drop i=d->pS w.params h->dI m d I r->
  ab (env w) (lF w.params F i D t M S L k j H g G n m s (kD w.params b S t j q A y h f) v d r I):=by
 intro d
 induction d with
 | nil=>
  intro i b q A y h f g n r I V E C
  exact ct (have IB:v[i]? =none:=(aV V);λ_ N=>.seg 412333662209 λX=>.use _ (ir w F t i M cv v IB) [5,4] [] λx2 O=>.seg 4099 λY=>N (((I,r,g),n.1,n.2)) ⟨⟨rfl,rfl⟩,by simp⟩ [4,4,4,4] [] [0])
 | cons p d ih=>
  intro i b q A y h f g n r I V E C
  obtain⟨Z,O⟩:=aQ V
  obtain⟨a,B,hl,Iw,IN,ho,hL,hn,hm,hz,Iv⟩:=u9 C
  have Ix:∀(b:Nat×Nat×Nat×Nat×Nat×Nat) (q:Nat) (A:Nat×Nat) (y:Fb) (h:List E6) (f g:Nat) (n:Int×Nat) (r:List (Nat×Nat)) (J:List ai),dI m d J r->pS w.params h->ab (env w) (lF w.params F (i+1) D t M S L k j H g G n m s (kD w.params b S t j q A y h f) v d r J):=λb q A y h f g n r J hC E=>ih (i+1) b q A y h f g n r J O E hC
  by_cases W:a.su=[]
  .exact av (have h0:a.su[0]? =none:=(by rw[W];rfl);λ_ N=>.view [] [0] _ _ _ _ (bw ho) (.seg 549772623873 λX=>.use _ (fK w F t i M cv v p Z) [7,6] [] λx2 O=>.seg 0x7001009007007007007009009009 λY=>.use _ (kG w j none s (p.1) (p.2) m (a.a) hl) [6] [] λx4 h4=>.seg 0x1000009009009004000004000000001000000000004000000001000001000000000000000000000000004001000000000004009009009 λO5=>.use _ (gn w (a.np.1) (-1:Int) (a.np.2) 1766 Iw) [] [] λx6 h6=>.seg 0x1001005001005005004000004000000001000000000004000000001000001000000000000000000000000004001000000000004009004000004000000001000000000004000000001000001000000000000000004000004001000004001000000000004009000 λQ=>.seg 68736258049 λO8=>.use _ (ch w (Q 2) (a.sc) 0 (a.n) cv (a.su) h0) [0,4] [] λx9 h9=>.seg 0x100a00000900900000000000900100000000000900c001003 λIA=>.use _ (b8 w (n.1) 1 (n.2) (IA 1) (n.1+1) rfl) [] [] λIz IM=>.seg 0xa00a00a000009000000000009000009001000009001000000000009 λIK=>.pick _ _ ((Iv 1769 B r (by rw[W];exact⟨rfl,rfl⟩))) λJ u=>have R:List.Perm (ai.cells (aO (-2:Int) 1769 a)++aB B) (aB J):=(Fx u);have T:cI (bj I p.1) (aJ p.1 (aO (-2:Int) 1769) I) r J r:=(Fx (Fg u));have U:dI m d J r:=(Fg (Fg u)); .view [7,1] [0] _ _ _ _ (aX R) (.use _ (Ix (b.1,b.2.1,b.2.2.1,b.2.2.2.1,b.2.2.2.2.1,b.2.2.2.2.2) (a.a) p (Gh a.np.1 a.np.2) h f g (n.1+1,Iz) r J U E) [6,6,3,5,4,3,3] [0] λo io=>have IE:ec d J r o.1.1 o.1.2.1:=(Fx io);have IF:o.2.1=(n.1+1,Iz).1+(↑(Fo d):Int):=(Fg io);N (((o.1.1,o.1.2.1,o.1.2.2),o.2.1,o.2.2)) ⟨⟨1769,J,_,T,IE⟩,by rw[IF];simp;omega⟩ [0,0,0,0] [] [0])))
  .have IG:∀(b:Nat×Nat×Nat×Nat×Nat×Nat) (P f:Nat) (st:Fb),ab (env w) (iJ w.params P 0 D t S L k j H g G n m s b a.a a.sc a.n p st h f a.su a.su r B):=by
    intro b P f st
    rcases E with rfl | ⟨kd,s0,b0,rfl⟩
    .obtain ⟨II,su,e⟩:=FC W
     rw[e]
     exact qP w P D t S L k j H G n m s b a.a a.sc a.n p st II su f g r B hL hn (e▸hm) (e▸hz)
    .exact lu w P D t S L k j H G n m s b a.a a.sc a.n p st kd a.su a.su 0 s0 b0 f g r B rfl hL hn hm hz
   exact av (λ_ N=>.view [] [0] _ _ _ _ (bw ho) (.seg 549772623873 λX=>.use _ (fK w F t i M cv v p Z) [7,6] [] λx2 O=>.seg 0x7001009007007007007009009009 λY=>.use _ (kG w j none s (p.1) (p.2) m (a.a) hl) [6] [] λx4 h4=>.seg 0x1000009009009004000004000000001000000000004000000001000001000000000000000000000000004001000000000004009009009 λO5=>.use _ (gn w (a.np.1) (-1:Int) (a.np.2) 1766 Iw) [] [] λx6 h6=>.seg 0x1001005001005005004000004000000001000000000004000000001000001000000000000000000000000004001000000000004009004000004000000001000000000004000000001000001000000000000000004000004001000004001000000000004009000 λQ=>.use _ (IG (b.1,b.2.1,b.2.2.1,b.2.2.2.1,b.2.2.2.2.1,b.2.2.2.2.2) (Q 2) f (Gh a.np.1 a.np.2)) [6,6,1,5,4,4,0] [0] λx h8=>.seg 0x1002000001001000000000001001000000000001006 λO9=>.use _ (b8 w (n.1) 1 (n.2) (O9 1) (n.1+1) rfl) [] [] λIy IL=>.seg 0x2002002000001000000000001000001001000001001000000000001 λIJ=>.pick _ _ (Iv 1769 _ _ h8) λJ u=>have R:List.Perm (ai.cells (aO (-2:Int) 1769 a)++aB x.1.1) (aB J):=(Fx u);have T:cI (bj I p.1) (aJ p.1 (aO (-2:Int) 1769) I) r J x.1.2.1:=(Fx (Fg u));have U:dI m d J x.1.2.1:=(Fg (Fg u)); .view [8,4] [0] _ _ _ _ (aX R) (.use _ (Ix (b.1,b.2.1,b.2.2.1,b.2.2.2.1,b.2.2.2.2.1,b.2.2.2.2.2) (a.a) p (Gh a.np.1 a.np.2) (gW w.params x.2.1 x.2.2.1 x.2.2.2.1) (x.2.2.2.2) (x.1.2.2) (n.1+1,Iy) (x.1.2.1) J U (by(first| exact Or.inl rfl | exact Or.inr ⟨_,_,_,rfl⟩))) [0,0,0,0,2,1,0] [0] λl gt=>have IC:ec d J x.1.2.1 l.1.1 l.1.2.1:=(Fx gt);have ID:l.2.1=(n.1+1,Iy).1+(↑(Fo d):Int):=(Fg gt);N (((l.1.1,l.1.2.1,l.1.2.2),l.2.1,l.2.2)) ⟨⟨1769,J,_,T,IC⟩,by rw[ID];simp;omega⟩ [0,0,0,0] [] [0])))
theorem DP (w:E9) (q v t s S B:Nat) (k:Nat×Nat×Nat×Nat) (d A g:Nat) (y n:Int×Nat) (m:List (Nat×Nat×Nat)) (l:Nat) (a:Nat×Nat×Nat) (f:Nat) (G r:List (Nat×Nat)) (I:List ai) (Iy:dI m G I r):
 ab (env w) (lF w.params q 0 v t s S B k d A g y n m l (Dl w.params a S t d f) G G r I):=by
 cases io:G with
 | nil=>subst io;exact ct (λ_ C=>.seg 412333662209 λV=>.use _ (ir w q t 0 s cv [] rfl) [5,4] [] λx2 E=>.seg 4099 λu=>C (((I,r,g),n.1,n.2)) ⟨⟨rfl,rfl⟩,by simp⟩ [4,4,4,4] [] [0])
 | cons p b=>
  subst io
  obtain⟨W,E⟩:=aQ (l:=p::b) (i:=0) rfl
  obtain⟨i,D,hl,gt,IM,ho,hL,hn,hm,hz,Z⟩:=u9 Iy
  have Iv:∀(a:Nat×Nat×Nat×Nat×Nat×Nat) (L:Nat) (U:Nat×Nat) (T:Fb) (F:List E6) (f g:Nat) (n:Int×Nat) (r:List (Nat×Nat)) (J:List ai),dI m b J r->pS w.params F->ab (env w) (lF w.params q 1 v t s S B k d A g y n m l (kD w.params a S t d L U T F f) (p::b) b r J):=λa L U T F f g n r J hC IF=>DQ w q v t s S B k d A y m l (p::b) b 1 a L U T F f g n r J E IF hC
  by_cases Q:i.su=[]
  .exact av (have h0:i.su[0]? =none:=(by rw[Q];rfl);λ_ C=>.view [] [0] _ _ _ _ (bw ho) (.seg 549772623873 λV=>.use _ (fK w q t 0 s cv (p::b) p W) [7,6] [] λx2 E=>.seg 0x7001009007007007007009009009 λu=>.use _ (kG w d none l (p.1) (p.2) m (i.a) hl) [6] [] λx4 h4=>.seg 0x1000009009009004000004000000001000000000004000000001000001000000000000000000000000004001000000000004009009009 λO=>.use _ (gn w (i.np.1) (-1:Int) (i.np.2) 1766 gt) [] [] λx6 h6=>.seg 0x1001005001005005004000004000000001000000000004000000001000001000000000000000000000000004001000000000004009004000004000000001000000000004000000001000001000000000000000004000004001000004001000000000004009000 λH=>.seg 68736258049 λO8=>.use _ (ch w (H 2) (i.sc) 0 (i.n) cv (i.su) h0) [0,4] [] λx9 h9=>.seg 0x100a00000900900000000000900100000000000900c001003 λIz=>.use _ (b8 w (n.1) 1 (n.2) (Iz 1) (n.1+1) rfl) [] [] λIx IL=>.seg 0xa00a00a000009000000000009000009001000009001000000000009 λIJ=>.pick _ _ ((Z 1769 D r (by rw[Q];exact⟨rfl,rfl⟩))) λJ o=>have M:List.Perm (ai.cells (aO (-2:Int) 1769 i)++aB D) (aB J):=(Fx o);have N:cI (bj I p.1) (aJ p.1 (aO (-2:Int) 1769) I) r J r:=(Fx (Fg o));have P:dI m b J r:=(Fg (Fg o)); .view [7,1] [0] _ _ _ _ (aX M) (.use _ (Iv (a.1,a.2.1,a.2.2,u 0,O 0,O 2) (i.a) p (Gh i.np.1 i.np.2) ([]) (f+1+1+1) g (n.1+1,Ix) r J P (.inl rfl)) [6,6,3,5,4,3,3] [0] λj Y=>have IC:ec b J r j.1.1 j.1.2.1:=(Fx Y);have ID:j.2.1=(n.1+1,Ix).1+(↑(Fo b):Int):=(Fg Y);C (((j.1.1,j.1.2.1,j.1.2.2),j.2.1,j.2.2)) ⟨⟨1769,J,_,N,IC⟩,by rw[ID];simp;omega⟩ [0,0,0,0] [] [0])))
  .have IE:∀(a:Nat×Nat×Nat×Nat×Nat×Nat) (R f:Nat) (st:Fb),ab (env w) (iJ w.params R 0 v t S B k d A g y n m l a i.a i.sc i.n p st [] f i.su i.su r D):=by
    intro a R f st
    obtain⟨IG,su,e⟩:=FC Q
    rw[e]
    exact qP w R v t S B k d A y n m l a i.a i.sc i.n p st IG su f g r D hL hn (e▸hm) (e▸hz)
   exact av (λ_ C=>.view [] [0] _ _ _ _ (bw ho) (.seg 549772623873 λV=>.use _ (fK w q t 0 s cv (p::b) p W) [7,6] [] λx2 E=>.seg 0x7001009007007007007009009009 λu=>.use _ (kG w d none l (p.1) (p.2) m (i.a) hl) [6] [] λx4 h4=>.seg 0x1000009009009004000004000000001000000000004000000001000001000000000000000000000000004001000000000004009009009 λO=>.use _ (gn w (i.np.1) (-1:Int) (i.np.2) 1766 gt) [] [] λx6 h6=>.seg 0x1001005001005005004000004000000001000000000004000000001000001000000000000000000000000004001000000000004009004000004000000001000000000004000000001000001000000000000000004000004001000004001000000000004009000 λH=>.use _ (IE (a.1,a.2.1,a.2.2,u 0,O 0,O 2) (H 2) (f+1+1+1) (Gh i.np.1 i.np.2)) [6,6,1,5,4,4,0] [0] λx h8=>.seg 0x1002000001001000000000001001000000000001006 λO9=>.use _ (b8 w (n.1) 1 (n.2) (O9 1) (n.1+1) rfl) [] [] λIw IK=>.seg 0x2002002000001000000000001000001001000001001000000000001 λII=>.pick _ _ (Z 1769 _ _ h8) λJ o=>have M:List.Perm (ai.cells (aO (-2:Int) 1769 i)++aB x.1.1) (aB J):=(Fx o);have N:cI (bj I p.1) (aJ p.1 (aO (-2:Int) 1769) I) r J x.1.2.1:=(Fx (Fg o));have P:dI m b J x.1.2.1:=(Fg (Fg o)); .view [8,4] [0] _ _ _ _ (aX M) (.use _ (Iv (a.1,a.2.1,a.2.2,u 0,O 0,O 2) (i.a) p (Gh i.np.1 i.np.2) (gW w.params x.2.1 x.2.2.1 x.2.2.2.1) (x.2.2.2.2) (x.1.2.2) (n.1+1,Iw) (x.1.2.1) J P (by(first| exact Or.inl rfl | exact Or.inr ⟨_,_,_,rfl⟩))) [0,0,0,0,2,1,0] [0] λh X=>have IA:ec b J x.1.2.1 h.1.1 h.1.2.1:=(Fx X);have IB:h.2.1=(n.1+1,Iw).1+(↑(Fo b):Int):=(Fg X);C (((h.1.1,h.1.2.1,h.1.2.2),h.2.1,h.2.2)) ⟨⟨1769,J,_,N,IA⟩,by rw[IB];simp;omega⟩ [0,0,0,0] [] [0])))
noncomputable def sv (P:E8) (S s:Nat) (k:Nat×Nat×Nat×Nat) (n r f:Nat) (b a:Int×Nat) (m:List (Nat×Nat×Nat)) (e:Nat) (p d:List (Nat×Nat)) (I:List ai):af:={d:=30,α:=(List ai×List (Nat×Nat)×Nat)×Int×Nat,c:=.call (.ref 1196) ⟨.ref S::p.map cv,[]⟩,need:=[(S,bd s),(s,be P k n (.ref r) b a),(n,dO P (.type "dict") none .ref m e),(r,ae (d.map cv) f)],r:=λx=>.ok (.ret .none),put:=λy=>[bd s,be P k n (.ref r) b y.2,dO P (.type "dict") none .ref m e,ae (y.1.2.1.map cv) y.1.2.2],post:=λy=>ec p I d y.1.1 y.1.2.1/\y.2.1=a.1+p.length,needB:=[aB I],putB:=λy=>[aB y.1.1]}
theorem DN (w:E9) (S s:Nat) (k:Nat×Nat×Nat×Nat) (b f g:Nat) (d n:Int×Nat) (m:List (Nat×Nat×Nat)) (e:Nat) (p r:List (Nat×Nat)) (I:List ai) (C:dI m p I r) (h:p.length<=6):ab (env w) (sv w.params S s k b f g d n m e p r I):=by
 let a:∀{w:E9} {p:List (Nat×Nat)} {S s:Nat} {k:Nat×Nat×Nat×Nat} {b f g:Nat} {d n:Int×Nat} {m:List (Nat×Nat×Nat)} {e:Nat} {r:List (Nat×Nat)} {I:List ai} (C:dI m p I r),PP (env w) (sv w.params S s k b f g d n m e p r I):= @λw p S s k b f g d n m e r I C _ j=>
  .seg 0x1001002001002002001001001004000003003000000000003001000000000003001004000003003000000000003001000000000003001001001001001001000000001 λO=>
  .use _ (DP w (O 7) (O 1) (O 0) 0 S s k b f g d n m e (O 2,O 3,O 6) 3 (p) r I C) [3,3,3,3,2,0,0] [0] λx i=>have o:ec p I r x.1.1 x.1.2.1:=(Fx i);have q:x.2.1=n.1+(↑(Fo p):Int):=(Fg i);
  .seg 0 λl=>
  j (((x.1.1,x.1.2.1,x.1.2.2),x.2.1,x.2.2)) i [0,0,0,0] [] [0]
 rcases p with _ | ⟨t,p⟩
 .exact av (a C)
 rcases p with _ | ⟨u,p⟩
 .exact av (a C)
 rcases p with _ | ⟨v,p⟩
 .exact av (a C)
 rcases p with _ | ⟨y,p⟩
 .exact av (a C)
 rcases p with _ | ⟨A,p⟩
 .exact av (a C)
 rcases p with _ | ⟨B,p⟩
 .exact av (a C)
 rcases p with _ | ⟨D,p⟩
 .exact av (a C)
 .simp at h
noncomputable def fx (a:List Nat) (k:Str):Bool:=a.any λc=>decide (k=⟨⟨[c]⟩⟩)
structure cx (w:E9) (o:Obj) (cs:List Nat):Prop where
 of:o.SetObjOf (sk w) (fx cs) cs.length
noncomputable def bK (z:Array (Int×Fb)×Nat×SetTable):Obj:={cls:=.type "set",data:=.set z.1 z.2.1 z.2.2}
theorem yf {w:E9} {o:Obj} {cs:List Nat} (h:cx w o cs):∃z,o=bK z:=by
 obtain⟨⟨a,b,e⟩,es,g,t,f,_⟩:=h.of
 obtain⟨c,d,i,s⟩:=o
 simp only at a b e f
 subst a;subst b;subst e;subst f
 exact⟨(es,g,t),rfl⟩
theorem vG (a:List Nat) (c:Nat):fx a ⟨⟨[c]⟩⟩=decide (c∈a):=by
 unfold fx
 rw[Bool.eq_iff_iff]
 simp only[List.any_eq_true,decide_eq_true_eq]
 constructor
 .rintro ⟨d,b,e⟩
  injection e with e;injection e with e;injection e with e
  exact e▸b
 .intro h;exact⟨c,h,rfl⟩
noncomputable def ny (a:Nat) (o:Obj) (c t:Nat) (b:Bool):af:={d:=2,α:=Unit,c:=.builtin "set.__contains__" ⟨[.ref a,.str ⟨⟨[c]⟩⟩ t],[]⟩,need:=[(a,o)],r:=λ_=>.ok (.ret (.bool b)),put:=λ_=>[o]}
theorem rj (w:E9) (a:Nat) (o:Obj) (d:List Nat) (c t:Nat) (b:Bool) (j:cx w o d) (l:d.length<=1000) (h:decide (c∈d)=b):ab (env w) (ny a o c t b):=by
 refine aN λA s G k m P e=>?_
 have g:s.heap.get? a=some o:=P.has (a,_) E2
 show Fr _ _ (FM table (.builtin "set.__contains__" ⟨[.ref a,.str ⟨⟨[c]⟩⟩ t],[]⟩)) _ _ s
 rw[aE _ _ entry_set_contains]
 unfold Builtin.«frozenset.__contains__» Builtin.Frozenset.oneOther
 refine E3 ?_
 show Fr _ _ (Builtin.Frozenset.addrOf (.ref a)>>=λx=>pure (x,GT ⟨⟨[c]⟩⟩ t)) _ _ s
 refine E3 (E5 (E5 ?_))
 unfold Builtin.Frozenset.withSetAsKey setContains
 refine E3 (wpAny_tryCatch ?_)
 refine Gj (E3 ((sk w).pyHash (Gy pq w _ _) ?_))
 have f:Heap.SetOf (sk w) s.heap a (fx d) d.length:=j.of.setOf g (by unfold scanBound;omega)
 refine E3 (wpAny_setFind_of (s:={s with toks:=s.toks+1}) (knd:=sk w) (k:=⟨⟨[c]⟩⟩) (Gy pq w _ _) rfl f λr i=>E5 (E5 ?_))
 rw[i,vG,h]
 exact e () _ trivial ((ap.start P).toks _)
theorem lz (w:E9) (a:Nat) (z:Array (Int×Fb)×Nat×SetTable) (b:List Nat) (c t:Nat) (e:cx w (bK z) b) (d:b.length<=1000) (h:c∈b):ab (env w) (ny a (bK z) c t true):=rj _ _ _ _ _ _ _ e d (by simp[h])
theorem lA (w:E9) (a:Nat) (z:Array (Int×Fb)×Nat×SetTable) (b:List Nat) (c t:Nat) (e:cx w (bK z) b) (d:b.length<=1000) (h:¬c∈b):ab (env w) (ny a (bK z) c t false):=rj _ _ _ _ _ _ _ e d (by simp[h])
noncomputable def yu (w:E9) (a:Nat) (z:Array (Int×Fb)×Nat×SetTable) (d:List Nat) (c t:Nat):af:={d:=2,α:=Array (Int×Fb)×Nat×SetTable,c:=.builtin "set.add" ⟨[.ref a,.str ⟨⟨[c]⟩⟩ t],[]⟩,need:=[(a,bK z)],r:=λ_=>.ok (.ret .none),put:=λb=>[bK b],post:=λb=>cx w (bK b) (c::d)}
theorem rm (w:E9) (a:Nat) (z:Array (Int×Fb)×Nat×SetTable) (d:List Nat) (c t:Nat) (B:cx w (bK z) d) (E:d.length<=1000) (h:¬c∈d):ab (env w) (yu w a z d c t):=by
 refine aN λA s G D H P m=>?_
 have u:s.heap.get? a=some (bK z):=P.has (a,_) E2
 show Fr _ _ (FM table (.builtin "set.add" ⟨[.ref a,.str ⟨⟨[c]⟩⟩ t],[]⟩)) _ _ s
 rw[aE _ _ F.entry_set_add]
 unfold Builtin.«set.add» Builtin.Frozenset.oneOther
 refine E3 ?_
 show Fr _ _ (Builtin.Frozenset.addrOf (.ref a)>>=λx=>pure (x,GT ⟨⟨[c]⟩⟩ t)) _ _ s
 refine E3 (E5 (E5 ?_))
 unfold setAdd
 refine E3 (Gj (E3 ((sk w).pyHash (Gy pq w _ _) ?_)))
 have n:Heap.SetOf (sk w) s.heap a (fx d) d.length:=B.of.setOf u (by unfold scanBound;omega)
 refine wpAny_setAddHashed_of (s:={s with toks:=s.toks+1}) (knd:=sk w) (k:=⟨⟨[c]⟩⟩) (Gy pq w _ _) rfl n (by unfold scanBound;omega) λl i o=>?_
 obtain⟨I,v,g⟩:=o.objOf
 refine E5 ?_
 have e:(λk=>fx d k || decide (k=⟨⟨[c]⟩⟩))=fx (c::d):=by
  funext k
  unfold fx
  rw[List.any_cons,Bool.or_comm]
 have j:(if fx d ⟨⟨[c]⟩⟩=true then d.length else d.length+1)=(c::d).length:=by
  rw[vG];simp[h]
 rw[e,j]at g
 obtain⟨C,rfl⟩:=yf (w:=w) (cs:=c::d) ⟨g⟩
 refine m C _ ⟨g⟩ ?_
 refine⟨⟨rfl,rfl,rfl⟩,λb x p r=>?_,λq f=>?_,λq f=>?_, ?_, ?_⟩
 .exact (i.2 b (λy=>r (by rw[y];exact E2))).trans p
 .rcases GR.mp f with rfl | f
  .exact v
  .cases f
 .rcases GR.mp f with rfl | f
  .exact .inl E2
  .cases f
 .exact GQ.mpr ⟨λy=>(nomatch y),Gv⟩
 .show s.heap.objs.size<=l.objs.size
  rw[i.1];exact FO _
theorem yg (w:E9) (l:Bool):cx w (bK (#[],0,.fresh 0 0 l)) []:=by
 refine⟨?_⟩
 have e:fx []=λ_=>false:=rfl
 rw[e]
 exact setObjOf_fresh l
section
variable {γ:Type}
noncomputable def nF (g:γ->Fb) (l n:Nat) (a:List γ) (x:γ):af:={d:=1,α:=Nat,c:=.builtin "list.pop" ⟨[.ref l],[]⟩,need:=[(l,ae ((a++[x]).map g) n)],r:=λ_=>.ok (.ret (g x)),put:=λe=>[ae (a.map g) e],anyH:=true}
theorem z6 (g:γ->Fb) (w:E9) (l n:Nat) (b:List γ) (x:γ) (p:b.length<=100000):ab (env w) (nF g l n b x):=by
 refine ra λA s G o P m=>?_
 have h:s.heap.get? l=some (ae ((b++[x]).map g) n):=P.has (l,_) E2
 show Fr _ _ (FM table (.builtin "list.pop" ⟨[.ref l],[]⟩)) _ _ s
 rw[aE _ _ F.entry_list_pop]
 show Fr _ _ (Fy (.ref l)>>=_) _ _ s
 unfold Fy
 refine E3 (E3 (FN h rfl (E5 ?_)))
 rw[if_neg (by simp)]
 have i:(seqIndex? (-1) ((b++[x]).map g).toArray.size).bind (λk=>(((b++[x]).map g).toArray)[k]?.map (k, ·))=some (b.length,g x):=by
  unfold seqIndex?
  simp only[show((-1:Int)<0)from by decide,if_true]
  rw[if_pos (by simp;omega),Option.bind_some]
  have j:((-1:Int)+((((b++[x]).map g).toArray.size:Nat):Int)).toNat=b.length:=by simp;omega
  rw[j,Fv,Fl]
  simp
 simp only[i]
 have e:FJ (λa=>a.eraseIdxIfInBounds b.length) (ae ((b++[x]).map g) n)=ae (b.map g) (if(b.map g).length=((b++[x]).map g).length then n else n+1):=e9 (by simp[List.eraseIdx_append_of_length_le])
 refine E3 (GV h rfl ?_ (by simp[Gw];omega) (by simp[Gw,Array.eraseIdxIfInBounds,List.length_eraseIdx];omega))
 refine E5 ?_
 have f:=(ap.start P).set (FJ λa=>a.eraseIdxIfInBounds b.length) (by exact E2) (by show(FJ (λa=>a.eraseIdxIfInBounds b.length) (ae ((b++[x]).map g) n)).isFreed=false;rw[e];rfl)
 have d:ap s {s with heap:=s.heap.update l (FJ λa=>a.eraseIdxIfInBounds b.length)} (nF g l n b x).own [(l,FJ (λa=>a.eraseIdxIfInBounds b.length) (ae ((b++[x]).map g) n))]:=f
 rw[e]at d
 exact m _ _ trivial d
theorem BZ (g:γ->Fb) (w:E9) (l n:Nat) (a:List γ) (t:Nat) (x:γ) (i:a.length<=100000):ab (env w) (r6 g l a n t x):=by
 refine aN λA s G f j P h=>?_
 have d:s.heap.get? l=some (ae ((a++[x]).map g) n):=P.has (l,_) E2
 have hk:∃k:Int,k= -1:=⟨-1,rfl⟩
 obtain⟨k,hk⟩:=hk
 show Fr _ _ (FM table (.builtin "list.__getitem__" ⟨[.ref l,.int (-1) t],[]⟩)) _ _ s
 rw[<-hk,aE _ _ F.entry_list_getitem]
 show Fr _ _ (GH (.int k t)>>=_) _ _ s
 refine E3 (wpAny_listSubscript_int (by rw[hk];decide) ?_)
 subst hk
 show Fr _ _ ((Fy (.ref l)>>=_)>>=_) _ _ s
 unfold Fy
 refine E3 (E3 (E3 (FN d rfl (E5 ?_))))
 have e:(seqIndex? (-1) ((a++[x]).map g).toArray.size).bind (λk=>(((a++[x]).map g).toArray)[k]?.map (k, ·))=some (a.length,g x):=by
  unfold seqIndex?
  simp only[show((-1:Int)<0)from by decide,if_true]
  rw[if_pos (by simp;omega),Option.bind_some]
  have b:((-1:Int)+((((a++[x]).map g).toArray.size:Nat):Int)).toNat=a.length:=by simp;omega
  rw[b,Fv,Fl]
  simp
 simp only[e]
 refine E5 (E5 ?_)
 exact h () _ trivial (ap.start P)
end
structure aF where
 env:Env
 a:Addr
 o:Obj
 sl:Array (Option Fb)
noncomputable def aF.cell (x:aF):dR:=(x.a,{x.o with slots:=x.sl})
noncomputable def a8 (L:List aF):ao:=L.map aF.cell
noncomputable def du (L:List aF):List Env:=L.map (·.env)
noncomputable def aC (L:List aF):List (Env×Addr×Obj):=L.map λx=>(x.env,x.a,x.o)
structure mH (x:aF):Prop where
 frame:x.env.frame=some x.a
 kind:x.env.scope.kind≠ .module
 live:x.o.isFreed=false
theorem tX {o:Obj} {b} (h:o.isFreed=false):({o with slots:=b}:Obj).isFreed=false:=by
 obtain⟨c,d,a,s⟩:=o
 cases a<;>first| rfl | exact h
noncomputable def iC (t a:Nat):Obj:={cls:=.type "StopIteration",data:=.fields (#[.ref t,.ref a,.none,.none,.bool false,.none]++ownMembersOf (.type "StopIteration") [])}
noncomputable def f1 (f:Nat) (a:Fb) (p:Fb×Fb×Fb×Fb×Fb×Fb):Obj:={cls:=.type "traceback",data:=.fields #[.none,.ref f,.none,a,.none,p.1,p.2.1,p.2.2.1,p.2.2.2.1,p.2.2.2.2.1,p.2.2.2.2.2]}
section
variable {w:E9} {A:Around} {E:Fb->Fe->Prop}
noncomputable def tE (x:aF) (v:Fb):Array (Option Fb):= #[some x.env.code,some (.ref x.env.globals),x.sl.getD 2 none,some v,x.sl.getD 4 none,x.env.func.map Fs,some (.ref x.env.builtins)]++(x.env.cells.map λc=>some (.ref c.2)).toArray
theorem vQ {i:Fe} {own:List Addr}:∀(L:List aF) {s:Fe} {rest:ao} {Q:Unit->Fe->Prop},(∀x∈L,mH x)->(∀x∈L,x.a∈own)->ap i s own (a8 L++rest)->
 (∀d a,aC a=aC L->ap i d own (a8 a++rest)->Q () d)->Fr (FT pq w) A (readyFrames (du L)) Q E s
 | [],s,rest,Q,_,_,h,e=>E5 (e s [] rfl h)
 | x::L,s,rest,Q,hk,j,h,e=>by
  have k:=hk x E2
  have m:s.heap.get? x.a=some {x.o with slots:=x.sl}:=h.has x.cell E2
  show Fr _ _ (readyFrames (x.env::du L)) _ _ _
  unfold readyFrames
  simp only[k.frame]
  refine E3 (wpAny_load m ?_)
  by_cases l:(x.sl.getD 3 none).isSome=true
  .rw [if_pos l]
   exact E5 (e s (x::L) rfl h)
  .rw [if_neg l]
   have r:∀{Q:Bool->Fe->Prop},Q false s->Fr (FT pq w) A (behindIsImport x.env (du L)) Q E s:=λf=>by
    unfold behindIsImport
    rw[if_pos (by simp[k.kind])]
    exact E5 f
   refine E3 (r ?_)
   have B:∀{Q:Fb->Fe->Prop},(∀v,Q v s)->Fr (FT pq w) A (keptBack x.env false (du L)) Q E s:=λf=>by
    cases L with
    | nil=>exact wpAny_keptBack_nil f
    | cons y L=>exact E5 (f _)
   refine E3 (B λv=>?_)
   have n:=ap.upd (a:=x.a) (o:={x.o with slots:=x.sl}) (r:=a8 L++rest) h (λo=>{o with slots:= #[some x.env.code,some (.ref x.env.globals),o.slots.getD 2 none,some v,o.slots.getD 4 none,x.env.func.map Fs,some (.ref x.env.builtins)]++(x.env.cells.map λc=>some (.ref c.2)).toArray}) (λb y _ t z=>t (z▸j x E2)) (tX (tX k.live))
   refine E3 (wpAny_update m ?_)
   refine vQ L (rest:=(x.a,{x.o with slots:=_})::rest) (λy g=>hk y (E4 _ g)) (λy g=>j y (E4 _ g)) (n.perm List.perm_middle.symm) λd a u p=>?_
   have q:ap i d own (a8 a++aF.cell ⟨x.env,x.a,x.o,tE x v⟩::rest):=p
   refine e d (⟨x.env,x.a,x.o,tE x v⟩::a) ?_ (q.perm List.perm_middle)
   show _::aC a=_::aC L
   rw[u]
theorem EL {g s:Fe} {own:List Addr} {rest:ao} {x0:aF} {L:List aF} {e t:Nat} {Q:Unit->Fe->Prop} (H:A.frames=some (du (x0::L))) (hk:∀x∈x0::L,mH x) (M:∀x∈x0::L,x.a∈own)
 (J:∀b y,g.heap.get? b=some y->b∉own->b≠e) (h:ap g s own ((e,cK t)::(a8 (x0::L)++rest)))
 (C:∀m f n p,aC f=aC (x0::L)->ap g m own ((n,f1 x0.a (FV x0.a) p)::(e,iC t n)::(a8 f++rest))->Q () m):Fr (FT pq w) A (HU (.ref e) x0.env) Q E s:=by
 have k:=hk x0 E2
 have G:s.heap.get? e=some (cK t):=h.has (e,_) E2
 unfold HU
 simp only[k.frame]
 refine E3 (F1 G rfl (x:=.none) rfl ?_)
 rw[if_neg (by decide)]
 unfold frameOf
 refine E3 (E3 (wpAny_frameEnvs H ?_))
 have F:((du (x0::L)).dropWhile λx=>x.frame !=x0.env.frame)=du (x0::L):=by simp[du]
 rw[F]
 show Fr _ _ ((readyFrames (du (x0::L))>>=λ_=>pure (x0.env.frame.map Fs))>>=_) _ _ _
 refine E3 (E3 (vQ (x0::L) (rest:=(e,cK t)::rest) hk M (h.perm List.perm_middle.symm) λi f O o=>E5 ?_))
 rw[k.frame]
 refine E5 ?_
 refine E3 (wpAny_entryPlaceOf λl N=>?_)
 obtain⟨p,hp⟩:∃p:Fb×Fb×Fb×Fb×Fb×Fb,(if l.isEmpty then FX 6 FY else l)=[p.1,p.2.1,p.2.2.1,p.2.2.2.1,p.2.2.2.2.1,p.2.2.2.2.2]:=by
  rcases N with rfl | ⟨a,b,c,d,B,u,_,rfl⟩
  .exact ⟨(.none,.none,.none,.none,.none,.none),rfl⟩
  .exact ⟨(FV a,FV b,FV c,FV d,B,.bool u),rfl⟩
 unfold EntryCells.newEntry HV
 rw[hp]
 refine E3 (Gg ?_ (by size_fits))
 have q:=(o.push (f1 x0.a (FV x0.a) p) rfl)
 have j:ap g _ own ((e,cK t)::((i.heap.objs.size,f1 x0.a (FV x0.a) p)::(a8 f++rest))):=q.perm ((List.Perm.cons _ List.perm_middle).trans (.swap ..))
 have r:=j.upd (F9 λv=>v.setIfInBounds 1 (.ref i.heap.objs.size)) (λb y D I=>J b y D I) rfl
 refine Ga (j.has (e,_) E2) rfl (by simp;omega) ?_
 exact C _ f i.heap.objs.size p O (r.perm (.swap ..))
end
structure Go (kt:Nat->Option Obj) (s0:Fe) (own:List Addr) (s:Fe) (all:ao):Prop where
 inv:a9 kt s0.heap own s.heap all
 same:cZ s0 s
section
variable {kt:Nat->Option Obj} {s0 s s':Fe} {own:List Addr} {all all':ao}
theorem Go.start (P:d4 kt all s):Go kt s (keys all) s all:=⟨a9.start P,cZ.refl s⟩
theorem Go.pre (G:Go kt s0 own s all):d4 kt all s:=a9.pre (r:=[]) (by rw[FL];exact G.inv)
theorem Go.perm (G:Go kt s0 own s all) (p:all.Perm all'):Go kt s0 own s all':=⟨G.inv.perm p,G.same⟩
theorem Go.step (G:Go kt s0 own s all) (A:ap s s' (keys all) all'):Go kt s0 own s' all':=
 ⟨by have:=a9.rule (r:=[]) (by rw[FL];exact G.inv) A;rw[FL]at this;exact this,G.same.trans A.same⟩
theorem Go.after (G:Go kt s0 own s all):ap s0 s own all:=G.inv.after G.same
end
noncomputable def ax (e:bu) (T:af) (t:Sem Gq):Prop:=
 ∀(b:Ctx),b.handled=none->(∀es,T.outer=some es->envsOf b.below=es)->dQ T.d b->∀(p:Pos) (s:Fe) (F:HI->Fe->Prop),d4 e.kt T.all s->
  (∀x a,T.post x->ap s a T.own (T.res x)->F (T.r x) a)->
  wp (FT pq e.w) b t (λfin p a=>ca e.kt a.heap/\finPost (FT pq e.w) b F fin p a) (λv _ a=>ca e.kt a.heap/\F (.error v) a) p s
theorem qx {e:bu} {T:af} (t:Sem Gq) (a:bV e T) (h:(∀B c p,dP ⟨e.D,⟨pq,e.w.params⟩,e.kt,B,none,T.d⟩ a (.run c p .base t T.need) T.needB)=(∀B c p,eg ⟨e.D,⟨pq,e.w.params⟩,e.kt,B,none,T.d⟩ a (.run c p .base t T.need) T.needB)):ax e T t:=
 λi f b g p s F P d=>qw t a h i f b g p s F P d
theorem ax.flow {e:bu} {T:af} {t:Sem Flow} (h:ax e T (t>>=λf=>pure (.done f))) (b:Ctx) (l:b.handled=none) (i:∀es,T.outer=some es->envsOf b.below=es) (m:dQ T.d b) (p:Pos) (s:Fe) {Q:Flow->Pos->Fe->Prop} {E:Fb->Pos->Fe->Prop}
 (P:d4 e.kt T.all s) (j:∀x a p f,T.post x->ap s a T.own (T.res x)->T.r x=.ok f->Q f p a) (k:∀x a p v,T.post x->ap s a T.own (T.res x)->T.r x=.error v->E v p a):wp (FT pq e.w) b t Q E p s:=by
 have q:=h b l i m p s (λr a=>∀p,match r with|.ok f=>Q f p a |.error v=>E v p a) P (λx a g A p=>by
  cases d:T.r x with
  | ok f=>exact j x a p f g A d
  | error v=>exact k x a p v g A d)
 rw[E7]at q
 exact Fu _ _ _ (λv p s h=>h.2 p) (λv p s h=>h.2 p) _ _ q
theorem n8:∀L:List aF,du L=(aC L).map (·.1)
 | []=>rfl
 | x::L=>by show x.env::du L=x.env::(aC L).map (·.1);rw[n8 L]
structure cn (x:Env×Addr×Obj):Prop where
 frame:x.1.frame=some x.2.1
 kind:x.1.scope.kind≠ .module
 live:x.2.2.isFreed=false
theorem Ab {L:List aF} {S:List (Env×Addr×Obj)} (e:aC L=S) (h:∀x∈S,cn x):∀x∈L,mH x:=λx a=>by
 subst e
 have k:=h (x.env,x.a,x.o) (Gl.mpr ⟨x,a,rfl⟩)
 exact⟨k.frame,k.kind,k.live⟩
theorem Go.stepR {kt:Nat->Option Obj} {d s b:Fe} {own:List Addr} {U r a:ao} (G:Go kt d own s (U++r)) (A:ap s b (keys U) a):Go kt d own b (a++r):=⟨a9.rule G.inv A,G.same.trans A.same⟩
theorem Go.sub {kt:Nat->Option Obj} {a s:Fe} {own:List Addr} {U r:ao} (G:Go kt a own s (U++r)):Go kt a own s U:=⟨G.inv.sub,G.same⟩
noncomputable abbrev P6:=Fb×Fb×Fb×Fb×Fb×Fb
theorem w7 (b:Sem Flow) (h:ExceptHandler) (d:List ExceptHandler) (a:Env):tryStmt false b (h::d) (Hd [] a) [] a=(b.attempt>>=λr=>match r with
 |.ok .next=>Hd [] a
 |.ok f=>pure f
 |.error e=>HU e a>>=λ_=>(setFlight e none>>=λ_=>handleBy e a (h::d))):=by
 unfold tryStmt
 rw[if_pos (show([]:List Stmt).isEmpty=true from rfl)]
 refine congrArg (b.attempt>>= ·) (funext λr=>?_)
 cases r with
 | error e=>rfl
 | ok f=>cases f<;>rfl
theorem w8 {e:bu} {T A B:af} {C:B.α->List aF->Nat->P6->af} {N:∀x L t p,(C x L t p).α->af} {w:Expr} {k:List Stmt} {G:List Stmt} {o:ExceptHandler} {q:List ExceptHandler} {r:Pos} {d:Env} {Iw:Fb->Sem Unit} {ex tx:B.α->Nat} {x0:aF} {Lo:List aF} {rest:B.α->ao} {junk:∀x L t p,(C x L t p).α->ao}
 (Iy:FM table T.c=(whileTurn w [.Try k (o::q) [] [] r] G d).onRaise Iw) (R:T.c=.whileLoop w [.Try k (o::q) [] [] r] G d)
 (io:x0.env=d) (IB:T.outer=some (d::du Lo)) (Iz:∀x∈x0::Lo,mH x) (hH:T.anyH=false)
 (hA:ax e A ((isTrue w d (eval w d)>>=λb=>pure (.ret (.bool b)))>>=λf=>pure (.done f))) (rA:∀x,A.r x=.ok (.ret (.bool true))) (dA:A.d<=T.d) (oA:A.outer=none) (pA:A.all=T.all) (qA:∀x,A.post x->(A.res x).Perm B.all)
 (hB:ax e B (Hd k d>>=λf=>pure (.done f))) (rB:∀x,B.r x=.error (.ref (ex x))) (dB:B.d<=T.d) (oB:B.outer=none) (qB:∀x,B.post x->(B.res x).Perm ((ex x,cK (tx x))::(a8 (x0::Lo)++rest x)))
 (hC:∀x L t p,B.post x->aC L=aC (x0::Lo)->ax e (C x L t p) ((setFlight (.ref (ex x)) none>>=λ_=>handleBy (.ref (ex x)) d (o::q))>>=λf=>pure (.done f))) (rC:∀x L t p z,(C x L t p).r z=.ok .next) (dC:∀x L t p,(C x L t p).d<=T.d) (oC:∀x L t p,(C x L t p).outer=none)
 (pC:∀x L t p,B.post x->aC L=aC (x0::Lo)->((t,f1 x0.a (FV x0.a) p)::(ex x,iC (tx x) t)::(a8 L++rest x)).Perm (C x L t p).all)
 (qC:∀x L t p z,B.post x->aC L=aC (x0::Lo)->(C x L t p).post z->((C x L t p).res z).Perm ((N x L t p z).all++junk x L t p z))
 (hN:∀x L t p z,B.post x->aC L=aC (x0::Lo)->(C x L t p).post z->ab e (N x L t p z)) (cN:∀x L t p z,(N x L t p z).c=T.c) (dN:∀x L t p z,(N x L t p z).d<=T.d) (oN:∀x L t p z es,aC L=aC (x0::Lo)->(N x L t p z).outer=some es->es=d::du Lo)
 (rN:∀x L t p z y,B.post x->aC L=aC (x0::Lo)->(C x L t p).post z->(N x L t p z).post y->∃v,T.post v/\T.r v=(N x L t p z).r y/\((N x L t p z).res y).Perm (T.res v)):ab e T:=by
 intro i Q D hE M p s Iv Ix hF
 have D:i.handled=none:=D.resolve_left (by rw[hH];exact Fi)
 have gt:=hE _ IB
 have U:∀{S:af},S.outer=none->∀es,S.outer=some es->envsOf i.below=es:=λh es J=>by rw[h]at J;cases J
 have W:∀{S:af},S.d<=T.d->dQ S.d i:=λh=>⟨by have:=M.cnt;omega,by have:=M.units;omega⟩
 rw[F3,Q]
 show wp _ _ (FM table T.c) _ _ p s
 rw[Iy,Gu]
 unfold whileTurn
 rw[E7]
 have I:Go e.kt s T.own s T.all:=Go.start Ix
 have I:Go e.kt s T.own s A.all:=by rw[pA];exact I
 have qt:=hA.flow i D (U oA) (W dA) p s I.pre (Q:=λf X u=>∃x,A.post x/\ap s u A.own (A.res x)/\f=.ret (.bool true)) (E:=λ_ _ _=>False)
  (λx u X f m H a=>by rw[rA]at a;cases a;exact⟨x,m,H,rfl⟩) (λx u X v m H a=>by rw[rA]at a;cases a)
 rw[E7]at qt
 refine Fu _ _ _ (λb X u h=>?_) (λ_ _ _ h=>h.elim) _ _ qt
 obtain⟨xa,ID,H,P⟩:∃x,A.post x/\ap s u A.own (A.res x)/\Flow.ret (.bool b)=.ret (.bool true):=h
 cases P
 have G1:=(I.step H).perm (qA xa ID)
 rw[if_pos rfl]
 rw[E7,Ir,E7,arm_exec_Try,E7]
 show wp _ _ (tryStmt false (Hd k d) (o::q) (Hd [] d) [] d) _ _ r u
 rw[w7,E7,Sem.wp_attempt]
 refine hB.flow i D (U oB) (W dB) r u G1.pre (λx s2 Y f m A2 a=>by rw[rB]at a;cases a) (λx s2 Y v m A2 a=>?_)
 rw[rB]at a;cases a
 have G2:=(G1.step A2).perm (qB x m)
 show wp _ _ (HU (.ref (ex x)) d>>=_) _ _ Y s2
 rw[E7]
 have P2:=G2.pre
 have IC:∀y∈x0::Lo,y.a∈keys ((ex x,cK (tx x))::(a8 (x0::Lo)++rest x)):=λy V=>Gl.mpr ⟨y.cell,E4 _ (F5 _ (Fc V)),rfl⟩
 have IA:∀l,some (du (x0::Lo))=some l->i.code.envs++envsOf i.below=l:=λl F=>by
  cases F
  rw[Q,R,gt,<-io];rfl
 have nf:=EL (w:=e.w) (A:={ia i with frames:=some (du (x0::Lo))}) (E:=λ_ _=>False) (e:=ex x) (t:=tx x) (x0:=x0) (L:=Lo) (rest:=rest x) (own:=keys ((ex x,cK (tx x))::(a8 (x0::Lo)++rest x))) rfl Iz IC
  (λb y _ P z=>P (z▸E2)) (ap.start P2) (Q:=λ_ O=>∃g k j,aC g=aC (x0::Lo)/\ap s2 O (keys ((ex x,cK (tx x))::(a8 (x0::Lo)++rest x))) ((k,f1 x0.a (FV x0.a) j)::(ex x,iC (tx x) k)::(a8 g++rest x)))
  (λs' g k j h1 J=>⟨g,k,j,h1,J⟩) i Y ⟨rfl,FO _,IA,λl h=>(nomatch h),FO _⟩
 rw[io]at nf
 refine Fu _ _ _ (λ_ p3 O h=>?_) (λ_ _ _ h=>h.elim) _ _ nf
 obtain⟨g,n,j,E,A3⟩:=h
 have G3:=(G2.step A3).perm (pC x g n j m E)
 show wp _ _ (setFlight (.ref (ex x)) none>>=λ_=>handleBy (.ref (ex x)) d (o::q)) _ _ p3 O
 refine(hC x g n j m E).flow i D (U (oC ..)) (W (dC ..)) p3 O G3.pre (λz s4 Z f F A4 a=>?_) (λz s4 Z v F A4 a=>by rw[rC]at a;cases a)
 rw[rC]at a;cases a
 have G4:=(G3.step A4).perm (qC x g n j z m E F)
 show finPost _ _ _ (.again (.whileLoop w [.Try k (o::q) [] [] r] G d)) Z s4
 have IE:i.code=.whileLoop w [.Try k (o::q) [] [] r] G d:=Q.trans R
 have hn:=hN x g n j z m E F (i.goto (.whileLoop w [.Try k (o::q) [] [] r] G d)) ((R.symm.trans (cN x g n j z).symm)) (.inr D) (λes he=>by rw[oN x g n j z es E he];exact gt) ⟨by have:=M.cnt;have:=dN x g n j z;show cF i.below+_<=_;omega,by have:=M.units;have:=dN x g n j z;show HT i.below+_<=_;omega⟩ Z s4 Iv G4.sub.pre (λy s5 V A5=>?_)
 .exact ⟨rfl,hn⟩
 .obtain ⟨v,hv,a,hp⟩:=rN x g n j z y m E F V
  rw[<-a]
  exact hF v s5 hv ((G4.stepR A5).perm (hp.append_right _)).sub.after
theorem pf {b:Type} (i:List Nat) {A B:List (List b)} (h:take i B A (· =[])):A.flatten.Perm B.flatten:=by
 obtain⟨r,p,a⟩:=bW h
 subst a
 rw[FL]at p
 exact p.flatten
noncomputable def pz {e:bu} {T:af} (t:Sem Gq) (a:PP e T) (P:E8):Prop:=∀B c p,dP ⟨e.D,⟨pq,P⟩,e.kt,B,none,T.d⟩ (a T .fin) (.run c p .base t T.need) T.needB
noncomputable def mW {e:bu} {T:af} (t:Sem Gq) (a:PP e T) (P:E8):Prop:=∀B c p,eg ⟨e.D,⟨pq,P⟩,e.kt,B,none,T.d⟩ (a T .fin) (.run c p .base t T.need) T.needB
theorem tk {e:bu} {T:af} (t:Sem Gq) (a:PP e T) (h:pz t a e.w.params=mW t a e.w.params:=by kernel_rfl):ax e T t:=qx t (a T .fin) h
theorem tZ {a:Type} (g:a->Fb) (w:E9) (l n:Nat) (b:List a) (x:a) (h:b.length<=100000):ab (env w) (nF g l n b x):=z6 _ _ _ _ _ _ h
theorem t4 {a:Type} (g:a->Fb) (w:E9) (l n:Nat) (b:List a) (t:Nat) (x:a) (h:b.length<=100000):ab (env w) (r6 g l b n t x):=BZ _ _ _ _ _ _ _ h
noncomputable abbrev K7:=Nat×Nat×Nat×Nat×Nat×Nat×Nat
noncomputable abbrev SL:=Array (Option Fb)
noncomputable def pb (P:E8) (k:K7) (S n st i s nd:Nat) (x:Nat×Nat) (e:Nat):Obj:=
 bD [es P [115,101,108,102] k.1 (.ref S),es P [110,50,105] k.2.1 (.ref n),es P [115,116,97,99,107] k.2.2.1 (.ref st),es P [105,116,115,116,97,99,107] k.2.2.2.1 (.ref i),es P [115,101,101,110] k.2.2.2.2.1 (.ref s),es P [110,111,100,101,50,115,116,97,99,107,105] k.2.2.2.2.2.1 (.ref nd),es P [110,111,100,101] k.2.2.2.2.2.2 (cv x)] e
noncomputable def bv (es:List E6) (e:Nat) (s:SL):Obj:={cls:=.type "frame",data:=.dict es.toArray e,slots:=s}
noncomputable def gu (P:E8) (k:K7) (S n st i s nd:Nat) (x:Nat×Nat) (e:Nat) (a:SL):Obj:=
 bv [es P [115,101,108,102] k.1 (.ref S),es P [110,50,105] k.2.1 (.ref n),es P [115,116,97,99,107] k.2.2.1 (.ref st),es P [105,116,115,116,97,99,107] k.2.2.2.1 (.ref i),es P [115,101,101,110] k.2.2.2.2.1 (.ref s),es P [110,111,100,101,50,115,116,97,99,107,105] k.2.2.2.2.2.1 (.ref nd),es P [110,111,100,101] k.2.2.2.2.2.2 (cv x)] e a
noncomputable def dD (P:E8) (f:Nat):Env:=dY (gT P) 1203 f
noncomputable def Ek (P:E8) (i f:Nat):Code:=bR (aA (cX (gT P)) 5) (.ref i) (dD P f)
noncomputable def DX (P:E8) (f:Nat):Code:=qb (aA (aY (aA (cX (gT P)) 5)) 1) (dD P f)
noncomputable def iV (P:E8):Stmt:=aA (aY (aA (aY (aA (cX (gT P)) 5)) 1)) 1
noncomputable def iU (P:E8) (f:Nat):Code:=qb (iV P) (dD P f)
noncomputable def qo (s:Stmt):Expr:=(sP s).2.1
noncomputable def uF (s:Stmt):ExceptHandler:=(sP s).2.2.2.2.1.headD (.ExceptHandler none none [] default)
noncomputable def sY (s:Stmt):Pos:=(sP s).2.2.2.2.2.1
noncomputable def Bl (i:Nat):Obj:={cls:=.type "method-wrapper",data:=.fields #[.builtin "list_iterator.__next__",.ref i]}
noncomputable def dX (m a s i:Nat):ao:=[(m,Bl a),(a,aW "list_iterator" s i)]
noncomputable def my (P:E8) (a:Nat) (k:K7) (S n st i s nd sn t:Nat) (x:Nat×Nat) (f:Nat) (g:List (Nat×Nat)) (b:List Nat) (m:List (Nat×Nat×Int×Nat)) (e:Nat) (d:SL):ao:=[(a,gu P k S n st i s nd x f d),(st,ae (g.map cv) sn),(i,ae (b.map .ref) t),(nd,dO P (.type "dict") none iv m e)]
noncomputable def kH (P:E8) (k:K7) (S n st i s nd sn t:Nat) (x:Nat×Nat) (f:Nat) (d:List (Nat×Nat)) (a:List Nat) (m:List (Nat×Nat×Int×Nat)) (e:Nat) (b:SL):List Obj:=[gu P k S n st i s nd x f b,ae (d.map cv) sn,ae (a.map .ref) t,dO P (.type "dict") none iv m e]
noncomputable def fg (P:E8) (f:Nat) (k:K7) (S n st i s nd sn t:Nat) (x:Nat×Nat) (d:Nat) (o:List (Nat×Nat)) (h:List Nat) (m:List (Nat×Nat×Int×Nat)) (e:Nat) (F:ao) (I:List ai) (l:SL) (L:List aF) (a:List (Env×Addr×Obj)) (r:Flow) (y:Nat×Nat) (p:List (Nat×Nat)) (j:List Nat) (g:List (Nat×Nat×Int×Nat)) (b:ao):af:={d:=12,α:=(Nat×Nat×Nat×Nat)×SL×List aF,c:=iU P f,need:=my P f k S n st i s nd sn t x d o h m e l,r:=λx=>.ok r,put:=λz=>kH P k S n st i s nd z.1.1 z.1.2.1 y z.1.2.2.1 p j g z.1.2.2.2 z.2.1,post:=λz=>aC z.2.2=a,needB:=[aB I,F,a8 L],putB:=λz=>[aB I,b,a8 z.2.2],outer:=some (dD P f::a.map (·.1))}
noncomputable def iu (P:E8):Stmt:=aA (aY (iV P)) 0
noncomputable def yJ (P:E8) (a:Nat) (k:K7) (S n st i s nd sn t:Nat) (x:Nat×Nat) (f:Nat) (g:List (Nat×Nat)) (b:List Nat) (m:List (Nat×Nat×Int×Nat)) (e:Nat) (F:ao) (I:List ai) (d:SL) (L:List aF):af:={d:=12,α:=Unit,c:=iU P a,need:=my P a k S n st i s nd sn t x f g b m e d,r:=λx=>.ok (.ret (.bool true)),put:=λz=>kH P k S n st i s nd sn t x f g b m e d,needB:=[aB I,F,a8 L],putB:=λz=>[aB I,F,a8 L]}
noncomputable def yI (P:E8) (a:Nat) (k:K7) (S n st i s nd sn t:Nat) (x:Nat×Nat) (f:Nat) (g:List (Nat×Nat)) (b:List Nat) (m:List (Nat×Nat×Int×Nat)) (e:Nat) (F h:ao) (I:List ai) (d:SL) (L:List aF):af:={d:=12,α:=Nat×Nat,c:=iU P a,need:=my P a k S n st i s nd sn t x f g b m e d,r:=λx=>.error (.ref x.1),put:=λz=>kH P k S n st i s nd sn t x f g b m e d,new:=λx=>[(x.1,cK x.2)],needB:=[aB I,F,a8 L],putB:=λz=>[aB I,h,a8 L]}
noncomputable def yH (P:E8) (f:Nat) (k:K7) (S n st i s nd sn o:Nat) (x:Nat×Nat) (j:Nat) (d:List (Nat×Nat)) (a:List Nat) (m:List (Nat×Nat×Int×Nat)) (h:Nat) (F:ao) (I:List ai) (b:SL) (L:List aF) (c:Nat×Nat) (l e t g:Nat) (p:P6):af:={d:=12,α:=Nat×Nat×Nat×Nat,c:=iU P f,need:=[(f,gu P k S n st i s nd x j b),(st,ae ((d++[c]).map cv) sn),(i,ae ((a++[l]).map .ref) o),(nd,dO P (.type "dict") none iv m h),(e,iC t g),(g,f1 f (FV f) p)],put:=λz=>kH P k S n st i s nd z.1 z.2.1 x z.2.2.1 d a (dZ m c.1) z.2.2.2 b,needB:=[aB I,F,a8 L],putB:=λz=>[aB I,F,a8 L]}
theorem zZ (P:E8) (f:Nat):FM table (iU P f)=(whileTurn (qo (iV P)) [.Try (aY (iu P)) (uF (iu P)::[]) [] [] (sY (iu P))] (cw (iV P)) (dD P f)).onRaise (λx=>do HU x (dD P f);Hf x):=by kernel_rfl
theorem z5 (P:E8) (f:Nat):iU P f=.whileLoop (qo (iV P)) [.Try (aY (iu P)) (uF (iu P)::[]) [] [] (sY (iu P))] (cw (iV P)) (dD P f):=by kernel_rfl
theorem El (P:E8) (f:Nat) (o:Obj) (h:o.isFreed=false):cn (dD P f,f,o):=⟨rfl,(by
 show(cW (gT P)).scope.kind≠ .module
 have:(cW (gT P)).scope.kind=.function:=by kernel_rfl
 rw[this];exactλz=>nomatch z),h⟩
noncomputable def rg (L:List aF):SL:=match L with| y::_=>y.sl | []=> #[]
theorem zY (w:E9) (f:Nat) (k:K7) (S n st a g nd sn h:Nat) (x:Nat×Nat) (d:Nat) (b:List (Nat×Nat)) (e:List Nat) (m:List (Nat×Nat×Int×Nat)) (l:Nat) (H F:ao) (I:List ai) (B:SL) (j:List aF) (u:List (Env×Addr×Obj)) (c:Nat×Nat) (v:Int×Nat) (o Y i:Nat) (gt:ao) (E:ai)
 (io:E.su[i]? =none) (X:(aB I).Perm (E.cells++gt)) (hf:H.Perm (dX o Y E.sc i++F)) (hv:look? m c.1=some v) (Ix:b.length+1<=1000) (Iy:e.length<=1000) (Iw:m.length<=1000) (J:aC j=u) (bo:∀x∈u,cn x)
 (r:Flow) (y:Nat×Nat) (U:List (Nat×Nat)) (T:List Nat) (R:List (Nat×Nat×Int×Nat)) (N:ao)
 (ih:∀(sn h d l:Nat) (B:SL) (j:List aF),aC j=u->ab (env w) (fg w.params f k S n st a g nd sn h x d b e (dZ m c.1) l F I B j u r y U T R N)):
 ab (env w) (fg w.params f k S n st a g nd sn h x d (b++[c]) (e++[o]) m l H I B j u r y U T R N):=by
 have Iv:(b++[c]).length=b.length+1:=by simp
 let P:=w.params
 let x0:aF:=⟨dD P f,f,pb P k S n st a g nd x d,B⟩
 have Z:∀L,aC L=aC (x0::j)->∃s C,L=⟨dD P f,f,pb P k S n st a g nd x d,s⟩::C/\aC C=u:=λL A=>by
  cases L with
  | nil=>cases A
  | cons z L=>
   obtain⟨ze,za,zo,zs⟩:=z
   obtain⟨h1,D⟩:=List.cons.inj A
   cases h1
   exact⟨zs,L,rfl,D.trans J⟩
 refine w8 (A:=yJ P f k S n st a g nd sn h x d (b++[c]) (e++[o]) m l H I B j) (B:=yI P f k S n st a g nd sn h x d (b++[c]) (e++[o]) m l H F I B j)
  (C:=λz L t p=>yH P f k S n st a g nd sn h x d b e m l F I (rg L) L.tail c o z.1 z.2 t p)
  (N:=λz L t p q=>fg P f k S n st a g nd q.1 q.2.1 x q.2.2.1 b e (dZ m c.1) q.2.2.2 F I (rg L) L.tail u r y U T R N)
  (ex:=λz=>z.1) (tx:=λz=>z.2) (x0:=x0) (Lo:=j) (rest:=λz=>[[(st,ae ((b++[c]).map cv) sn)],[(a,ae ((e++[o]).map .ref) h)],[(nd,dO P (.type "dict") none iv m l)],aB I,F].flatten) (junk:=λ_ _ _ _ _=>[])
  (zZ P f) (z5 P f) rfl ?_ ?_ rfl ?_ (λ_=>rfl) (FO _) rfl rfl (λ_ _=>.refl _) ?_ (λ_=>rfl) (FO _) rfl ?_ ?_ (λ_ _ _ _ _=>rfl) (λ_ _ _ _=>FO _) (λ_ _ _ _=>rfl) ?_ ?_ ?_ (λ_ _ _ _ _=>rfl) (λ_ _ _ _ _=>FO _) ?_ ?_
 .show some (dD P f::u.map (·.1))=_;rw[n8,J]
 .exact Ab (S:=(dD P f,f,pb P k S n st a g nd x d)::u) (by show _::aC j=_;rw[J]) (λz Q=>by
   rcases GR.mp Q with rfl | Q
   .exact El P f _ rfl
   .exact bo z Q)
 .exact tk _ (λ_ G=>.seg 33562625 λO=>.use _ (dv cv w st sn (b++[c]) (Fo b+1) Iv (by omega)) [1] [] λV D=>.seg 0 λW=>G () trivial [1,0,0,0] [] [0,0,0])
 .exact tk _ (λ_ G=>.view [] [0] _ _ _ _ (bw X) (.view [] [1] _ _ _ _ (bw hf) (.seg 0x7001007007007001001005 λO=>.use _ (t4 Fs w a h e (O 1) o (by omega)) [6] [] λV D=>.seg 33558530 λW=>.use _ (ch w Y (E.sc) i (E.n) cv (E.su) io) [2,3] [] λM h4=>.seg 0 λO5=>.view [6,1] [1] _ _ _ _ (aX X.symm) (G (M.2,M.1) trivial [5,5,3,4] [1] [0,0,0]))))
 .intro z _
  exact pf (A:=[[(f,gu P k S n st a g nd x d B)],[(st,ae ((b++[c]).map cv) sn)],[(a,ae ((e++[o]).map .ref) h)],[(nd,dO P (.type "dict") none iv m l)],[(z.1,cK z.2)],aB I,F,a8 j])
   (B:=[[(z.1,cK z.2)],[(f,gu P k S n st a g nd x d B)],a8 j,[(st,ae ((b++[c]).map cv) sn)],[(a,ae ((e++[o]).map .ref) h)],[(nd,dO P (.type "dict") none iv m l)],aB I,F]) [4,0,5,0,0,0,0,0] ⟨rfl,rfl,rfl,rfl,rfl,rfl,rfl,rfl,rfl⟩
 .intro z L t p _ A
  exact tk _ (λ_ G=>.seg 0x2001002002002002001001006006005001005000000001006006005 λO=>.use _ (tZ cv w st sn b c (by omega)) [1] [] λV D=>.seg 274894700548 λW=>.use _ (DZ w nd none l (c.1) (c.2) m v hv Iw) [3] [] λM h4=>.seg 0x4001004004004004003 λO5=>.use _ (tZ Fs w a h e o (by omega)) [3] [] λx6 h6=>.seg 1 λO7=>G (V,x6,d,M) trivial [3,2,0,0] [] [0,0,0])
 .intro z L t p _ A
  obtain⟨s,C,rfl,_⟩:=Z L A
  exact pf (A:=[[(t,f1 f (FV f) p)],[(z.1,iC z.2 t)],[(f,gu P k S n st a g nd x d s)],a8 C,[(st,ae ((b++[c]).map cv) sn)],[(a,ae ((e++[o]).map .ref) h)],[(nd,dO P (.type "dict") none iv m l)],aB I,F])
   (B:=[[(f,gu P k S n st a g nd x d s)],[(st,ae ((b++[c]).map cv) sn)],[(a,ae ((e++[o]).map .ref) h)],[(nd,dO P (.type "dict") none iv m l)],[(z.1,iC z.2 t)],[(t,f1 f (FV f) p)],aB I,F,a8 C]) [2,3,3,3,1,0,1,1,0] ⟨rfl,rfl,rfl,rfl,rfl,rfl,rfl,rfl,rfl,rfl⟩
 .intro z L t p q _ A _
  rw[FL]
  exact .refl _
 .intro z L t p q _ A _
  obtain⟨s,C,rfl,D⟩:=Z L A
  exact ih q.1 q.2.1 q.2.2.1 q.2.2.2 s C D
 .intro z L t p q es A he
  cases he
  show dD P f::u.map (·.1)=_
  rw[n8,J]
 .intro z L t p q y2 _ A _ hy
  exact⟨y2,hy,rfl,.refl _⟩
structure SF where
 c:Nat×Nat
 v:Int×Nat
 mw:Nat
 it:Nat
 sc:Nat
 i:Nat
noncomputable def bO:List SF->List (Nat×Nat)
 | []=>[]
 | f::r=>bO r++[f.c]
noncomputable def b7:List SF->List Nat
 | []=>[]
 | f::r=>b7 r++[f.mw]
noncomputable def mF:List SF->List (Nat×Nat×Int×Nat)
 | []=>[]
 | f::r=>mF r++[(f.c.1,f.c.2,f.v)]
noncomputable def ck:List SF->ao
 | []=>[]
 | f::r=>dX f.mw f.it f.sc f.i++ck r
theorem nb:∀r,(bO r).length=r.length
 | []=>rfl
 | f::r=>by simp[bO,nb r]
theorem oz:∀r,(b7 r).length=r.length
 | []=>rfl
 | f::r=>by simp[b7,oz r]
theorem oI:∀r,(mF r).length=r.length
 | []=>rfl
 | f::r=>by simp[mF,oI r]
theorem oJ:∀r:List SF,∀x∈mF r,∃f∈r,f.c.1=x.1
 | [],_,h=>nomatch h
 | f::r,x,h=>by
  rcases GE.mp h with h | h
  .obtain ⟨g,a,e⟩:=oJ r x h
   exact⟨g,E4 _ a,e⟩
  .simp only[Gd]at h
   exact⟨f,E2,by rw[h]⟩
theorem vp {a:Type}:∀{m:List (Nat×Nat×a)} {c t:Nat} {v:a} {m2:List (Nat×Nat×a)},(∀x∈m,x.1≠c)->dZ (m++(c,t,v)::m2) c=m++m2
 | [],_,_,_,_,_=>by simp[dZ]
 | (k,u,x)::m,c,t,v,m2,h=>by
  rw[H7,dZ,if_neg (h (k,u,x) E2),vp λy b=>h y (E4 _ b)]
  rfl
theorem lN {a:Type}:∀{m:List (Nat×Nat×a)} {c t:Nat} {v:a},(∀x∈m,x.1≠c)->aw m c t v=m++[(c,t,v)]
 | [],_,_,_,_=>rfl
 | (k,u,x)::m,c,t,v,h=>by
  rw[aw,if_neg (h (k,u,x) E2),lN λy b=>h y (E4 _ b)]
  rfl
noncomputable def ig (I:List ai) (f:SF):Prop:=∃i∈I,i.node.1=f.c.1/\i.sc=f.sc
noncomputable def cP (I:List ai):List SF->Option ((Nat×Nat)×List SF)
 | []=>none
 | f::r=>match(bj I f.c.1)[f.i]? with
  | some y=>some (y,{f with i:=f.i+1}::r)
  | none=>cP I r
theorem ye {I:List ai} (d:(am I).Nodup) {f:SF} (h:ig I f):∃(a:ai) (R:ao),bj I f.c.1=a.su/\a.sc=f.sc/\(aB I).Perm (a.cells++R):=by
 obtain⟨i,b,e,g⟩:=h
 have:=jL d b
 rw[e]at this
 obtain⟨j,k,rfl⟩:=Hu b
 exact⟨i,_,this,g,hU ..⟩
section
variable (w:E9) (fr:Nat) (k:K7) (S n2i st is se nd:Nat) (x:Nat×Nat) (I:List ai) (SS:List (Env×Addr×Obj)) (hn:(am I).Nodup) (bo:∀x∈SS,cn x)
include hn bo
theorem s7 (r:Flow) (y:Nat×Nat) (b:List SF):∀(a:List SF) (sn t h d:Nat) (s:SL) (L:List aF),(match cP I a with| some q=>q=(y,b)/\r=.next | none=>b=[]/\y=x/\r=.brk)->aC L=SS->(∀f∈a,ig I f)->(a.map (·.c.1)).Nodup->a.length<=900->
 ab (env w) (fg w.params fr k S n2i st is se nd sn t x h (bO a) (b7 a) (mF a) d (ck a) I s L SS r y (bO b) (b7 b) (mF b) (ck b))
 | [],sn,t,h,d,s,L,hp,l,o,m,v=>by
  obtain⟨rfl,rfl,rfl⟩:=hp
  exact ct (λ_ u=>.seg 137472512001 λC=>.use _ (dv cv w st sn ([]) 0 rfl (by trivial)) [1] [] λM F=>.seg 0 λO=>u (((sn,t,h,d),s,L)) l [1,0,0,0] [] [0,0,0])
 | f::a,sn,t,h,d,s,L,hp,l,o,m,v=>by
  obtain⟨j,R,B,A,p⟩:=ye hn (o f E2)
  rw[Fw,GQ]at m
  have hk:∀z∈mF a,z.1≠f.c.1:=λz J q=>by
   obtain⟨g,n,e⟩:=oJ a z J
   exact m.1 (by rw[<-q,<-e];exact Fc (f:=λf:SF=>f.c.1) n)
  have W:=nb a
  have X:=oz a
  have Y:=oI a
  simp only[Fd]at v
  unfold cP at hp
  cases i:(bj I f.c.1)[f.i]? with
  | some y'=>
   rw[i]at hp
   obtain⟨hp,rfl⟩:=hp
   cases hp
   rw[B]at i
   show ab (env w) (fg w.params fr k S n2i st is se nd sn t x h (bO a++[f.c]) (b7 a++[f.mw]) (mF (f::a)) d (dX f.mw f.it f.sc f.i++ck a) I s L SS .next y (bO a++[f.c]) (b7 a++[f.mw]) (mF (f::a)) (dX f.mw f.it f.sc (f.i+1)++ck a))
   rw[<-A]
   exact ct (have H:((bO a)++[f.c]).length=(bO a:List (Nat×Nat)).length+1:=(by simp);have U:(bO a:List (Nat×Nat)).length+1<=1000:=(by omega);have V:(b7 a:List Nat).length<=1000:=(by omega);λ_ u=>.view [] [0] _ _ _ _ (bw p) (.view [] [1] _ _ _ _ (bw (.refl _:(_:ao).Perm (dX f.mw f.it j.sc f.i++(ck a)))) (.seg 412417544193 λC=>.use _ (dv cv w st sn ((bO a)++[f.c]) (Fo (bO a)+1) H (by omega)) [5] [] λM F=>.seg 0x7001007007007001001006 λO=>.use _ (t4 Fs w is t (b7 a) (O 1) f.mw (by omega)) [6] [] λZ Q=>.seg 50335747 λN=>.use _ (cr w f.it (j.sc) f.i (j.n) cv (j.su) y i) [3,4] [] λx6 T=>.seg 28679 λP=>.view [5,1] [1] _ _ _ _ (aX p.symm) (.view [3,0] [1] _ _ _ _ (aX (.refl _:(dX f.mw f.it j.sc (f.i+1)++(ck a)).Perm (_:ao))) (u (((sn,t,h,d),s,L)) l [2,1,0,0] [] [1,0,0])))))
  | none=>
   rw[i]at hp
   rw[B]at i
   have D:dZ (mF (f::a)) f.c.1=mF a:=(vp (m2:=[]) hk).trans (FL _)
   have E:look? (mF (f::a)) f.c.1=some f.v:=l4 (m2:=[]) hk
   refine zY w fr k S n2i st is se nd sn t x h (bO a) (b7 a) (mF (f::a)) d (dX f.mw f.it f.sc f.i++ck a) (ck a) I s L SS f.c f.v f.mw f.it f.i R j i p (by rw[A]) E (by omega) (by omega) (by simp[mF];omega) l bo r y (bO b) (b7 b) (mF b) (ck b) λsn t h d s L G=>?_
   rw[D]
   exact s7 r y b a sn t h d s L hp G (λg n=>o g (E4 _ n)) m.2 (by omega)
end
noncomputable abbrev SZ:=Array (Int×Fb)×Nat×SetTable
noncomputable def gN (w:E9) (f:Nat) (k:K7) (S n b st i s nd sn t:Nat) (x:Nat×Nat) (d:Nat) (j:List (Nat×Nat)) (g:List Nat) (m:List (Nat×Nat×Int×Nat)) (e:Nat) (F:ao) (I:List ai) (l:List Nat) (z:SZ) (h:SL) (L:List aF) (a:List (Env×Addr×Obj)):af:={d:=40,α:=(Nat×Nat×Nat×Nat×(Nat×Nat))×SL×List aF×SZ×List Nat,c:=DX w.params f,need:=my w.params f k S n st i s nd sn t x d j g m e h++[(s,bK z),(n,dO w.params (.type "dict") none .ref (ay I) b)],put:=λq=>kH w.params k S n st i s nd q.1.1 q.1.2.1 q.1.2.2.2.2 q.1.2.2.1 [] [] [] q.1.2.2.2.1 q.2.1++[bK q.2.2.2.1,dO w.params (.type "dict") none .ref (ay I) b],post:=λq=>aC q.2.2.1=a/\cx w (bK q.2.2.2.1) q.2.2.2.2/\q.2.2.2.2.Nodup/\(∀c∈q.2.2.2.2,c∈am I),needB:=[aB I,F,a8 L],putB:=λq=>[aB I,a8 q.2.2.1],outer:=some (dD w.params f::a.map (·.1))}
theorem kz:∀{l m:List Nat},l.Nodup->(∀x∈l,x∈m)->l.length<=m.length
 | [],m,_,_=>Gi _
 | x::l,m,h,a=>by
  rw[GQ]at h
  have b:=a x E2
  have:=kz (l:=l) (m:=m.erase x) h.2 λy d=>(List.mem_erase_of_ne (a:=y) (b:=x) (λe=>h.1 (e▸d))).mpr (a y (E4 _ d))
  have f:=List.length_erase_of_mem b
  have hp:0<m.length:=List.length_pos_of_mem b
  simp only[Fd]
  omega
noncomputable def fq (I:List ai) (r:List SF):Nat:=(r.map λf=>(bj I f.c.1).length-f.i).sum
noncomputable def fY (I:List ai) (a:List Nat):Nat:=(I.map λi=>if i.node.1∈a then 0 else i.su.length+1).sum
theorem qj {a:List Nat} {c:Nat} (g:c∉a):∀{I:List ai},(am I).Nodup->(c∉am I->fY I (c::a)=fY I a)/\(c∈am I->fY I (c::a)+(bj I c).length+1=fY I a)
 | [],_=>⟨λ_=>rfl,λh=>nomatch h⟩
 | i::I,b=>by
  unfold am at b
  rw[Fw,GQ]at b
  obtain⟨f,j⟩:=qj g (I:=I) b.2
  have e:∀a,fY (i::I) a=(if i.node.1∈a then 0 else i.su.length+1)+fY I a:=λa=>by simp[fY]
  rw[e,e]
  by_cases q:i.node.1=c
  .have hk:c∉am I:=q▸b.1
   have d:bj (i::I) c=i.su:=by unfold bj;rw[List.find?_cons_of_pos (by simpa using q)];rfl
   refine⟨λh=>(h (by rw[<-q];exact E2)).elim,λ_=>?_⟩
   rw[f hk,d,if_pos (by rw[q];exact E2),if_neg (by rw[q];exact g)]
   omega
  .have d:bj (i::I) c=bj I c:=by unfold bj;rw[HR (by simpa using q)]
   have k:(i.node.1∈c::a)=(i.node.1∈a):=by simp[q]
   rw[d]
   simp only[k]
   refine⟨λh=>?_,λh=>?_⟩
   .rw [f λz=>h (E4 _ z)]
   .rcases GR.mp (show c∈i.node.1::am I from h)with z | z
    .exact (q z.symm).elim
    .have:=j z
     omega
theorem j7 {I:List ai} {y:Nat×Nat} {e:List SF}:∀{r:List SF},cP I r=some (y,e)->∃a f b,r=a++f::b/\e={f with i:=f.i+1}::b/\y∈bj I f.c.1/\fq I e+1<=fq I r
 | [],h=>nomatch h
 | f::r,h=>by
  unfold cP at h
  cases d:(bj I f.c.1)[f.i]? with
  | some z=>
   rw[d]at h
   cases h
   refine⟨[],f,r,rfl,rfl,FD d, ?_⟩
   obtain⟨k,_⟩:=Fa.mp d
   unfold fq
   simp only[Fw,List.sum_cons]
   omega
  | none=>
   rw[d]at h
   obtain⟨a,g,b,rfl,rfl,i,j⟩:=j7 h
   refine⟨f::a,g,b,rfl,rfl,i, ?_⟩
   have:fq I (f::(a++g::b))=((bj I f.c.1).length-f.i)+fq I (a++g::b):=by simp[fq]
   omega
noncomputable def fH (r:Nat->Nat) (I:List ai):Prop:=∀i∈I,∀s∈i.su,r i.node.1<r s.1/\s.1∈am I
theorem ES {r:Nat->Nat} {I:List ai} (h:fH r I) {c:Nat} {y:Nat×Nat} (a:y∈bj I c):r c<r y.1/\y.1∈am I:=by
 unfold bj at a
 cases b:I.find? λi=>i.node.1==c with
 | none=>rw[b]at a;cases a
 | some i=>
  rw[b]at a
  have e:i.node.1=c:=by simpa using List.find?_some b
  rw[<-e]
  exact h i (List.mem_of_find?_eq_some b) y a
structure eF (rk:Nat->Nat) (I:List ai) (r:List SF) (x:Nat×Nat) (cs:List Nat):Prop where
 fin:∀f∈r,ig I f
 srt:r.Pairwise λf g=>rk g.c.1<rk f.c.1
 lt:∀f∈r,rk f.c.1<rk x.1
 xk:x.1∈am I
 nd:cs.Nodup
 sub:∀c∈cs,c∈am I
section
variable {rk:Nat->Nat} {I:List ai} {r:List SF} {x:Nat×Nat} {cs:List Nat}
theorem jN:∀{r:List SF},r.Pairwise (λf g=>rk g.c.1<rk f.c.1)->(r.map (·.c.1)).Nodup
 | [],_=>Gv
 | f::r,h=>by
  rw[List.pairwise_cons]at h
  rw[Fw,GQ]
  refine⟨λb=>?_,jN h.2⟩
  obtain⟨g,a,e⟩:=Gl.mp b
  have:=h.1 g a
  rw[e]at this
  exact Nat.lt_irrefl _ this
theorem Dw {f:SF} (h:ig I f):f.c.1∈am I:=by
 obtain⟨i,a,e,_⟩:=h
 rw[<-e];exact Fc (f:=λi:ai=>i.node.1) a
theorem Dv (h:∀f∈r,ig I f) (d:(r.map (·.c.1)).Nodup):r.length<=I.length:=by
 have:=kz (m:=am I) d λc a=>by
  obtain⟨f,b,rfl⟩:=Gl.mp a
  exact Dw (h f b)
 simpa[am]using this
theorem eF.len (h:eF rk I r x cs):r.length<=I.length:=Dv h.fin (jN h.srt)
theorem eF.csl (h:eF rk I r x cs):cs.length<=I.length:=by
 have:=kz (m:=am I) h.nd h.sub
 simpa[am]using this
theorem tT {m:List (Nat×Nat×Int×Nat)} {c:Nat} (h:∀z∈m,z.1≠c):look? m c=none:=by
 induction m with
 | nil=>rfl
 | cons z m i=>
  obtain⟨k,u,v⟩:=z
  rw[look?,if_neg (h (k,u,v) E2)]
  exact i λy a=>h y (E4 _ a)
theorem eF.keys (h:eF rk I r x cs):∀z∈mF r,z.1≠x.1:=λz d e=>by
 obtain⟨f,b,a⟩:=oJ r z d
 have:=h.lt f b
 rw[a,e]at this
 exact Nat.lt_irrefl _ this
theorem eF.next (A:fH rk I) (j:∀f∈r,ig I f) (o:r.Pairwise λf g=>rk g.c.1<rk f.c.1) (m:cs.Nodup) (p:∀c∈cs,c∈am I) {y:Nat×Nat} {k:List SF} (h:cP I r=some (y,k)):eF rk I k y cs:=by
 obtain⟨s,f,b,rfl,rfl,q,_⟩:=j7 h
 obtain⟨i,l⟩:=ES A q
 have e:=(List.pairwise_append.mp o).2.1
 rw[List.pairwise_cons]at e
 refine⟨λg d=>?_, ?_,λg d=>?_,l,m,p⟩
 .rcases GR.mp d with rfl | d
  .exact j f (FH _ E2)
  .exact j g (FH _ (E4 _ d))
 .rw [List.pairwise_cons]
  exact e
 .rcases GR.mp d with rfl | d
  .exact i
  .exact Nat.lt_trans (e.1 g d) i
end
section
variable (w:E9) (fr:Nat) (k:K7) (S n2i ne st is se nd:Nat) (I:List ai) (SS:List (Env×Addr×Obj)) (rk:Nat->Nat) (hn:(am I).Nodup) (bo:∀x∈SS,cn x) (A:fH rk I) (hI:I.length<=800)
include hn bo A hI
theorem DY:∀(n:Nat) (r:List SF) (x:Nat×Nat) (b:List Nat) (z:SZ) (sn t f d:Nat) (s:SL) (L:List aF),fq I r+fY I b<=n->eF rk I r x b->cx w (bK z) b->aC L=SS->
 ab (env w) (gN w fr k S n2i ne st is se nd sn t x f (bO r) (b7 r) (mF r) d (ck r) I b z s L SS):=by
 let Jb:∀(w:E9) (fr:Nat) (k:K7) (S n2i ne st is se nd sn t:Nat) (x:Nat×Nat) (f:Nat) (j:List (Nat×Nat)) (v:List Nat) (m:List (Nat×Nat×Int×Nat)) (d:Nat) (F:ao) (I:List ai) (b:List Nat) (z:SZ) (s:SL) (L:List aF) (SS:List (Env×Addr×Obj)) (l:aC L=SS) (p:cx w (bK z) b) (X:b.Nodup) (Y:∀c∈b,c∈am I) (E:b.length<=1000) (G:bU m x.1=false) (y:Nat×Nat) (V:List (Nat×Nat)) (T:List Nat) (Q:List (Nat×Nat×Int×Nat)) (N:ao) (o:x.1∈b) (hp:∀(sn t f d:Nat) (s:SL) (L:List aF),aC L=SS->ab (env w) (fg w.params fr k S n2i st is se nd sn t x f j v m d F I s L SS .next y V T Q N)) (ih:∀(sn t f d:Nat) (s:SL) (L:List aF),aC L=SS->ab (env w) (gN w fr k S n2i ne st is se nd sn t y f V T Q d N I b z s L SS)),PP (env w) (gN w fr k S n2i ne st is se nd sn t x f j v m d F I b z s L SS):= @λw fr k S n2i ne st is se nd sn t x f j v m d F I b z s L SS l p X Y E G y V T Q N o hp ih _ W=>
  .seg 0x5001005005001001001 λO1=>
  .use _ (lz w se z b (x.1) (x.2) p E o) [4] [] λx2 h2=>
  .seg 0x5001005005002002 λO3=>
  .use _ (uI w nd (Fz "dict") none d (x.1) (x.2) m Bool.false G) [4] [] λx4 h4=>
  .seg 0 λO5=>
  .use _ (hp sn t f d s L l) [2,2,2,0] [0,0,0] λB h6=>
  .seg 0 λO=>
  .use _ (ih (B.1.1) (B.1.2.1) (B.1.2.2.1) (B.1.2.2.2) (B.2.1) (B.2.2) h6) [0,0,0,0,0,0] [0,0,0] λM P=>have Ji:aC M.2.2.1=SS:=(Fx P);have Jj:cx w (bK M.2.2.2.1) M.2.2.2.2:=(Fx (Fg P));have Jk:List.Nodup M.2.2.2.2:=(Fx (Fg (Fg P)));have Jl:∀(c:Nat),c∈M.2.2.2.2->c∈am I:=(Fg (Fg (Fg P)));
  W (M) P [0,0,0,0,0,0] [] [0,0]
 let Ja:∀(w:E9) (fr:Nat) (k:K7) (S n2i ne st is se nd sn t:Nat) (x:Nat×Nat) (f:Nat) (j:List (Nat×Nat)) (v:List Nat) (m:List (Nat×Nat×Int×Nat)) (d:Nat) (F:ao) (I:List ai) (b:List Nat) (z:SZ) (s:SL) (L:List aF) (SS:List (Env×Addr×Obj)) (l:aC L=SS) (p:cx w (bK z) b) (X:b.Nodup) (Y:∀c∈b,c∈am I) (E:b.length<=1000) (G:bU m x.1=false) (o:¬x.1∈b) (g:ai) (R:ao) (J:look? (ay I) x.1=some g.a) (H:(aB I).Perm (g.cells++R)) (Iz:x.1∈am I) (ID:j.length<=1000) (IE:v.length<=1000) (Ix:m.length<=1000) (hp:∀(sn t f d a i u:Nat) (s:SL) (L:List aF),aC L=SS->ab (env w) (fg w.params fr k S n2i st is se nd sn t x f (j++[(x.1,x.2)]) (v++[a]) (aw m x.1 x.2 ((j.length:Nat),u)) d (dX a i g.sc 0++F) I s L SS .brk x [] [] [] [])),PP (env w) (gN w fr k S n2i ne st is se nd sn t x f j v m d F I b z s L SS):= @λw fr k S n2i ne st is se nd sn t x f j v m d F I b z s L SS l p X Y E G o g R J H Iz ID IE Ix hp _ W=>
  .view [] [0] _ _ _ _ (bw H)
  (.seg 0x7001007007003003001 λO1=>
  .use _ (lA w se z b (x.1) (x.2) p E o) [6] [] λx2 h2=>
  .seg 0x1001004001001001001004 λO3=>
  .use _ (rm w se z b (x.1) (x.2) p E o) [0] [] λx4 h4=>
  .seg 0x8001008008008004004000000006006006006004 λO5=>
  .use _ (dW w n2i (Fz "dict") none ne (x.1) (x.2) (ay I) (g.a) J) [7] [] λB h6=>
  .seg 0x9001001001001001001001001001001001001001001004001004004001001001003000003000000001000000000003000000001000001000000000000000000000000003001000000000003 λO=>
  .use _ (oM w is t v (O 3) (by omega)) [8] [] λM P=>
  .seg 68853694464 λO9=>
  .use _ (dv cv w st sn j (Fo j) rfl (by omega)) [8] [] λZ I3=>
  .seg 0xa00100a00a009009 λIW=>
  .use _ (f6 w nd none d (x.1) (x.2) m ((↑(Fo j):Int)) Z Ix) [9] [] λIK I4=>
  .seg 0x200100a00200200200200a λIX=>
  .use _ (dw w st sn j (x.1,x.2) (by omega)) [1] [] λJc I5=>
  .seg 0 λIY=>
  .view [7,7] [0] _ _ _ _ (aX H.symm)
  (.view [3,3] [1] _ _ _ _ ((aX (List.Perm.refl (dX (O 3) (O 1) g.sc 0++F))))
  (.use _ (hp (sn+1) (t+1) f IK (O 3) (O 1) Z s L l) [5,0,1,0] [1,0,0] λD IA=>
  .seg 0 λIZ=>
  W (((D.1.1,D.1.2.1,D.1.2.2.1,D.1.2.2.2,x),D.2.1,D.2.2,x4,x.1::b)) ⟨IA,h4,GQ.mpr ⟨o,X⟩,λc hc=>(GR.mp hc).elim (λe=>e▸Iz) (Y c)⟩ [0,0,0,0,1,0] [] [0,1])))
 let IV:∀(w:E9) (fr:Nat) (k:K7) (S n2i ne st is se nd sn t:Nat) (x:Nat×Nat) (f:Nat) (j:List (Nat×Nat)) (v:List Nat) (m:List (Nat×Nat×Int×Nat)) (d:Nat) (F:ao) (I:List ai) (b:List Nat) (z:SZ) (s:SL) (L:List aF) (SS:List (Env×Addr×Obj)) (l:aC L=SS) (p:cx w (bK z) b) (X:b.Nodup) (Y:∀c∈b,c∈am I) (E:b.length<=1000) (G:bU m x.1=false) (y:Nat×Nat) (V:List (Nat×Nat)) (T:Nat->List Nat) (Q:Nat->List (Nat×Nat×Int×Nat)) (N:Nat->Nat->ao) (o:¬x.1∈b) (g:ai) (R:ao) (J:look? (ay I) x.1=some g.a) (H:(aB I).Perm (g.cells++R)) (Iz:x.1∈am I) (ID:j.length<=1000) (IE:v.length<=1000) (Ix:m.length<=1000) (hp:∀(sn t f d a i u:Nat) (s:SL) (L:List aF),aC L=SS->ab (env w) (fg w.params fr k S n2i st is se nd sn t x f (j++[(x.1,x.2)]) (v++[a]) (aw m x.1 x.2 ((j.length:Nat),u)) d (dX a i g.sc 0++F) I s L SS .next y V (T a) (Q u) (N a i))) (ih:∀(sn t f d a i u:Nat) (s:SL) (L:List aF) (z:SZ),cx w (bK z) (x.1::b)->aC L=SS->ab (env w) (gN w fr k S n2i ne st is se nd sn t y f V (T a) (Q u) d (N a i) I (x.1::b) z s L SS)),PP (env w) (gN w fr k S n2i ne st is se nd sn t x f j v m d F I b z s L SS):= @λw fr k S n2i ne st is se nd sn t x f j v m d F I b z s L SS l p X Y E G y V T Q N o g R J H Iz ID IE Ix hp ih _ W=>
  .view [] [0] _ _ _ _ (bw H)
  (.seg 0x7001007007003003001 λO1=>
  .use _ (lA w se z b (x.1) (x.2) p E o) [6] [] λx2 h2=>
  .seg 0x1001004001001001001004 λO3=>
  .use _ (rm w se z b (x.1) (x.2) p E o) [0] [] λx4 h4=>
  .seg 0x8001008008008004004000000006006006006004 λO5=>
  .use _ (dW w n2i (Fz "dict") none ne (x.1) (x.2) (ay I) (g.a) J) [7] [] λB h6=>
  .seg 0x9001001001001001001001001001001001001001001004001004004001001001003000003000000001000000000003000000001000001000000000000000000000000003001000000000003 λO=>
  .use _ (oM w is t v (O 3) (by omega)) [8] [] λM P=>
  .seg 68853694464 λO9=>
  .use _ (dv cv w st sn j (Fo j) rfl (by omega)) [8] [] λZ I3=>
  .seg 0xa00100a00a009009 λIW=>
  .use _ (f6 w nd none d (x.1) (x.2) m ((↑(Fo j):Int)) Z Ix) [9] [] λIK I4=>
  .seg 0x200100a00200200200200a λIX=>
  .use _ (dw w st sn j (x.1,x.2) (by omega)) [1] [] λJc I5=>
  .seg 0 λIY=>
  .view [7,7] [0] _ _ _ _ (aX H.symm)
  (.view [3,3] [1] _ _ _ _ ((aX (List.Perm.refl (dX (O 3) (O 1) g.sc 0++F))))
  (.use _ (hp (sn+1) (t+1) f IK (O 3) (O 1) Z s L l) [5,0,1,0] [1,0,0] λD IA=>
  .seg 0 λIZ=>
  .use _ (ih (D.1.1) (D.1.2.1) (D.1.2.2.1) (D.1.2.2.2) (O 3) (O 1) Z (D.2.1) (D.2.2) x4 h4 IA) [0,0,0,0,1,0] [0,0,0] λgt Iw=>have Je:aC gt.2.2.1=SS:=(Fx Iw);have Jf:cx w (bK gt.2.2.2.1) gt.2.2.2.2:=(Fx (Fg Iw));have Jg:List.Nodup gt.2.2.2.2:=(Fx (Fg (Fg Iw)));have Jh:∀(c:Nat),c∈gt.2.2.2.2->c∈am I:=(Fg (Fg (Fg Iw)));
  W (gt) Iw [0,0,0,0,0,0] [] [0,0])))
 intro n
 induction n using Nat.strongRecOn with
 | ind n IH=>
 intro r x b z sn t f d s L Jo C p l
 have Jp:=C.len
 have Jm:=C.csl
 have G:bU (mF r) x.1=false:=by unfold bU;rw[tT C.keys];rfl
 have l1:=nb r
 have l2:=oz r
 have l3:=oI r
 have pl:=λ(U:List SF) (y:Nat×Nat) (q:Flow) (h:List SF)=>s7 w fr k S n2i st is se nd x I SS hn bo q y h U
 have hN:∀{U:List SF} {y:Nat×Nat} {h:List SF},cP I U=some (y,h)->(match cP I U with| some q=>q=(y,h)/\Flow.next=.next | none=>h=[]/\y=x/\Flow.next=.brk):=λIv=>by rw[Iv];exact⟨rfl,rfl⟩
 have hB:∀{U:List SF},cP I U=none->(match cP I U with| some q=>q=(x,[])/\Flow.brk=.next | none=>([]:List SF)=[]/\x=x/\Flow.brk=.brk):=λIv=>by rw[Iv];exact⟨rfl,rfl,rfl⟩
 by_cases o:x.1∈b
 .cases hp:cP I r with
  | none=>
   exact ct (have I6:∀(sn t f d:Nat) (s:SL) (L:List aF),aC L=SS->ab (env w) (fg w.params fr k S n2i st is se nd sn t x f (bO r) (b7 r) (mF r) d (ck r) I s L SS .brk x [] [] [] []):=(λsn t f d s L l=>pl r x .brk [] sn t f d s L (hB hp) l C.fin (jN C.srt) (by omega));λ_ W=>.seg 0x5001005005001001001 λO1=>.use _ (lz w se z b (x.1) (x.2) p (by omega) o) [4] [] λx2 h2=>.seg 0x5001005005002002 λO3=>.use _ (uI w nd (Fz "dict") none d (x.1) (x.2) (mF r) Bool.false G) [4] [] λx4 h4=>.seg 0 λO5=>.use _ (I6 sn t f d s L l) [2,2,2,0] [0,0,0] λB h6=>.seg 0 λO=>W (((B.1.1,B.1.2.1,B.1.2.2.1,B.1.2.2.2,x),B.2.1,B.2.2,z,b)) ⟨h6,p,C.nd,C.sub⟩ [0,0,0,0,0,0] [] [0,1])
  | some q=>
   obtain⟨y,h⟩:=q
   obtain⟨_,_,_,_,_,_,IP⟩:=j7 hp
   have C':=eF.next A C.fin C.srt C.nd C.sub hp
   exact ct (Jb w fr k S n2i ne st is se nd sn t x f (bO r) (b7 r) (mF r) d (ck r) I b z s L SS l p C.nd C.sub (by omega) G y (bO h) (b7 h) (mF h) (ck h) o (λsn t f d s L l=>pl r y .next h sn t f d s L (hN hp) l C.fin (jN C.srt) (by omega))
    (λsn t f d s L l=>IH (n-1) (by omega) h y b z sn t f d s L (by omega) C' p l))
 .obtain ⟨I1,g,I2,IB,IM,h1,h2⟩:=jO hn C.xk
  have IQ:g∈I:=by rw[IB];exact FH _ E2
  have H:(aB I).Perm (g.cells++aB (I1++I2)):=by rw[IB];exact hU ..
  have J:look? (ay I) x.1=some g.a:=by
   obtain⟨IG,R,hi,e,E,_⟩:=fX hn C.xk
   have:IG=g:=by
    rw[IB]at hi
    rcases GE.mp hi with q | q
    .exact absurd e (h1 IG q)
    .rcases GR.mp q with q | q
     .exact q
     .exact absurd e (h2 IG q)
   rw[<-this];exact E
  have Iy:=jL hn IQ
  rw[IM]at Iy
  have I7:∀IJ,aw (mF r) x.1 x.2 IJ=mF r++[(x.1,x.2,IJ)]:=λIJ=>lN C.keys
  have I8:=(qj o hn).2 C.xk
  have IL:∀a i u,∀io∈(⟨x,((r.length:Nat),u),a,i,g.sc,0⟩::r:List SF),ig I io:=λa i u io hf=>by
   rcases GR.mp hf with rfl | hf
   .exact ⟨g,IQ,IM,rfl⟩
   .exact C.fin io hf
  have IT:∀a i u,(⟨x,((r.length:Nat),u),a,i,g.sc,0⟩::r:List SF).Pairwise λio I0=>rk I0.c.1<rk io.c.1:=λa i u=>List.pairwise_cons.mpr ⟨C.lt,C.srt⟩
  have IR:(x.1::b).Nodup:=GQ.mpr ⟨o,C.nd⟩
  have IU:∀c∈x.1::b,c∈am I:=λc hc=>(GR.mp hc).elim (λe=>e▸C.xk) (C.sub c)
  have IN:∀a i u,fq I (⟨x,((r.length:Nat),u),a,i,g.sc,0⟩::r)=g.su.length+fq I r:=λa i u=>by simp[fq,Iy]
  rw[Iy]at I8
  have II:∀(y:Nat×Nat) (q:Flow) (h:Nat->Nat->Nat->List SF),(∀a i u,(match cP I (⟨x,((r.length:Nat),u),a,i,g.sc,0⟩::r)with| some I9=>I9=(y,h a i u)/\q=.next | none=>h a i u=[]/\y=x/\q=.brk))->
   ∀(sn t f d a i u:Nat) (s:SL) (L:List aF),aC L=SS->ab (env w) (fg w.params fr k S n2i st is se nd sn t x f (bO r++[(x.1,x.2)]) (b7 r++[a]) (aw (mF r) x.1 x.2 (((bO r).length:Nat),u)) d (dX a i g.sc 0++ck r) I s L SS q y (bO (h a i u)) (b7 (h a i u)) (mF (h a i u)) (ck (h a i u))):=λy q h Iv sn t f d a i u s L l=>by
   rw[I7,l1]
   exact pl (⟨x,((r.length:Nat),u),a,i,g.sc,0⟩::r) y q (h a i u) sn t f d s L (Iv a i u) l (IL a i u) (jN (IT a i u)) (by simp;omega)
  cases hy:g.su[0]? with
  | some y=>
   have hp:∀a i u,cP I (⟨x,((r.length:Nat),u),a,i,g.sc,0⟩::r)=some (y,⟨x,((r.length:Nat),u),a,i,g.sc,1⟩::r):=λa i u=>by
    unfold cP
    simp only[Iy,hy]
   refine av (IV w fr k S n2i ne st is se nd sn t x f (bO r) (b7 r) (mF r) d (ck r) I b z s L SS l p C.nd C.sub (by omega) G y (bO r++[x]) (λa=>b7 r++[a]) (λu=>mF r++[(x.1,x.2,(((r.length:Nat):Int),u))]) (λa i=>dX a i g.sc 1++ck r) o g (aB (I1++I2)) J H C.xk (by omega) (by omega) (by omega)
    (II y .next (λa i u=>⟨x,((r.length:Nat),u),a,i,g.sc,1⟩::r) λa i u=>hN (hp a i u)) (λsn t f d a i u s L z' IF IC=>?_))
   obtain⟨_,_,_,_,_,_,IP⟩:=j7 (hp a i u)
   have IN:=IN a i u
   exact IH (n-1) (by omega) (⟨x,((r.length:Nat),u),a,i,g.sc,1⟩::r) y (x.1::b) z' sn t f d s L (by omega) (eF.next A (IL a i u) (IT a i u) IR IU (hp a i u)) IF IC
  | none=>
   have IS:∀a i u,cP I (⟨x,((r.length:Nat),u),a,i,g.sc,0⟩::r)=cP I r:=λa i u=>by
    rw[cP]
    simp only[Iy,hy]
   cases hp:cP I r with
   | none=>
    exact av (Ja w fr k S n2i ne st is se nd sn t x f (bO r) (b7 r) (mF r) d (ck r) I b z s L SS l p C.nd C.sub (by omega) G o g (aB (I1++I2)) J H C.xk (by omega) (by omega) (by omega)
     (II x .brk (λ_ _ _=>[]) λa i u=>hB ((IS a i u).trans hp)))
   | some q=>
    obtain⟨y,h⟩:=q
    refine av (IV w fr k S n2i ne st is se nd sn t x f (bO r) (b7 r) (mF r) d (ck r) I b z s L SS l p C.nd C.sub (by omega) G y (bO h) (λ_=>b7 h) (λ_=>mF h) (λ_ _=>ck h) o g (aB (I1++I2)) J H C.xk (by omega) (by omega) (by omega)
     (II y .next (λ_ _ _=>h) λa i u=>hN ((IS a i u).trans hp)) (λsn t f d a i u s L z' IF IC=>?_))
    obtain⟨_,_,_,_,_,_,IP⟩:=j7 hp
    exact IH (n-1) (by omega) h y (x.1::b) z' sn t f d s L (by omega) (eF.next A C.fin C.srt IR IU hp) IF IC
end
noncomputable def uQ (P:E8) (k:Nat×Nat×Nat×Nat×Nat×Nat) (S n st i s nd:Nat) (e:Nat) (a:SL):Obj:=
 bv [es P [115,101,108,102] k.1 (.ref S),es P [110,50,105] k.2.1 (.ref n),es P [115,116,97,99,107] k.2.2.1 (.ref st),es P [105,116,115,116,97,99,107] k.2.2.2.1 (.ref i),es P [115,101,101,110] k.2.2.2.2.1 (.ref s),es P [110,111,100,101,50,115,116,97,99,107,105] k.2.2.2.2.2 (.ref nd)] e a
noncomputable def nP (w:E9) (f a i:Nat) (d:Obj) (b n st g s nd sn t e:Nat) (I:List ai) (h:List Nat) (z:SZ) (L:List aF) (S:List (Env×Addr×Obj)):af:={d:=60,α:=List aF,c:=Ek w.params a f,need:=[(b,dO w.params (.type "dict") none .ref (ay I) n),(a,bZ "dict_keyiterator" b i (ay I).length n),(f,d),(st,ae [] sn),(g,ae [] t),(nd,dO w.params (.type "dict") none iv [] e),(s,bK z)],put:=λq=>[dO w.params (.type "dict") none .ref (ay I) n],post:=λq=>aC q=S,needB:=[aB I,a8 L],putB:=λq=>[aB I,a8 q],outer:=some (dD w.params f::S.map (·.1))}
section
variable (w:E9) (fr it:Nat) (n2i ne st is se nd:Nat) (I:List ai) (SS:List (Env×Addr×Obj)) (S:Nat) (rk:Nat->Nat) (hn:(am I).Nodup) (bo:∀x∈SS,cn x) (A:fH rk I) (hI:I.length<=800)
include hn bo A hI
theorem vj (k:K7) (x:Nat×Nat) (a:List Nat) (z:SZ) (sn t b e:Nat) (s:SL) (L:List aF) (l:cx w (bK z) a) (d:aC L=SS) (g:a.Nodup) (i:∀c∈a,c∈am I) (j:x.1∈am I):ab (env w) (gN w fr k S n2i ne st is se nd sn t x b [] [] [] e [] I a z s L SS):=
 DY w fr k S n2i ne st is se nd I SS rk hn bo A hI _ [] x a z sn t b e s L (FO _) ⟨λf h=>(nomatch h),.nil,λf h=>(nomatch h),j,g,i⟩ l d
theorem tP {q:Nat×Nat×Nat} {i:Nat} (h:(ay I)[i]? =some q):q.1∈am I:=by
 obtain⟨j,a,e⟩:=Gl.mp (FD h)
 rw[<-e];exact Fc (f:=λi:ai=>i.node.1) a
theorem vx:∀(u:List (Nat×Nat×Nat)) (i:Nat) (k:K7) (l:Nat×Nat) (f:List Nat) (z:SZ) (sn t j h:Nat) (s:SL) (L:List aF),(ay I).drop i=u->cx w (bK z) f->aC L=SS->f.Nodup->(∀c∈f,c∈am I)->
 ab (env w) (nP w fr it i (gu w.params k S n2i st is se nd l j s) n2i ne st is se nd sn t h I f z L SS):=by
 intro u
 induction u with
 | nil=>
  intro i k l f z sn t j h s L D p r n o
  have C:f.length<=1000:=by have:=kz (m:=am I) n o;simp[am]at this;omega
  exact ct (λ_ v=>.seg 137455738881 λO=>.use _ (ub w it n2i i ne (Fz "dict") none (ay I) (aV D)) [1,0] [] λT B=>.seg 4099 λG=>v (L) r [1] [] [0,0])
 | cons q u F=>
  intro i k l f z sn t j h s L D p r n o
  have C:f.length<=1000:=by have:=kz (m:=am I) n o;simp[am]at this;omega
  obtain⟨E,B⟩:=aQ D
  exact ct (λ_ v=>.seg 137455738881 λO=>.use _ (ua w it n2i i ne (Fz "dict") none (ay I) q E) [1,0] [] λT X=>.seg 0x7001007007003003003003 λG=>.or (q.1∈f) (¬(q.1∈f)) (FK _) (λy=>.use _ (lz w se z f (q.1) (q.2.1) p C y) [6] [] λU J=>.seg 0 λH=>.use _ ((λk l f z sn t j h s L a b c d=>F (i+1) k l f z sn t j h s L B a b c d) (k.1,k.2.1,k.2.2.1,k.2.2.2.1,k.2.2.2.2.1,k.2.2.2.2.2.1,k.2.2.2.2.2.2) (q.1,q.2.1) f z sn t j h s L p r n o) [2,1,1,1,1,1,0] [0,0] λg m=>v (g) m [0] [] [0,0]) (λy=>.use _ (lA w se z f (q.1) (q.2.1) p C y) [6] [] λU J=>.seg 0 λH=>.view [] [] _ _ _ _ (qd) (.use _ ((λk x f z sn t j h s L a b c d e=>vj w fr n2i ne st is se nd I SS S rk hn bo A hI k x f z sn t j h s L a b c d e) (k.1,k.2.1,k.2.2.1,k.2.2.2.1,k.2.2.2.2.1,k.2.2.2.2.2.1,k.2.2.2.2.2.2) (q.1,q.2.1) f z sn t j h s L p r n o (tP I SS rk hn bo A hI E)) [3,3,3,3,0,1] [1,0,0] λg m=>have M:aC g.2.2.1=SS:=(Fx m);have N:cx w (bK g.2.2.2.1) g.2.2.2.2:=(Fx (Fg m));have P:List.Nodup g.2.2.2.2:=(Fx (Fg (Fg m)));have Q:∀(c:Nat),c∈g.2.2.2.2->c∈am I:=(Fg (Fg (Fg m))); .seg 0 λW=>.use _ ((λk l f z sn t j h s L a b c d=>F (i+1) k l f z sn t j h s L B a b c d) (k.1,k.2.1,k.2.2.1,k.2.2.2.1,k.2.2.2.2.1,k.2.2.2.2.2.1,k.2.2.2.2.2.2) (g.1.2.2.2.2) (g.2.2.2.2) (g.2.2.2.1) (g.1.1) (g.1.2.1) (g.1.2.2.1) (g.1.2.2.2.1) (g.2.1) (g.2.2.1) N M P Q) [5,5,0,0,0,0,0] [0,0] λV R=>v (V) R [0] [] [0,0])))
theorem Ej (k:Nat×Nat×Nat×Nat×Nat×Nat) (z:SZ) (sn t h g:Nat) (s:SL) (L:List aF) (l:cx w (bK z) []) (o:aC L=SS):
 ab (env w) (nP w fr it 0 (uQ w.params k S n2i st is se nd h s) n2i ne st is se nd sn t g I [] z L SS):=by
 cases r:(ay I)[0]? with
 | none=>exact ct (λ_ m=>.seg 137455738881 λv=>.use _ (ub w it n2i 0 ne (Fz "dict") none (ay I) r) [1,0] [] λJ B=>.seg 4099 λO=>m (L) o [1] [] [0,0])
 | some q=>exact ct (λ_ m=>.seg 137455738881 λv=>.use _ (ua w it n2i 0 ne (Fz "dict") none (ay I) q r) [1,0] [] λJ B=>.seg 0x7001007007003003003003 λO=>.or (q.1∈[]) (¬(q.1∈[])) (FK _) (λn=>.use _ (lz w se z [] (q.1) (q.2.1) l (Gi _:([]:List Nat).length<=1000) n) [6] [] λM C=>.seg 0 λy=>.use _ ((λk u j z sn t h g s L a b c d=>vx w fr it n2i ne st is se nd I SS S rk hn bo A hI ((ay I).drop 1) 1 k u j z sn t h g s L rfl a b c d) (k.1,k.2.1,k.2.2.1,k.2.2.2.1,k.2.2.2.2.1,k.2.2.2.2.2,O 0) (q.1,q.2.1) [] z sn t (h+1) g s L l o Gv (λc p=>(nomatch p))) [2,1,1,1,1,1,0] [0,0] λf i=>m (f) i [0] [] [0,0]) (λn=>.use _ (lA w se z [] (q.1) (q.2.1) l (Gi _:([]:List Nat).length<=1000) n) [6] [] λM C=>.seg 0 λy=>.view [] [] _ _ _ _ (qd) (.use _ ((λk x j z sn t h g s L a b c d e=>vj w fr n2i ne st is se nd I SS S rk hn bo A hI k x j z sn t h g s L a b c d e) (k.1,k.2.1,k.2.2.1,k.2.2.2.1,k.2.2.2.2.1,k.2.2.2.2.2,O 0) (q.1,q.2.1) [] z sn t (h+1) g s L l o Gv (λc p=>(nomatch p)) (tP I SS rk hn bo A hI r)) [3,3,3,3,0,1] [1,0,0] λf i=>have D:aC f.2.2.1=SS:=(Fx i);have E:cx w (bK f.2.2.2.1) f.2.2.2.2:=(Fx (Fg i));have F:List.Nodup f.2.2.2.2:=(Fx (Fg (Fg i)));have G:∀(c:Nat),c∈f.2.2.2.2->c∈am I:=(Fg (Fg (Fg i))); .seg 0 λP=>.use _ ((λk u j z sn t h g s L a b c d=>vx w fr it n2i ne st is se nd I SS S rk hn bo A hI ((ay I).drop 1) 1 k u j z sn t h g s L rfl a b c d) (k.1,k.2.1,k.2.2.1,k.2.2.2.1,k.2.2.2.2.1,k.2.2.2.2.2,O 0) (f.1.2.2.2.2) (f.2.2.2.2) (f.2.2.2.1) (f.1.1) (f.1.2.1) (f.1.2.2.1) (f.1.2.2.2.1) (f.2.1) (f.2.2.1) E D F G) [5,5,0,0,0,0,0] [0,0] λN H=>m (N) H [0] [] [0,0])))
theorem Ei (k:Nat×Nat×Nat×Nat×Nat×Nat) (sn t f e:Nat) (s:SL) (L:List aF) (h:aC L=SS):
 ab (env w) (nP w fr it 0 (uQ w.params k S n2i st is se nd f s) n2i ne st is se nd sn t e I [] (#[],0,.fresh 0 0 (!w.params.followText "set-order")) L SS):=
 Ej w fr it n2i ne st is se nd I SS S rk hn bo A hI k _ sn t f e s L (yg _ _) h
end
section
variable {β:Type}
noncomputable def sx (f:β->Fb) (P:E8) (d:Nat) (b:Fb) (g:Option Addr) (m:List (Nat×Nat×β)) (e:Nat):af:={d:=1,α:=Nat,c:=.builtin "dict.__iter__" ⟨[.ref d],[]⟩,need:=[(d,dO P b g f m e)],r:=λa=>.ok (.ret (.ref a)),put:=λ_=>[dO P b g f m e],new:=λa=>[(a,bZ "dict_keyiterator" d 0 m.length e)]}
theorem Ct (f:β->Fb) (w:E9) (d:Nat) (b:Fb) (g:Option Addr) (m:List (Nat×Nat×β)) (a:Nat) (k:b=.type "dict"\/b=.ref 1093):ab (env w) (sx f w.params d b g m a):=by
 refine aN λA s G n o P j=>?_
 have h:s.heap.get? d=some (dO w.params b g f m a):=P.has (d,_) E2
 have l:1228<=d:=P.ge (d,_) E2
 show Fr _ _ (FM table (.builtin "dict.__iter__" ⟨[.ref d],[]⟩)) _ _ s
 rw[aE _ _ F.entry_dict_iter]
 show Fr _ _ (HA "__iter__" ⟨[.ref d],[]⟩>>=_) _ _ s
 refine E3 ?_
 unfold HA
 refine E3 (gA (d:=d) rfl P.base h k ?_)
 show Fr _ _ (pure (Fs d)) _ _ s
 refine E5 ?_
 show Fr _ _ (Gs d>>=_) _ _ s
 unfold Gs
 rw[if_neg (by rw[eL l];exact Fi)]
 refine E3 (E5 ?_)
 refine E3 (FS h rfl ?_)
 refine E3 (Gk h rfl ?_)
 unfold HV
 refine E3 (Gg ?_ (by size_fits))
 refine E5 ?_
 have i:=(ap.start P).push (bZ "dict_keyiterator" d 0 ((m.map (aS w.params f)).toArray.size) a) rfl
 have e:(m.map (aS w.params f)).toArray.size=m.length:=by simp
 refine j _ _ trivial ?_
 show ap s {s with heap:=s.heap.push (bZ "dict_keyiterator" d 0 ((m.map (aS w.params f)).toArray.size) a)} _ [(d,dO w.params b g f m a),(s.heap.objs.size,bZ "dict_keyiterator" d 0 m.length a)]
 rw[show bZ "dict_keyiterator" d 0 m.length a=bZ "dict_keyiterator" d 0 ((m.map (aS w.params f)).toArray.size) a from by rw[e]]
 exact i.perm (.swap ..)
noncomputable def j1 (n t:String) (f:β->Fb) (P:E8) (d:Nat) (b:Fb) (e:Option Addr) (m:List (Nat×Nat×β)) (g:Nat):af:={d:=1,α:=Nat,c:=.builtin ("dict."++n) ⟨[.ref d],[]⟩,need:=[(d,dO P b e f m g)],r:=λa=>.ok (.ret (.ref a)),put:=λ_=>[dO P b e f m g],new:=λa=>[(a,{cls:=.type t,data:=.fields #[.ref d]})]}
theorem vR {w:E9} {A:Around} {E:Fb->Fe->Prop} {s:Fe} {d:Addr} {f:β->Fb} {a:Fb} {b:Option Addr} {m:List (Nat×Nat×β)} {e:Nat} {n:String} {Q:Addr->Fe->Prop} (B:ca (kt w.params) s.heap) (i:s.heap.get? d=some (dO w.params a b f m e)) (g:a=.type "dict"\/a=.ref 1093) (h:Q d s):
 Fr (FT pq w) A (Ig n ⟨[.ref d],[]⟩) Q E s:=by
 unfold Ig
 refine E3 (gA (d:=d) rfl B i g ?_)
 show Fr _ _ (Builtin.Dict.nameIsSure n ⟨[.ref d],[]⟩ false>>=_) _ _ s
 unfold Builtin.Dict.nameIsSure
 refine E3 (E5 ?_)
 show Fr _ _ (pure d) _ _ s
 exact E5 h
theorem uj (f:β->Fb) (w:E9) (d:Nat) (a:Fb) (b:Option Addr) (m:List (Nat×Nat×β)) (e:Nat) (i:a=.type "dict"\/a=.ref 1093):ab (env w) (j1 "items" "dict_items" f w.params d a b m e):=by
 refine aN λA s G l n P h=>?_
 have k:s.heap.get? d=some (dO w.params a b f m e):=P.has (d,_) E2
 have j:1228<=d:=P.ge (d,_) E2
 show Fr _ _ (FM table (.builtin "dict.items" ⟨[.ref d],[]⟩)) _ _ s
 rw[aE _ _ F.entry_dict_items]
 show Fr _ _ (Ig "items" ⟨[.ref d],[]⟩>>=_) _ _ s
 refine E3 (vR P.base k i ?_)
 show Fr _ _ (Gs d>>=_) _ _ s
 unfold Gs
 rw[if_neg (by rw[eL j];exact Fi)]
 refine E3 (E5 ?_)
 unfold HV
 refine E3 (Gg ?_ (by size_fits))
 refine E5 ?_
 have g:=(ap.start P).push {cls:=.type "dict_items",data:=.fields #[.ref d]} rfl
 exact h _ _ trivial (g.perm (.swap ..))
theorem wo (f:β->Fb) (w:E9) (d:Nat) (a:Fb) (b:Option Addr) (m:List (Nat×Nat×β)) (e:Nat) (i:a=.type "dict"\/a=.ref 1093):ab (env w) (j1 "values" "dict_values" f w.params d a b m e):=by
 refine aN λA s G l n P h=>?_
 have k:s.heap.get? d=some (dO w.params a b f m e):=P.has (d,_) E2
 have j:1228<=d:=P.ge (d,_) E2
 show Fr _ _ (FM table (.builtin "dict.values" ⟨[.ref d],[]⟩)) _ _ s
 rw[aE _ _ F.entry_dict_values]
 show Fr _ _ (Ig "values" ⟨[.ref d],[]⟩>>=_) _ _ s
 refine E3 (vR P.base k i ?_)
 show Fr _ _ (Gs d>>=_) _ _ s
 unfold Gs
 rw[if_neg (by rw[eL j];exact Fi)]
 refine E3 (E5 ?_)
 unfold HV
 refine E3 (Gg ?_ (by size_fits))
 refine E5 ?_
 have g:=(ap.start P).push {cls:=.type "dict_values",data:=.fields #[.ref d]} rfl
 exact h _ _ trivial (g.perm (.swap ..))
noncomputable def nO (f:β->Fb) (P:E8) (d:Nat) (b:Fb) (e:Option Addr) (m:List (Nat×Nat×β)) (g:Nat) (k:Nat):af:={d:=1,α:=Nat,c:=.builtin "dict.__len__" ⟨[.ref d],[]⟩,need:=[(d,dO P b e f m g)],r:=λa=>.ok (.ret (.int k a)),put:=λ_=>[dO P b e f m g],new:=λa=>[]}
theorem vd (f:β->Fb) (w:E9) (d:Nat) (a:Fb) (b:Option Addr) (m:List (Nat×Nat×β)) (g k:Nat) (hk:m.length=k) (j:a=.type "dict"\/a=.ref 1093):ab (env w) (nO f w.params d a b m g k):=by
 subst hk
 refine aN λA s G n o P i=>?_
 have h:s.heap.get? d=some (dO w.params a b f m g):=P.has (d,_) E2
 have l:1228<=d:=P.ge (d,_) E2
 show Fr _ _ (FM table (.builtin "dict.__len__" ⟨[.ref d],[]⟩)) _ _ s
 rw[aE _ _ F.entry_dict_len]
 show Fr _ _ (HA "__len__" ⟨[.ref d],[]⟩>>=_) _ _ s
 refine E3 ?_
 unfold HA
 refine E3 (gA (d:=d) rfl P.base h j ?_)
 show Fr _ _ (pure (Fs d)) _ _ s
 refine E5 ?_
 show Fr _ _ (dictSize d>>=_) _ _ s
 unfold dictSize
 refine E3 (E3 (FS h rfl (E5 ?_)))
 refine E3 (wpAny_pendingCount_other (eL l) ?_)
 refine E3 (wpAny_mkInt (E5 ?_))
 have e:((((m.map (aS w.params f)).toArray.size:Nat):Int)+((0:Nat):Int))=(m.length:Int):=by simp
 show G (.ok (.ret (.int ((((m.map (aS w.params f)).toArray.size:Nat):Int)+((0:Nat):Int)) s.toks))) _
 rw[e]
 exact i _ _ trivial ((ap.start P).toks _)
end
section
variable (w:E9) (d:Nat) (dd:Option Addr) (ep:Nat)
theorem Cs (m:List (Nat×Nat×Nat)):ab (env w) (sx .ref w.params d (.type "dict") dd m ep):=Ct _ _ _ _ _ _ _ (.inl rfl)
theorem ui (m:List (Nat×Nat×Int×Nat)):ab (env w) (j1 "items" "dict_items" iv w.params d (.type "dict") dd m ep):=uj _ _ _ _ _ _ _ (.inl rfl)
theorem g6 (m:List (Nat×Nat×Int×Nat)):ab (env w) (j1 "items" "dict_items" iv w.params d (.ref 1093) dd m ep):=uj _ _ _ _ _ _ _ (.inr rfl)
theorem wm (m:List (Nat×Nat×Nat)):ab (env w) (j1 "values" "dict_values" .ref w.params d (.type "dict") dd m ep):=wo _ _ _ _ _ _ _ (.inl rfl)
theorem vf (m:List (Nat×Nat×Int×Nat)) (k:Nat) (hk:m.length=k):ab (env w) (nO iv w.params d (.ref 1093) dd m ep k):=vd _ _ _ _ _ _ _ _ hk (.inr rfl)
theorem gx (m:List (Nat×Nat×Int×Nat)) (k:Nat) (hk:m.length=k):ab (env w) (nO iv w.params d (.type "dict") dd m ep k):=vd _ _ _ _ _ _ _ _ hk (.inl rfl)
end
section
variable {β:Type}
noncomputable def vO (t:String) (d:Nat):Obj:={cls:=.type t,data:=.fields #[.ref d]}
noncomputable def rx (v d:Nat) (f:β->Fb) (P:E8) (b:Fb) (g:Option Addr) (m:List (Nat×Nat×β)) (e:Nat):af:={d:=1,α:=Nat,c:=.builtin "dict_values.__iter__" ⟨[.ref v],[]⟩,need:=[(v,vO "dict_values" d),(d,dO P b g f m e)],r:=λa=>.ok (.ret (.ref a)),put:=λ_=>[vO "dict_values" d,dO P b g f m e],new:=λa=>[(a,bZ "dict_valueiterator" d 0 m.length e)]}
theorem ww (v d:Nat) (f:β->Fb) (w:E9) (b:Fb) (g:Option Addr) (m:List (Nat×Nat×β)) (a:Nat):ab (env w) (rx v d f w.params b g m a):=by
 refine aN λA s G l n P j=>?_
 have k:s.heap.get? v=some (vO "dict_values" d):=P.has (v,_) E2
 have h:s.heap.get? d=some (dO w.params b g f m a):=P.has (d,_) (E4 _ E2)
 show Fr _ _ (FM table (.builtin "dict_values.__iter__" ⟨[.ref v],[]⟩)) _ _ s
 rw[aE _ _ F.entry_dict_values_iter]
 show Fr _ _ (Hz (.ref v)>>=_) _ _ s
 refine E3 ?_
 unfold Hz
 refine E3 (F1 k rfl (x:=.ref d) rfl ?_)
 show Fr _ _ (pure d) _ _ s
 refine E5 ?_
 show Fr _ _ (GY "dict_valueiterator" d>>=_) _ _ s
 unfold GY
 refine E3 (E3 (FS h rfl ?_))
 refine E3 (Gk h rfl ?_)
 show Fr _ _ (HV "dict_valueiterator" [.ref d,FV 0,FV ((m.map (aS w.params f)).toArray.size:Nat),FV a]) _ _ s
 unfold HV
 refine Gg ?_ (by size_fits)
 refine E5 ?_
 have e:(m.map (aS w.params f)).toArray.size=m.length:=by simp
 have i:=(ap.start P).push (bZ "dict_valueiterator" d 0 ((m.map (aS w.params f)).toArray.size) a) rfl
 refine j _ _ trivial ?_
 show ap s {s with heap:=s.heap.push (bZ "dict_valueiterator" d 0 ((m.map (aS w.params f)).toArray.size) a)} _ [(v,vO "dict_values" d),(d,dO w.params b g f m a),(s.heap.objs.size,bZ "dict_valueiterator" d 0 m.length a)]
 rw[show bZ "dict_valueiterator" d 0 m.length a=bZ "dict_valueiterator" d 0 ((m.map (aS w.params f)).toArray.size) a from by rw[e]]
 exact i.perm (FG (l₁:=[(s.heap.objs.size,bZ "dict_valueiterator" d 0 ((m.map (aS w.params f)).toArray.size) a)]) (l₂:=[(v,vO "dict_values" d),(d,dO w.params b g f m a)]))
noncomputable def si (v d:Nat) (f:β->Fb) (P:E8) (b:Fb) (g:Option Addr) (m:List (Nat×Nat×β)) (e:Nat):af:={d:=1,α:=Nat,c:=.builtin "dict_items.__iter__" ⟨[.ref v],[]⟩,need:=[(v,vO "dict_items" d),(d,dO P b g f m e)],r:=λa=>.ok (.ret (.ref a)),put:=λ_=>[vO "dict_items" d,dO P b g f m e],new:=λa=>[(a,aT .none d 0 m.length e .none .none)]}
theorem CS (v d:Nat) (f:β->Fb) (w:E9) (b:Fb) (g:Option Addr) (m:List (Nat×Nat×β)) (a:Nat):ab (env w) (si v d f w.params b g m a):=by
 refine aN λA s G n o P j=>?_
 have l:s.heap.get? v=some (vO "dict_items" d):=P.has (v,_) E2
 have h:s.heap.get? d=some (dO w.params b g f m a):=P.has (d,_) (E4 _ E2)
 show Fr _ _ (FM table (.builtin "dict_items.__iter__" ⟨[.ref v],[]⟩)) _ _ s
 rw[aE _ _ F.entry_dict_items_iter]
 show Fr _ _ (Hz (.ref v)>>=_) _ _ s
 refine E3 ?_
 unfold Hz
 refine E3 (F1 l rfl (x:=.ref d) rfl ?_)
 show Fr _ _ (pure d) _ _ s
 refine E5 ?_
 show Fr _ _ (GY "dict_itemiterator" d>>=_) _ _ s
 unfold GY
 refine E3 (E3 (FS h rfl ?_))
 refine E3 (Gk h rfl ?_)
 have e:(m.map (aS w.params f)).toArray.size=m.length:=by simp
 have k:(if Gc "dict_itemiterator"=true then Iq++[.ref d,FV 0,FV ((m.map (aS w.params f)).toArray.size:Nat),FV a]++[.none,.none]else[.ref d,FV 0,FV ((m.map (aS w.params f)).toArray.size:Nat),FV a])=[.none,.bool false,.ref d,FV 0,FV ((m.map (aS w.params f)).toArray.size:Nat),FV a,.none,.none]:=by
  rw[if_pos (by decide+kernel)];rfl
 show Fr _ _ (HV "dict_itemiterator" (if Gc "dict_itemiterator"=true then Iq++[.ref d,FV 0,FV ((m.map (aS w.params f)).toArray.size:Nat),FV a]++[.none,.none]else[.ref d,FV 0,FV ((m.map (aS w.params f)).toArray.size:Nat),FV a])) _ _ s
 rw[k]
 unfold HV
 refine Gg ?_ (by size_fits)
 refine E5 ?_
 have i:=(ap.start P).push (aT .none d 0 ((m.map (aS w.params f)).toArray.size) a .none .none) rfl
 refine j _ _ trivial ?_
 show ap s {s with heap:=s.heap.push (aT .none d 0 ((m.map (aS w.params f)).toArray.size) a .none .none)} _ [(v,vO "dict_items" d),(d,dO w.params b g f m a),(s.heap.objs.size,aT .none d 0 m.length a .none .none)]
 rw[show aT .none d 0 m.length a .none .none=aT .none d 0 ((m.map (aS w.params f)).toArray.size) a .none .none from by rw[e]]
 exact i.perm (FG (l₁:=[(s.heap.objs.size,aT .none d 0 ((m.map (aS w.params f)).toArray.size) a .none .none)]) (l₂:=[(v,vO "dict_items" d),(d,dO w.params b g f m a)]))
end
theorem wv (v d:Nat) (w:E9) (a:Fb) (b:Option Addr) (m:List (Nat×Nat×Nat)) (e:Nat):ab (env w) (rx v d .ref w.params a b m e):=ww _ _ _ _ _ _ _ _
theorem fS (v d:Nat) (w:E9) (a:Fb) (b:Option Addr) (m:List (Nat×Nat×Int×Nat)) (e:Nat):ab (env w) (si v d iv w.params a b m e):=CS _ _ _ _ _ _ _ _
noncomputable def yZ (w:E9) (S s:Nat) (k:Nat×Nat×Nat×Nat) (n:Nat) (r:Fb) (p d:Int×Nat) (b:Nat) (I:List ai) (L:List aF) (a:List (Env×Addr×Obj)):af:={d:=80,α:=List aF,c:=.call (.ref 1203) ⟨[.ref S],[]⟩,need:=[(S,bd s),(s,be w.params k n r p d),(n,dO w.params (.type "dict") none .ref (ay I) b)],r:=λx=>.ok (.ret .none),put:=λq=>[bd s,be w.params k n r p d,dO w.params (.type "dict") none .ref (ay I) b],post:=λq=>aC q=a,needB:=[aB I,a8 L],putB:=λq=>[aB I,a8 q],outer:=some (a.map (·.1))}
theorem Do (w:E9) (S s:Nat) (k:Nat×Nat×Nat×Nat) (n:Nat) (i:Fb) (p g:Int×Nat) (b:Nat) (I:List ai) (L:List aF) (a:List (Env×Addr×Obj)) (e:aC L=a) (r:Nat->Nat) (f:(am I).Nodup) (bo:∀x∈a,cn x) (A:fH r I) (d:I.length<=800):ab (env w) (yZ w S s k n i p g b I L a):=av (λ_ m=>.seg 0x8001008008005005005004004001001001001001001001001001001001001000000003003002002001001003000002002000000000002001000000000002001001001001000000001 λO=>.use _ (Cs w n none b (ay I)) [7] [] λj t=>.seg 2 λo=>.use _ (Ei w (O 0) j n b (O 4) (O 6) (O 8) (O 10) I a S r f bo A d (O 1,O 3,O 5,O 7,O 9,O 11) 0 0 6 0 (#[]) L e) [0,0,4,3,2,0,0] [0,0] λl h=>.seg 0 λq=>m (l) h [1,1,0] [] [0,0])
theorem qc {ev:Env} {a:Addr} {es:List E6} {ep:Nat} {sl:SL} {L:List aF}:([(a,bv es ep sl)]++[a8 L].flatten).Perm (([]:ao)++[a8 (⟨ev,a,bD es ep,sl⟩::L)].flatten):=by
 simp only[List.flatten_cons,List.flatten_nil,FL,HB]
 exact .refl _
theorem ip {d:Env} {a:Addr} {es:List E6} {e:Nat} {s:SL} {L b:List aF} (h:b=⟨d,a,bD es e,s⟩::L):(([]:ao)++[a8 b].flatten).Perm ([(a,bv es e s)]++[a8 L].flatten):=by
 subst h
 simp only[List.flatten_cons,List.flatten_nil,FL,HB]
 exact .refl _
theorem iB {L:List aF} {e:Env} {a:Addr} {o:Obj} {S:List (Env×Addr×Obj)} (h:aC L=(e,a,o)::S):∃p:SL×List aF,L=⟨e,a,o,p.1⟩::p.2/\aC p.2=S:=by
 cases L with
 | nil=>cases h
 | cons x L=>
  obtain⟨k,j,l,i⟩:=x
  injection h with b f
  injection b with b d
  injection d with d g
  subst b;subst d;subst g
  exact⟨(i,L),rfl,f⟩
theorem n4 {e:Env} {a:Addr} {o:Obj} {S:List (Env×Addr×Obj)} (h:cn (e,a,o)) (bo:∀x∈S,cn x):∀x∈(e,a,o)::S,cn x:=λx b=>by
 rcases GR.mp b with rfl | b
 .exact h
 .exact bo x b
noncomputable def sq (w:E9) (S s:Nat) (k:Nat×Nat×Nat×Nat) (n:Nat) (r:Fb) (p d:Int×Nat) (b:Nat) (I:List ai) (f:Env) (g:Nat) (es:List E6) (e:Nat) (h:SL) (L:List aF) (a:List (Env×Addr×Obj)):af:={d:=80,α:=SL×List aF,c:=.call (.ref 1203) ⟨[.ref S],[]⟩,need:=[(S,bd s),(s,be w.params k n r p d),(n,dO w.params (.type "dict") none .ref (ay I) b),(g,bv es e h)],r:=λx=>.ok (.ret .none),put:=λq=>[bd s,be w.params k n r p d,dO w.params (.type "dict") none .ref (ay I) b,bv es e q.1],post:=λq=>aC q.2=a,needB:=[aB I,a8 L],putB:=λq=>[aB I,a8 q.2],outer:=some (f::a.map (·.1))}
theorem Dt (w:E9) (S l:Nat) (k:Nat×Nat×Nat×Nat) (n:Nat) (r:Fb) (i g:Int×Nat) (d:Nat) (I:List ai) (a:Env) (f:Nat) (es:List E6) (e:Nat) (s:SL) (L:List aF) (b:List (Env×Addr×Obj)) (o:aC L=b) (j:Nat->Nat) (t:(am I).Nodup) (q:cn (a,f,bD es e)) (bo:∀x∈b,cn x) (A:fH j I) (m:I.length<=800):ab (env w) (sq w S l k n r i g d I a f es e s L b):=av (λ_ u=>.view [3] [1] _ _ _ _ (qc (ev:=a) (a:=f) (es:=es) (ep:=e) (sl:=s) (L:=L)) (.use _ (Do w S l k n r i g d I (⟨a,f,bD es e,s⟩::L) ((a,f,bD es e)::b) (by show _::aC L=_;rw[o]:aC (⟨a,f,bD es e,s⟩::L)=(a,f,bD es e)::b) j t (n4 q bo) A m) [0,0,0] [1,0] λx h=>.pick _ _ (iB h) λp hp=>.view [] [1] _ _ _ _ (ip hp.1) (u (p.1,p.2) hp.2 [1,1,1,0] [] [1,0])))
noncomputable def kR (T:String):Prop:=∀(w:E9) (A:Around) (E:Fb->Fe->Prop) (s:Fe) (i:Addr) (Q:Fb->Fe->Prop),s.TypeIs (.ref i) T->Q (.ref i) s->Fr (FT pq w) A (pyIter (.ref i)) Q E s
theorem gI:kR "list_iterator":=λw A E s i Q h a=>wpAny_pyIter_slot h slot_listiter_iter (HO slot_listiter_iter h entry_listiter_iter (by
 show Fr _ _ (ret (.ref i)) _ _ s
 exact E5 ⟨_,rfl,"list_iterator",_,h,slot_listiter_next.lookup,a⟩) (args_listiter_iter _))
theorem yh:kR "dict_valueiterator":=λw A E s i Q h a=>wpAny_pyIter_slot h F.slot_dict_valueiterator_iter (HO F.slot_dict_valueiterator_iter h entry_dict_valueiterator_iter (by
 show Fr _ _ (ret (.ref i)) _ _ s
 exact E5 ⟨_,rfl,"dict_valueiterator",_,h,F.slot_dict_valueiterator_next.lookup,a⟩) (F.args_dict_valueiterator_iter_1 _))
theorem jP:kR "range_iterator":=λw A E s i Q h a=>wpAny_pyIter_slot h F.slot_range_iterator_iter (HO F.slot_range_iterator_iter h F.entry_range_iterator_iter (by
 show Fr _ _ (ret (.ref i)) _ _ s
 exact E5 ⟨_,rfl,"range_iterator",_,h,F.slot_range_iterator_next.lookup,a⟩) (F.args_range_iterator_iter_1 _))
theorem nl:kR "str_ascii_iterator":=λw A E s i Q h a=>wpAny_pyIter_slot h F.slot_str_ascii_iterator_iter (HO F.slot_str_ascii_iterator_iter h F.entry_str_ascii_iterator_iter (by
 show Fr _ _ (ret (.ref i)) _ _ s
 exact E5 ⟨_,rfl,"str_ascii_iterator",_,h,F.slot_str_ascii_iterator_next.lookup,a⟩) (F.args_str_ascii_iterator_iter_1 _))
theorem aL {w:E9} {d:Type} {t:Sem d} {b:Ctx} {p:Pos} {s:Fe} {Q:d->Pos->Fe->Prop} {E:Fb->Pos->Fe->Prop}
 (h:Fr (FT pq w) (ia b) t (λa s=>∀p,Q a p s) (λv s=>∀p,E v p s) s):wp (FT pq w) b t Q E p s:=
 Fu _ _ _ (λ_ p _ h=>h p) (λ_ p _ h=>h p) _ _ (h b p (kB b))
theorem dq {w:E9} {T:af} {t:String} {i:Nat} {o:Obj} {a:Fb} {b:Env} {e:Expr} {n:Nat} (l:kR t) (C:o.cls=.type t) (A:(i,o)∈T.need)
 (r:((clausesOf e)[n]?).elim false (·.is_async !=0)=false) (v:(Code.compStart e n (.ref i) a b).isFrame=false) (u:T.c=.compLoop e n (.ref i) a b) (h:ab (env w) T):
 ab (env w) {T with c:=.compStart e n (.ref i) a b}:=by
 intro f d y m k p s F P q
 have d:f.code=.compStart e n (.ref i) a b:=d
 have B:s.heap.get? i=some o:=P.has (i,o) (F5 _ A)
 have j:s.TypeIs (.ref i) t:=⟨_,B,C⟩
 have go:∀p,wpCode (FT pq (env w).w) (f.goto (.compLoop e n (.ref i) a b)) F p s:=λp=>h (f.goto (.compLoop e n (.ref i) a b)) u.symm y m ⟨k.cnt,k.units⟩ p s F P q
 rw[F3,d]
 show wp _ _ (if(Code.compStart e n (.ref i) a b).isFrame then _ else(compStart e n (.ref i) a b).onRaise _) _ _ p s
 rw[if_neg (by rw[v];exact Fi),Gu]
 unfold compStart
 rw[if_neg (by rw[r];exact Fi),E7]
 refine aL (wpAny_askSetting λp=>?_)
 split
 .show finPost _ _ _ (.again (.compLoop e n (.ref i) a b)) p s
  exact⟨rfl,go p⟩
 .rw [E7]
  show wp _ _ (rule _) _ _ p s
  refine aL (GZ λp=>?_)
  cases D:(clausesOf e)[n]? with
  | none=>
   show wp _ _ (pyIter (.ref i)>>=λx=>again (.compLoop e n x a b)) _ _ p s
   rw[E7]
   exact aL (l _ _ _ _ _ _ j λp=>⟨rfl,go p⟩)
  | some g=>
   show wp _ _ (standAt g.iter.pos>>=λ_=>pyIter (.ref i)>>=λx=>again (.compLoop e n x a b)) _ _ p s
   rw[E7]
   refine aL (GB λp=>?_)
   rw[E7]
   exact aL (l _ _ _ _ _ _ j λp=>⟨rfl,go p⟩)
noncomputable def nq (e:Expr):Scope:=(eP e).2.2.2.1
noncomputable def eU (e:Expr) (a:Env) (b:Nat) (cells:List (Str×Addr)):Env:={scope:=relabel (nq e) a,locals:=b,globals:=3,cells:=cells,qual:=a.qual,func:=none,code:=a.code,frame:=a.frame,builtins:=0}
noncomputable def dE (e:Expr) (n i a:Nat) (d:Env) (b:Nat) (cells:List (Str×Addr)):Code:=.compLoop e n (.ref i) (.ref a) (eU e d b cells)
noncomputable def bB (e:Expr) (n i a:Nat) (d:Env) (b:Nat) (cells:List (Str×Addr)):Code:=.compStart e n (.ref i) (.ref a) (eU e d b cells)
noncomputable def j6 (P:E8) (f:Nat):Env:=dY (kq P) 1168 f
noncomputable def sW (P:E8):Expr:=bI (aA (cX (kq P)) 1)
noncomputable def co (I:List ai):List (Nat×Nat):=(I.filter λi=>decide (i.np.1=0)).map (·.node)
noncomputable def f8 (w:E9) (d i a f b g e n:Nat) (lo:List E6) (l:Nat) (I:List ai) (r res:List (Nat×Nat)):af:={d:=20,α:=Nat×Nat×Nat×Nat,c:=dE (sW w.params) 0 d a (j6 w.params g) b [],need:=[(e,dO w.params (.type "dict") none .ref (ay I) n),(a,ae (r.map cv) f),(b,oD lo l),(d,bZ "dict_valueiterator" e i (ay I).length n)],put:=λq=>[dO w.params (.type "dict") none .ref (ay I) n,ae (res.map cv) q.1,oD [es w.params [105] q.2.1 (.ref q.2.2.1)] q.2.2.2],post:=λq=>True,needB:=[aB I],putB:=λq=>[aB I]}
theorem ux {I:List ai} {i:Nat} {ib:ai} (h:I[i]? =some ib):(ay I)[i]? =some (ib.node.1,ib.node.2,ib.a)/\∃R,(aB I).Perm (ib.cells++R):=by
 refine⟨by unfold ay;rw[Fl,h];rfl, ?_⟩
 obtain⟨a,b,rfl⟩:=Hu (FD h)
 exact⟨_,hU ..⟩
theorem sV (w:E9) (g j q s n h:Nat) (I:List ai) (Q:I.length<=800):∀(e:List ai) (i d k a l:Nat) (r:List (Nat×Nat)),I.drop i=e->r.length<=i->ab (env w) (f8 w g i j d q s n h [es w.params [105] k (.ref a)] l I r (r++co e)):=by
 intro e
 induction e with
 | nil=>
  intro i d k a l r t B
  have u:(ay I)[i]? =none:=by unfold ay;rw[Fl,aV t];rfl
  rw[show co []=[]from rfl,FL]
  exact ct (λ_ p=>.seg 274894700545 λD=>.use _ (wq w g n i h (Fz "dict") none (ay I) u) [3,0] [] λL m=>.seg 3 λO=>p (d,k,a,l) trivial [1,3,3] [] [0])
 | cons b e C=>
  intro i d k a l r t B
  obtain⟨A,m⟩:=aQ t
  obtain⟨u,R,v⟩:=ux A
  have S:i<I.length:=(Fa.mp A).1
  have F:b.np.1=0->∀(d k a l:Nat),ab (env w) (f8 w g (i+1) j d q s n h [es w.params [105] k (.ref a)] l I (r++[b.node]) (r++co (b::e))):=λy d k a l=>by
   have:=C (i+1) d k a l (r++[b.node]) m (by simp;omega)
   rw[Fp]at this
   simpa[co,y]using this
  have G:¬b.np.1=0->∀(d k a l:Nat),ab (env w) (f8 w g (i+1) j d q s n h [es w.params [105] k (.ref a)] l I r (r++co (b::e))):=λy d k a l=>by
   have:=C (i+1) d k a l r m (by omega)
   simpa[co,y]using this
  exact av (have B:r.length<=1000:=(by omega);λ_ p=>.view [] [0] _ _ _ _ (bw v) (.seg 412333662209 λD=>.use _ (qe w g n i h (Fz "dict") none (ay I) (b.node.1,b.node.2,b.a) u) [5,2] [] λL m=>.seg 0x1003000003000000001000000000003000000001000001000000000000000000000000003001000000000003006006006 λO=>.or (b.np.1=0) (¬(b.np.1=0)) (FK _) (λf=>.use _ (g7 w (b.np.1) 0 (b.np.2) (O 2) f) [] [] λM H=>.seg 0x5001003000003000000001000000000003000000001000001000000000000000000000000003001000000000003006 λE=>.use _ (dw w j d r (b.node.1,b.node.2) (by omega)) [4] [] λx J=>.seg 0 λN=>.view [3,3] [0] _ _ _ _ (aX v.symm) (.use _ (F f (d+1) k ((b.node.1,b.node.2,b.a).2.2) l) [2,0,1,0] [0] λo P=>p (o.1,o.2.1,o.2.2.1,o.2.2.2) trivial [0,0,0] [] [0])) (λf=>.use _ (g8 w (b.np.1) 0 (b.np.2) (O 2) f) [] [] λM H=>.seg 0 λE=>.view [2,2] [0] _ _ _ _ (aX v.symm) (.use _ (G f d k ((b.node.1,b.node.2,b.a).2.2) l) [1,1,1,0] [0] λx J=>p (x.1,x.2.1,x.2.2.1,x.2.2.2) trivial [0,0,0] [] [0]))))
theorem zV (w:E9) (e d h j n f b l:Nat) (I:List ai) (q:I.length<=800) (C:I≠[]):ab (env w) (f8 w e 0 d b h j n f [] l I [] (co I)):=by
 obtain⟨i,r,rfl⟩:=FC C
 obtain⟨B,R,o⟩:=ux (I:=i::r) (i:=0) (ib:=i) rfl
 have u:i.np.1=0->∀(b k a l:Nat),ab (env w) (f8 w e 1 d b h j n f [es w.params [105] k (.ref a)] l (i::r) ([]++[i.node]) (co (i::r))):=λp b k a l=>by
  have:=sV w e d h j n f (i::r) q r 1 b k a l [i.node] rfl (by simp)
  simpa[co,p]using this
 have v:¬i.np.1=0->∀(b k a l:Nat),ab (env w) (f8 w e 1 d b h j n f [es w.params [105] k (.ref a)] l (i::r) [] (co (i::r))):=λp b k a l=>by
  have:=sV w e d h j n f (i::r) q r 1 b k a l [] rfl (by simp)
  simpa[co,p]using this
 exact av (have J:([]:List (Nat×Nat)).length<=1000:=(Gi _);λ_ s=>.view [] [0] _ _ _ _ (bw o) (.seg 412333662209 λE=>.use _ (qe w e n 0 f (Fz "dict") none (ay (i::r)) (i.node.1,i.node.2,i.a) B) [5,2] [] λL G=>.seg 0x1003000003000000001000000000003000000001000001000000000000000000000000003001000000000003006006006 λO=>.or (i.np.1=0) (¬(i.np.1=0)) (FK _) (λg=>.use _ (g7 w (i.np.1) 0 (i.np.2) (O 2) g) [] [] λD y=>.seg 0x5001003000003000000001000000000003000000001000001000000000000000000000000003001000000000003006 λt=>.use _ (dw w d b [] (i.node.1,i.node.2) (by omega)) [4] [] λx A=>.seg 0 λF=>.view [3,3] [0] _ _ _ _ (aX o.symm) (.use _ (u g (b+1) (O 0) ((i.node.1,i.node.2,i.a).2.2) (l+1)) [2,0,1,0] [0] λm H=>s (m.1,m.2.1,m.2.2.1,m.2.2.2) trivial [0,0,0] [] [0])) (λg=>.use _ (g8 w (i.np.1) 0 (i.np.2) (O 2) g) [] [] λD y=>.seg 0 λt=>.view [2,2] [0] _ _ _ _ (aX o.symm) (.use _ (v g b (O 0) ((i.node.1,i.node.2,i.a).2.2) (l+1)) [1,1,1,0] [0] λx A=>s (x.1,x.2.1,x.2.2.1,x.2.2.2) trivial [0,0,0] [] [0]))))
theorem zT (w:E9) (i a b f n d e l:Nat) (I:List ai) (h:I.length<=800) (g:I≠[]):ab (env w) {f8 w i 0 a e b f n d [] l I [] (co I)with c:=bB (sW w.params) 0 i a (j6 w.params f) b []}:=
 dq yh (o:=bZ "dict_valueiterator" n 0 (ay I).length d) rfl (by simp[f8]) (by kernel_rfl) (by kernel_rfl) rfl (zV w i a b f n d e l I h g)
noncomputable def yG (w:E9) (S s:Nat) (k:Nat×Nat×Nat×Nat) (n:Nat) (p d:Int×Nat) (b:Nat) (I:List ai) (L:List aF) (a:List (Env×Addr×Obj)):af:={d:=100,α:=Nat×Nat×List aF,c:=.call (.ref 1168) ⟨[.ref S],[]⟩,need:=[(S,bd s),(s,be w.params k n .none p d),(n,dO w.params (.type "dict") none .ref (ay I) b)],r:=λx=>.ok (.ret .none),put:=λq=>[bd s,be w.params k n (.ref q.1) p d,dO w.params (.type "dict") none .ref (ay I) b],new:=λx=>[(x.1,ae ((co I).map cv) x.2.1)],post:=λq=>aC q.2.2=a,needB:=[aB I,a8 L],putB:=λq=>[aB I,a8 q.2.2],outer:=some (a.map (·.1))}
theorem zX (P:E8) (f:Nat) (o:Obj) (h:o.isFreed=false):cn (j6 P f,f,o):=⟨rfl,(by
 show(cW (kq P)).scope.kind≠ .module
 have:(cW (kq P)).scope.kind=.function:=(by kernel_rfl)
 rw[this];exactλz=>nomatch z),h⟩
theorem Dr (w:E9) (S s:Nat) (k:Nat×Nat×Nat×Nat) (n:Nat) (r:Fb) (p d:Int×Nat) (b:Nat) (I:List ai) (f m:Nat) (e:Nat) (h:SL) (L:List aF) (a:List (Env×Addr×Obj)) (j:aC L=a) (g:Nat->Nat) (l:(am I).Nodup) (bo:∀x∈a,cn x) (A:fH g I) (i:I.length<=800):ab (env w) (sq w S s k n r p d b I (j6 w.params f) f [es w.params [115,101,108,102] m (.ref S)] e h L a):=Dt w S s k n r p d b I (j6 w.params f) f _ e h L a j g l (zX _ _ _ rfl) bo A i
theorem zS (w:E9) (S s:Nat) (k:Nat×Nat×Nat×Nat) (n:Nat) (p e:Int×Nat) (a:Nat) (I:List ai) (L:List aF) (b:List (Env×Addr×Obj)) (g:aC L=b) (r:Nat->Nat) (i:(am I).Nodup) (bo:∀x∈b,cn x) (A:fH r I) (h:I.length<=800) (j:I≠[]):ab (env w) (yG w S s k n p e a I L b):=av (λ_ t=>.seg 0x4001004004004004003000002002000000000002001000000000002001003000002002000000000002001000000000002001001001001000000001 λd=>.use _ (wm w n none a (ay I)) [3] [] λl B=>.seg 137455738882 λu=>.use _ (wv l n w (Fz "dict") none (ay I) a) [1,0] [] λm C=>.seg 3 λO=>.use _ (zT w m (O 0) (O 1) (d 0) n a 0 0 I h j) [3,1,0,1] [0] λo D=>.seg 0x7006000000000000006000000000006000000000006005007007007000006000000000006000006001000006001000000000006005003003003 λv=>.use _ (Dr w S s (k.1,k.2.1,k.2.2.1,k.2.2.2) n (Fs (O 0)) (p.1,p.2) (e.1,e.2) a I (d 0) (d 1) 1 (#[]) L b g r i bo A h) [5,5,0,3] [0,0] λq f=>.seg 67125252 λy=>t (O 0,o.1,q.2) f [0,0,0] [1] [0,0])
structure bt (e:bu) (d:Nat) (Γ:Ctx):Prop where
 hh:Γ.handled=none
 hl:dQ d Γ
section
variable {e:bu} {T:af} {d:Nat} {Γ:Ctx} {p:Pos} {s0 s:Fe} {own:List Addr} {r:ao}
theorem iR {t:Sem Flow} (h:ax e T (t>>=λf=>pure (.done f))) (H:bt e d Γ) (l:T.d<=d) (k:T.outer=none) (G:Go e.kt s0 own s (T.all++r)) {f0:Flow} (g:∀x,T.r x=.ok f0)
 {Q:Flow->Pos->Fe->Prop} {E:Fb->Pos->Fe->Prop} (j:∀x b p,T.post x->Go e.kt s0 own b (T.res x++r)->Q f0 p b):wp (FT pq e.w) Γ t Q E p s:=
 h.flow Γ H.hh (λes z=>by rw[k]at z;cases z) ⟨by have:=H.hl.cnt;omega,by have:=H.hl.units;omega⟩ p s G.sub.pre
  (λx b p f i A a=>by rw[g]at a;cases a;exact j x b p i (G.stepR A)) (λx b p v i A a=>by rw[g]at a;cases a)
theorem j3 {t:Sem Fb} (h:ax e T ((t>>=λv=>pure (.ret v))>>=λf=>pure (.done f))) (H:bt e d Γ) (n:T.d<=d) (l:T.outer=none) (G:Go e.kt s0 own s (T.all++r)) {v0:T.α->Fb} (i:∀x,T.r x=.ok (.ret (v0 x)))
 {Q:Fb->Pos->Fe->Prop} {E:Fb->Pos->Fe->Prop} (k:∀x a p,T.post x->Go e.kt s0 own a (T.res x++r)->Q (v0 x) p a):wp (FT pq e.w) Γ t Q E p s:=by
 have q:=h.flow Γ H.hh (λes z=>by rw[l]at z;cases z) ⟨by have:=H.hl.cnt;omega,by have:=H.hl.units;omega⟩ p s G.sub.pre (Q:=λf p a=>∃v,f=.ret v/\Q v p a) (E:=λ_ _ _=>False)
  (λx a p f j A b=>by rw[i]at b;cases b;exact⟨_,rfl,k x a p j (G.stepR A)⟩) (λx a p v j A b=>by rw[i]at b;cases b)
 rw[E7]at q
 refine Fu _ _ _ (λv p s h=>?_) (λ_ _ _ h=>h.elim) _ _ q
 obtain⟨g,m,h⟩:∃g,Flow.ret v=.ret g/\Q g p s:=h
 cases m;exact h
theorem fP {t:Sem Bool} (h:ax e T ((t>>=λb=>pure (.ret (.bool b)))>>=λf=>pure (.done f))) (H:bt e d Γ) (n:T.d<=d) (l:T.outer=none) (G:Go e.kt s0 own s (T.all++r)) {b0:Bool} (i:∀x,T.r x=.ok (.ret (.bool b0)))
 {Q:Bool->Pos->Fe->Prop} {E:Fb->Pos->Fe->Prop} (k:∀x a p,T.post x->Go e.kt s0 own a (T.res x++r)->Q b0 p a):wp (FT pq e.w) Γ t Q E p s:=by
 have q:=h.flow Γ H.hh (λes z=>by rw[l]at z;cases z) ⟨by have:=H.hl.cnt;omega,by have:=H.hl.units;omega⟩ p s G.sub.pre (Q:=λf p a=>f=.ret (.bool b0)/\Q b0 p a) (E:=λ_ _ _=>False)
  (λx a p f j A g=>by rw[i]at g;cases g;exact⟨rfl,k x a p j (G.stepR A)⟩) (λx a p v j A g=>by rw[i]at g;cases g)
 rw[E7]at q
 refine Fu _ _ _ (λv p s h=>?_) (λ_ _ _ h=>h.elim) _ _ q
 obtain⟨m,h⟩:Flow.ret (.bool v)=.ret (.bool b0)/\Q b0 p s:=h
 cases m;exact h
end
theorem xx {w:E9} {d:Ctx} {t:List Stmt} {a:Env} (D:d.code=.func t a) {p W X:Pos} {s:Fe} {r:Str} {gt:Sem Fb} {f u:Addr} {x v:Obj} {i:FuncData} {k:Arg} {vs:Array Fb} {n:Str} {Z:Tok} {Q:Fb->Pos->Fe->Prop} {E:Fb->Pos->Fe->Prop}
 (O:a.kindOf "super"=some .globalImplicit) (N:a.kindOf "__class__"=some .free) (C:(r==("__class__":Str))=false) (M:a.func=some f) (H:s.heap.get? f=some x) (I:x.data=.func i)
 (hp:(i.params.posonlyargs++i.params.args).head? =some k) (G:a.code=.ref u) (F:s.heap.get? u=some v) (P:v.data=.fields vs) (T:vs[2]? =some (.str n Z))
 (J:((pq.main.file:Str)==n)=true) (R:(pq.main.scope.names.lookup ("super":Str)).isSome=false)
 (h:∀p,wp (FT pq w) d (HK a "super") (λg p y=>g=.type "super"/\wp (FT pq w) d (HK a "__class__") (λm p j=>∀p,wp (FT pq w) d (HK a k.arg) (λY p A=>
  wp (FT pq w) d (isType m) (λb p B=>b=true/\wp (FT pq w) d (call (.type "super") [m,Y]) Q E p B) E p A) E p j) E p y) E p s):
 wp (FT pq w) d (attributeBase (.Call (.Name "super" W) [] [] X) r a gt) Q E p s:=by
 unfold attributeBase
 simp only[bne_self_eq_false,C,O,N,M,G,Bool.or_false,Bool.or_self,Ge,if_false,Option.isSome_some,if_true,pure_bind]
 unfold funcData
 rw[E7,E7]
 refine aL (wpAny_load H λp=>?_)
 rw[I]
 show wp _ _ (pure i) _ _ p s
 refine aL (E5 λp=>?_)
 simp only[hp]
 rw[E7]
 refine aL (wpAny_askSetting λp=>?_)
 rw[E7]
 refine aL (F1 F P T λp=>?_)
 have L:((FT pq w).prog.main.file==n)=true:=J
 have S:(List.lookup (Str.ofString "super") (FT pq w).prog.main.scope.names).isSome=false:=R
 simp only[L,S,if_true,Ge,if_false]
 rw[E7]
 refine aL (GZ λp=>?_)
 rw[E7]
 refine aL (GB λp=>?_)
 rw[E7]
 refine Fu _ _ _ (λg p y o=>?_) (λ_ _ _ z=>z) _ _ (h p)
 obtain⟨rfl,o⟩:=o
 rw[E7]
 refine Fu _ _ _ (λm p j U=>?_) (λ_ _ _ z=>z) _ _ o
 rw[E7]
 refine Fu _ _ _ (λl p s h=>(h p)) (λe p s h=>h p) _ _ (ks_wpAt_noComps (M:=FT pq w) (A:=ia d) (body:=t) (env':=a) (s:=j) (E:=λe s=>∀p,E e p s) (Q:=λl s=>∀p,_) (λp=>?_) d p D (kB d))
 show wp _ _ (HK a k.arg>>=_) _ _ p j
 rw[E7]
 refine Fu _ _ _ (λio p A V=>?_) (λ_ _ _ z=>z) _ _ (U p)
 rw[E7]
 refine Fu _ _ _ (λb p B q=>?_) (λ_ _ _ z=>z) _ _ V
 obtain⟨rfl,q⟩:=q
 exact q
theorem xw {w:E9} {a:Ctx} {M:List Stmt} {e:Env} (O:a.code=.func M e) {p m n i d q:Pos} {s:Fe} {k:Str} {j:List Expr} {l:List Keyword} {f u:Addr} {D C:Obj} {r:FuncData} {t:Arg} {vs:Array Fb} {x:Str} {tf:Tok} {Q:Flow->Pos->Fe->Prop} {E:Fb->Pos->Fe->Prop}
 (Y:e.kindOf "super"=some .globalImplicit) (X:e.kindOf "__class__"=some .free) (N:(k==("__class__":Str))=false) (V:e.func=some f) (S:s.heap.get? f=some D) (T:D.data=.func r)
 (hp:(r.params.posonlyargs++r.params.args).head? =some t) (R:e.code=.ref u) (P:s.heap.get? u=some C) (Z:C.data=.fields vs) (io:vs[2]? =some (.str x tf))
 (U:((pq.main.file:Str)==x)=true) (gt:(pq.main.scope.names.lookup ("super":Str)).isSome=false) (W:interactive e=false)
 (h:∀p,wp (FT pq w) a (HK e "super") (λg p G=>g=.type "super"/\wp (FT pq w) a (HK e "__class__") (λo p H=>∀p,wp (FT pq w) a (HK e t.arg) (λIx p I=>
  wp (FT pq w) a (isType o) (λb p J=>b=true/\wp (FT pq w) a (call (.type "super") [o,Ix]) (λF p L=>wp (FT pq w) a ((standAt i.atName>>=λ_=>methodCall (.Call (.Name "super" m) [] [] n) k i d e F (j.length+l.length) (backTo d (starEach j e)) (backToKw d (keywordEach l e)))>>=λv=>dropValue (.Call (.Attribute (.Call (.Name "super" m) [] [] n) k i) j l d) q v) Q E p L) E p J) E p I) E p H) E p G) E p s):
 wp (FT pq w) a (exec (.Expr (.Call (.Attribute (.Call (.Name "super" m) [] [] n) k i) j l d) q) e) Q E p s:=by
 rw[arm_exec_Expr,E7]
 refine aL (GB λp=>?_)
 show wp _ _ (if interactive e=true then _ else _) _ _ p s
 rw[if_neg (by rw[W];exact Fi)]
 show wp _ _ (eval (.Call (.Attribute (.Call (.Name "super" m) [] [] n) k i) j l d) e>>=λv=>dropValue (.Call (.Attribute (.Call (.Name "super" m) [] [] n) k i) j l d) q v) _ _ p s
 rw[E7,arm_eval_Call,E7]
 refine xx O Y X N V S T hp R P Z io U gt λp=>?_
 refine Fu _ _ _ (λg p G y=>⟨y.1,Fu _ _ _ (λo p H Iv p=>Fu _ _ _ (λIy p I Iw=>Fu _ _ _ (λb p J A=>⟨A.1,Fu _ _ _ (λF p L B=>?_) (λ_ _ _ z=>z) _ _ A.2⟩) (λ_ _ _ z=>z) _ _ Iw) (λ_ _ _ z=>z) _ _ (Iv p)) (λ_ _ _ z=>z) _ _ y.2⟩) (λ_ _ _ z=>z) _ _ (h p)
 rw[E7]at B
 exact B
noncomputable def cO (P:E8) (d:Nat) (m:List (Nat×Nat×Int×Nat)) (e:Nat):Obj:=dO P (.ref 1093) (some d) iv m e
noncomputable def y7 (P:E8):af:={d:=60,α:=Nat×Nat×Nat,c:=.call (.ref 1093) ⟨[],[]⟩,need:=[],r:=λx=>.ok (.ret (.ref x.1)),new:=λx=>[(x.1,cO P x.2.1 [] 0),(x.2.1,oD [] x.2.2)]}
noncomputable def eD (o:Obj) (a f:Nat):Env:={dY o a f with cells:=[(⟨⟨[95,95,99,108,97,115,115,95,95]⟩⟩,874)]}
noncomputable def cD (P:E8) (f:Nat):Env:=eD (lS P) 887 f
noncomputable def ci (P:E8):List Stmt:=cX (lS P)
noncomputable def bQ (P:E8) (k:Nat×Nat×Nat) (S:Nat) (i:Fb) (a:Nat):Obj:=bD [es P [115,101,108,102] k.1 (.ref S),es P [105,116,101,114,97,98,108,101] k.2.1 i,es P [107,119,100,115] k.2.2 (.ref a)] 3
noncomputable def bN (S:Nat):Obj:={cls:=.type "super",data:=.fields #[.ref 1093,.ref S,.ref 1093]}
noncomputable def bl (C:ao) (f:Flow):af:={d:=10,α:=Unit,need:=C,r:=λ_=>.ok f,put:=λ_=>C.map (·.2)}
noncomputable def rT (C:ao) (S:Nat):af:={d:=10,α:=Nat,need:=C,r:=λx=>.ok (.ret (.ref x)),put:=λ_=>C.map (·.2),new:=λx=>[(x,bN S)]}
noncomputable def tV (t:Sem Fb):Sem Gq:=(t>>=λv=>pure (.ret v))>>=λf=>pure (.done f)
noncomputable def e6 (t:Sem Bool):Sem Gq:=(t>>=λv=>pure (.ret (.bool v)))>>=λf=>pure (.done f)
noncomputable def tF (t:Sem Flow):Sem Gq:=t>>=λf=>pure (.done f)
noncomputable def jI (st:Stmt) (e:Env) (g:Fb):Sem Flow:=match st with
 |.Expr (.Call (.Attribute o d a) b k p) f=>(standAt a.atName>>=λ_=>methodCall o d a p e g (b.length+k.length) (backTo p (starEach b e)) (backToKw p (keywordEach k e)))>>=λv=>dropValue (.Call (.Attribute o d a) b k p) f v
 | _=>pure .next
noncomputable def e7 (s:Stmt):Expr:=(sP s).2.1
noncomputable def xT (s:Stmt):Pos:=(sP s).2.2.2.2.2.1
noncomputable def gy (e:Expr):Expr:=(eP e).1
noncomputable def Eo (e:Expr):List Expr:=match e with|.Call _ a _ _=>a | _=>[]
noncomputable def En (e:Expr):List Keyword:=match e with|.Call _ _ k _=>k | _=>[]
noncomputable def mz (e:Expr):Pos:=(eP e).2.2.1
noncomputable def vM (e:Expr):Expr:=(eP e).1
noncomputable def mE (e:Expr):Str:=match e with|.Attribute _ n _=>n | _=>⟨⟨[]⟩⟩
noncomputable def jJ (s:Stmt):Stmt:=.Expr (.Call (.Attribute (.Call (.Name "super" (mz (gy (vM (gy (e7 s)))))) [] [] (mz (vM (gy (e7 s))))) (mE (gy (e7 s))) (mz (gy (e7 s)))) (Eo (e7 s)) (En (e7 s)) (mz (e7 s))) (xT s)
noncomputable def jE (o:Obj):Array Fb:=match o.data with|.fields vs=>vs | _=> #[]
noncomputable def qV (v:Option Fb):Str:=match v with| some (.str s _)=>s | _=>⟨⟨[]⟩⟩
noncomputable def xm (v:Option Fb):Tok:=match v with| some (.str _ t)=>t | _=>0
noncomputable def ro (o:Obj):Arg:=(((cW o).params.posonlyargs++(cW o).params.args).head?).getD {arg:=⟨⟨[]⟩⟩,annotation:=none,pos:=default}
structure pQ (P:E8) (f cc:Nat) (of oc:Obj):Prop where
 kf:kt P f=some of
 kc:kt P cc=some oc
 fd:of.data=.func (cW of)
 hp:((cW of).params.posonlyargs++(cW of).params.args).head? =some (ro of)
 code:(cW of).code=.ref cc
 ks:∀fr,(eD of f fr).kindOf "super"=some .globalImplicit
 kk:∀fr,(eD of f fr).kindOf "__class__"=some .free
 dat:oc.data=.fields (jE oc)
 vs:(jE oc)[2]? =some (.str (qV (jE oc)[2]?) (xm (jE oc)[2]?))
 file:((pq.main.file:Str)==qV (jE oc)[2]?)=true
 top:(pq.main.scope.names.lookup ("super":Str)).isSome=false
 int:∀fr,interactive (eD of f fr)=false
 slf:(ro of).arg="self"
theorem CB (P:E8):pQ P 887 886 (lS P) (tu P):=⟨(by kernel_rfl),(by kernel_rfl),(by kernel_rfl),(by kernel_rfl),(by kernel_rfl),λf=>(by kernel_rfl),λf=>(by kernel_rfl),(by kernel_rfl),(by kernel_rfl),(by kernel_rfl),(by kernel_rfl),λf=>(by kernel_rfl),(by kernel_rfl)⟩
theorem wx (P:E8):pQ P 936 935 (lR P) (tt P):=⟨(by kernel_rfl),(by kernel_rfl),(by kernel_rfl),(by kernel_rfl),(by kernel_rfl),λf=>(by kernel_rfl),λf=>(by kernel_rfl),(by kernel_rfl),(by kernel_rfl),(by kernel_rfl),(by kernel_rfl),λf=>(by kernel_rfl),(by kernel_rfl)⟩
theorem qN {w:E9} {e:Ctx} {f i a S j k:Nat} {o u:Obj} {C:List Stmt} {st:Stmt} {m:List (Nat×Nat×Int×Nat)} {l:Obj} {d s:Fe} {own:List Addr} {all rS rf:ao} {p:Pos} (O:pQ w.params f i o u) (P:e.code=.func C (eD o f a)) (t:st=jJ st) (N:(mE (gy (e7 st))==("__class__":Str))=false) (H:bt (env w) 20 e)
 (D:ax (env w) (bl [] (.ret (.type "super"))) (tV (HK (eD o f a) "super"))) (F:ax (env w) (bl [] (.ret (.ref 1093))) (tV (HK (eD o f a) "__class__"))) (I:ax (env w) (bl [(a,l)] (.ret (.ref S))) (tV (HK (eD o f a) "self")))
 (J:ax (env w) (bl [] (.ret (.bool true))) (e6 (isType (.ref 1093)))) (L:ax (env w) (rT [(S,cO w.params j m k)] S) (tV (PySem.call (.type "super") [.ref 1093,.ref S])))
 (n:all.Perm ([(S,cO w.params j m k)]++rS)) (r:all.Perm ([(a,l)]++rf)) (G:Go (env w).kt d own s all) {Q:Flow->Pos->Fe->Prop} {E:Fb->Pos->Fe->Prop}
 (M:∀b v p,Go (env w).kt d own v ((b,bN S)::all)->wp (FT pq w) e (jI st (eD o f a) (.ref b)) Q E p v):wp (FT pq w) e (exec st (eD o f a)) Q E p s:=by
 rw[t]
 have R:(eD o f a).code=.ref i:=O.code
 refine xw P (O.ks a) (O.kk a) N rfl (G.inv.base f o O.kf) O.fd O.hp R (G.inv.base i u O.kc) O.dat O.vs O.file O.top (O.int a) λp=>?_
 refine j3 D H (by show 10<=20;omega) rfl (r:=all) G (λ_=>rfl) λ_ U p _ y=>⟨rfl, ?_⟩
 refine j3 F H (by show 10<=20;omega) rfl (r:=all) y (λ_=>rfl) λ_ V p _ A p=>?_
 rw[O.slf]
 refine j3 I H (by show 10<=20;omega) rfl (r:=rf) (Go.perm A r) (λ_=>rfl) λ_ T p _ g=>?_
 have g:Go (env w).kt d own T all:=Go.perm (all:=[(a,l)]++rf) g r.symm
 refine fP J H (by show 10<=20;omega) rfl (r:=all) g (λ_=>rfl) λ_ s4 p _ B=>⟨rfl, ?_⟩
 refine j3 L H (by show 10<=20;omega) rfl (r:=rS) (Go.perm B n) (v0:=λb=>.ref b) (λ_=>rfl) λb x p _ h=>?_
 have h:Go (env w).kt d own x ((S,cO w.params j m k)::(b,bN S)::rS):=h
 have q:=M b x p (Go.perm h ((List.Perm.swap ..).trans (.cons _ n.symm)))
 rw[t]at q
 exact q
theorem CN (w:E9) (f:Nat):ax (env w) (bl [] (.ret (.type "super"))) (tV (HK (cD w.params f) "super")):=tk _ (λ_ a=>.seg 0 λO=>a () trivial [] [] [])
theorem CM (w:E9) (f:Nat):ax (env w) (bl [] (.ret (.ref 1093))) (tV (HK (cD w.params f) "__class__")):=tk _ (λ_ a=>.seg 0 λO=>a () trivial [] [] [])
theorem CL (w:E9) (f:Nat) (k:Nat×Nat×Nat) (S:Nat) (i:Fb) (a:Nat):ax (env w) (bl [(f,bQ w.params k S i a)] (.ret (.ref S))) (tV (HK (cD w.params f) "self")):=tk _ (λ_ b=>.seg 1 λO=>b () trivial [0] [] [])
theorem uw (w:E9):ax (env w) (bl [] (.ret (.bool true))) (e6 (isType (.ref 1093))):=tk _ (λ_ a=>.seg 0 λO=>a () trivial [] [] [])
theorem uv (w:E9) (S d:Nat) (m:List (Nat×Nat×Int×Nat)) (e:Nat):ax (env w) (rT [(S,cO w.params d m e)] S) (tV (PySem.call (.type "super") [.ref 1093,.ref S])):=tk _ (λ_ a=>.seg 0x1001001001001001000002002000001001001001001001001000001001 λO=>a (O 0) trivial [1] [0] [])
theorem CK (w:E9) (f S d s e:Nat):ax (env w) (bl [(S+1228,cO w.params d [] e),(s,bN (S+1228))] .next) (tF (jI (aA (ci w.params) 0) (cD w.params f) (.ref s))):=tk _ (λ_ a=>.seg 0x2002001001001001000001001001000000002002002001002001002002 λO=>a () trivial [1,1] [] [])
theorem CH (P:E8):ci P=jJ (aA (ci P) 0)::(ci P).drop 1:=by kernel_rfl
theorem uu (P:E8):aA (ci P) 0=jJ (aA (ci P) 0):=by kernel_rfl
theorem CC (P:E8):(mE (gy (e7 (aA (ci P) 0)))==("__class__":Str))=false:=by kernel_rfl
theorem ut (w:E9) (f:Nat) (k:Nat×Nat×Nat) (S e t g:Nat) (r:Fb) {rS rf:ao} (T:af) (C:ax (env w) T (tF (Hd ((ci w.params).drop 1) (cD w.params f)))) (L:∀x,T.r x=.ok .next) (d:Nat) (B:T.d<=d) (Q:20<=d) (J:T.outer=none) (A:T.anyH=false)
 (j:T.all.Perm ([(S,cO w.params e [] g)]++rS)) (E:T.all.Perm ([(f,bQ w.params k S r t)]++rf)):ab (env w) {T with d:=d,c:=.func (ci w.params) (cD w.params f),r:=λ_=>.ok (.ret .none)}:=by
 intro h l m R q p s F P D
 have m:h.handled=none:=m.resolve_left (by show¬T.anyH=true;rw[A];exact Fi)
 have y:bt (env w) d h:=⟨m,q⟩
 have H:bt (env w) 20 h:=⟨m,⟨by have:cF h.below+4*d<=640:=q.cnt;omega,by have:HT h.below+10*d<=2000:=q.units;omega⟩⟩
 have G:Go (env w).kt s (keys T.all) s T.all:=Go.start P
 have U:1228<=S:=P.ge (S,cO w.params e [] g) (j.symm.subset E2)
 have l:h.code=.func (ci w.params) (cD w.params f):=l
 obtain⟨a,rfl⟩:∃a,S=a+1228:=⟨S-1228,by omega⟩
 rw[F3,l]
 show wp _ _ (do point;match<-(Hd (ci w.params) (cD w.params f)).onRaise (leaving (cD w.params f))with|.ret v=>ret v | _=>ret .none) _ _ p s
 rw[E7]
 refine aL (wpAny_point λp=>?_)
 rw[E7,Gu,show Hd (ci w.params) (cD w.params f)=Hd (jJ (aA (ci w.params) 0)::(ci w.params).drop 1) (cD w.params f)from congrArg (λb=>Hd b (cD w.params f)) (CH w.params),Ir,E7,<-uu]
 refine qN (CB w.params) l (uu _) (CC _) H (CN w f) (CM w f) (CL w f k _ r t) (uw w) (uv w _ e [] g) j E G λi M p n=>?_
 have n:Go (env w).kt s (keys T.all) M ([((a+1228),cO w.params e [] g),(i,bN (a+1228))]++rS):=Go.perm n ((List.Perm.cons _ j).trans (.swap ..))
 refine iR (CK w f a e i g) H (by show 10<=20;omega) rfl (r:=rS) n (λ_=>rfl) λ_ N p _ o=>?_
 have o:Go (env w).kt s (keys T.all) N (T.all++[(i,bN (a+1228))]):=Go.perm (all:=[((a+1228),cO w.params e [] g),(i,bN (a+1228))]++rS) o (((List.Perm.swap ..).trans (.cons _ j.symm)).trans (FG (l₁:=[(i,bN (a+1228))])))
 refine iR C y B J o L λx O p I u=>?_
 exact D x O I u.sub.after
section
variable {β:Type} {w:E9} {f:β->Fb} {m:List (Nat×Nat×β)} {A:Around} {E:Fb->Fe->Prop} {s:Fe} {d:Addr} {cls:Fb} {dd:Option Addr} {ep c t:Nat}
theorem EJ {v:β} {Q:Unit->Fe->Prop} (b:s.heap.get? d=some (dO w.params cls dd f m ep)) (e:m.length<=1000)
 (h:∀F:Obj->Obj,F (dO w.params cls dd f m ep)=dO w.params cls dd f (aw m c t v) (fv m c ep)->Q () {s with heap:=s.heap.update d F}):
 Fr (FT pq w) A (dictSetHashed d (.str ⟨⟨[c]⟩⟩ t) ((sk w).hash ⟨⟨[c]⟩⟩) (f v)) Q E s:=by
 unfold dictSetHashed
 try with_reducible refine Gj ?_
 refine E3 (kO (m:=m) b ?_)
 cases a:m.findIdx? λx=>decide (x.1=c)with
 | some i=>
  refine E3 (GZ (E3 (wpAny_updateDict b rfl (wpAny_point (h _ ?_)))))
  unfold fv;rw[a]
  unfold dO Obj.mapDict
  rw[nS a]
  simp
 | none=>
  refine E3 (GZ (wpAny_updateDictKeys (hz:=by simp[Gw];omega) b rfl (h _ ?_)))
  unfold fv;rw[a]
  unfold dO Hg
  rw[nT a]
  simp[aS]
  rfl
theorem zO {i:Nat} {x:Nat×Nat×β} (g:(ak m).Nodup) (h:m[i]? =some x):aw (m.take i) x.1 x.2.1 x.2.2=m.take (i+1):=by
 obtain⟨n,e⟩:=Fa.mp h
 have k:m.take (i+1)=m.take i++[x]:=by rw[List.take_succ,h];rfl
 rw[k]
 refine lN λy l z=>?_
 obtain⟨j,b,q⟩:=Iu.mp l
 rw[FQ]at b
 have o:j<i:=by omega
 rw[GO]at q
 have a:(ak m)[j]'(by simp[ak];omega)=(ak m)[i]'(by simp[ak];omega):=by
  simp only[ak,List.getElem_map,q,z,e]
 have:=(List.getElem_inj g).mp a
 omega
theorem pO {nm:String} {o:Addr} {k:Fb} {l:Option Addr} {n:Nat} {B:Fe} {own:List Addr} {r:ao} {Q:Unit->Fe->Prop} (P:d≠o) (R:1228<=o) (U:d∈own)
 (C:ap B s own ((d,dO w.params cls dd f [] ep)::(o,dO w.params k l f m n)::r)) (T:m.length<=8) (V:(ak m).Nodup)
 (N:∀a e,ap B a own ((d,dO w.params cls dd f m e)::(o,dO w.params k l f m n)::r)->Q () a):
 Fr (FT pq w) A (Hp nm d o) Q E s:=by
 have u:s.heap.get? o=some (dO w.params k l f m n):=C.has (o,_) (E4 _ E2)
 unfold Hp
 rw[if_neg (by simpa using P)]
 unfold Gs
 rw[if_neg (by rw[eL R];exact Fi)]
 refine E3 (E5 ?_)
 refine E3 (FS u rfl ?_)
 dsimp only
 have I:(m.map (aS w.params f)).toArray.size=m.length:=by simp
 have q:((m.map (aS w.params f)).toArray.all λe=>(keyPart e.key).isSome)=true:=by
  rw[Array.all_eq_true']
  intro x Z
  obtain⟨y,_,rfl⟩:=Gl.mp (List.mem_toArray.mp Z)
  rfl
 have few:(decide ((m.map (aS w.params f)).toArray.size<=8)&&(m.map (aS w.params f)).toArray.all λe=>(keyPart e.key).isSome)=true:=by
  rw[q,Bool.and_true,decide_eq_true_eq,I]
  exact T
 rw[few]
 rw[if_neg (by simp)]
 refine E3 (Gk u rfl ?_)
 refine E3 (FS u rfl ?_)
 refine E3 ?_
 rw[G7]
 simp only[Std.Legacy.Range.size,Nat.sub_zero,Nat.add_sub_cancel,Nat.div_one]
 rw[I]
 refine wpAny_forIn_list _
  (λv _ a=>∃i e,v=HW i (m.length-i)/\i<=m.length/\ap B a own ((d,dO w.params cls dd f (m.take i) e)::(o,dO w.params k l f m n)::r))
  _ ?_ ?_ _ _ ⟨0,ep,by simp,Gi _,by simpa using C⟩
 .rintro x v b a ⟨i,e,g,G,j⟩
  have H:i<m.length:=by
   rcases Nat.lt_or_ge i m.length with h | h
   .exact h
   .rw [Nat.sub_eq_zero_of_le h]at g;simp at g
  obtain⟨rfl,Y⟩:x=i/\v=HW (i+1) (m.length-(i+1)):=by
   have e:m.length-i=(m.length-(i+1))+1:=by omega
   rw[e,HP]at g
   injection g with M q
   exact⟨M,q⟩
  have W:a.heap.get? o=some (dO w.params k l f m n):=j.has (o,_) (E4 _ E2)
  have O:a.heap.get? d=some (dO w.params cls dd f (m.take x) e):=j.has (d,_) E2
  refine E3 (FS W rfl ?_)
  obtain⟨y,J⟩:∃y,m[x]? =some y:=⟨m[x],Fh H⟩
  have L:((m.map (aS w.params f)).toArray)[x]? =some (aS w.params f y):=by
   rw[Fv,Fl,J];rfl
  simp only[L]
  show Fr _ _ (holding [(aS w.params f y).key,(aS w.params f y).val] (dictSetHashed d (.str ⟨⟨[y.1]⟩⟩ y.2.1) ((sk w).hash ⟨⟨[y.1]⟩⟩) (f y.2.2))>>=_) _ _ a
  refine E3 (Gj (EJ O (by rw[FQ];omega) λF D=>?_))
  have p:=j.set F U (by rw[D];rfl)
  rw[D,zO V J]at p
  have X:=p.has (o,_) (E4 _ E2)
  refine E3 (Gk X rfl ?_)
  rw[if_neg (by simp)]
  exact E5 ⟨x+1,_,Y,H,p⟩
 .rintro b a ⟨i,e,g,G,j⟩
  have S:i=m.length:=by
   rcases Nat.lt_or_ge i m.length with h | h
   .have e:m.length-i=(m.length-(i+1))+1:=by omega
    rw[e,HP]at g;exact nomatch g
   .exact Nat.le_antisymm G h
  subst S
  rw[GJ]at j
  exact E5 (N a e j)
end
noncomputable def yB (P:E8) (o:Nat) (m:List (Nat×Nat×Int×Nat)) (e:Nat):af:=bl [(o,dO P (.type "dict") none iv m e)] (.ret (.bool true))
noncomputable def yA (P:E8) (o a:Nat) (m:List (Nat×Nat×Int×Nat)) (e:Nat):af:=bl [(o,cO P a m e)] (.ret (.bool true))
noncomputable def yV (P:E8) (o a b:Nat) (m:List (Nat×Nat×Int×Nat)) (e:Nat):af:=bl [(o,cO P a m e),(a,oD [] b)] (.ret (.bool false))
theorem zD (w:E9) (o:Nat) (m:List (Nat×Nat×Int×Nat)) (e:Nat):ax (env w) (yB w.params o m e) (e6 (Builtin.Dict.readDirectly (.ref o))):=tk _ (λ_ a=>.seg 4097 λO=>a () trivial [0] [] [])
theorem sS (w:E9) (o a:Nat) (m:List (Nat×Nat×Int×Nat)) (e:Nat):ax (env w) (yA w.params o a m e) (e6 (Builtin.Dict.readDirectly (.ref o))):=tk _ (λ_ b=>.seg 16777217 λO=>b () trivial [0] [] [])
theorem ud (w:E9) (o a b:Nat) (m:List (Nat×Nat×Int×Nat)) (e:Nat):ax (env w) (yV w.params o a b m e) (e6 (getAttr? (.ref o) "keys">>=λv=>pure v.isNone)):=tk _ (λ_ d=>.seg 0x1001001002000001001000000000001001000001001000000000000000000001 λO=>d () trivial [1,1] [] [])
theorem pM {w:E9} {A:Around} {E:Fb->Fe->Prop} {s:Fe} {a:Addr} {o:Obj} {Q:Fb->Fe->Prop} (h:s.heap.get? a=some o) (b:Q o.cls s):Fr (FT pq w) A (typeOf (.ref a)) Q E s:=by
 unfold typeOf
 refine E3 (wpAny_loadPart h (E5 ?_))
 exact b
noncomputable def jQ (P:E8) (d a f o:Nat) (m:List (Nat×Nat×Int×Nat)) (b:Nat):af:={d:=20,α:=Nat,c:=.builtin "dict.update" ⟨[.ref d,.ref o],[]⟩,need:=[(d,cO P a [] f),(o,dO P (.type "dict") none iv m b)],r:=λ_=>.ok (.ret .none),put:=λe=>[cO P a m e,dO P (.type "dict") none iv m b]}
theorem wB (w:E9) (d b f o:Nat) (m:List (Nat×Nat×Int×Nat)) (a:Nat) (u:m.length<=8) (x:(ak m).Nodup):ab (env w) (jQ w.params d b f o m a):=by
 intro h i j D v p s C P n
 have j:h.handled=none:=j.resolve_left (λz=>nomatch z)
 have H:bt (env w) 20 h:=⟨j,v⟩
 have G:Go (env w).kt s (keys (jQ w.params d b f o m a).all) s (jQ w.params d b f o m a).all:=Go.start P
 have q:s.heap.get? d=some (cO w.params b [] f):=P.has (d,_) E2
 have B:s.heap.get? o=some (dO w.params (.type "dict") none iv m a):=P.has (o,_) (E4 _ E2)
 have t:1228<=o:=P.ge (o,dO w.params (.type "dict") none iv m a) (E4 _ E2)
 have r:d≠o:=by
  have:=P.nd
  intro z;subst z
  exact absurd this (by simp[jQ,af.all])
 have i:h.code=.builtin "dict.update" ⟨[.ref d,.ref o],[]⟩:=i
 rw[F3]
 show wp _ _ (FM table h.code) _ _ p s
 rw[i,aE _ _ F.entry_dict_update]
 show wp _ _ (GA "update" ⟨[.ref d,.ref o],[]⟩>>=_) _ _ p s
 unfold GA
 rw[E7,E7]
 refine aL (gA (d:=d) rfl P.base q (.inr rfl) λp=>?_)
 show wp _ _ (pure (d,[Fs o])) _ _ p s
 refine aL (E5 λp=>?_)
 show wp _ _ (GG "dict.update" d (.ref o) [] .none) _ _ p s
 unfold GG
 rw[E7]
 refine aL (pM B λp=>?_)
 have y:¬((dO w.params (.type "dict") none iv m a).cls != .type "dict")=true:=by
  show¬(Fz "dict" !=Fz "dict")=true
  simp
 rw[if_neg y]
 dsimp only
 unfold Builtin.Dict.merge
 rw[E7,E7]
 refine fP (zD w o m a) H (by show 10<=20;omega) rfl (r:=[(d,cO w.params b [] f)]) (Go.perm G (.swap ..)) (b0:=true) (λ_=>rfl) λ_ k p _ g=>?_
 have g:Go (env w).kt s (keys (jQ w.params d b f o m a).all) k [(o,dO w.params (.type "dict") none iv m a),(d,cO w.params b [] f)]:=g
 have g:=Go.perm g (.swap ..)
 rw[if_pos rfl]
 show wp _ _ (Hp "dict.update" d o) _ _ p k
 refine aL (pO (cls:=.ref 1093) (dd:=some b) (f:=iv) (r:=[]) r t (E2) g.after u x λl e A p=>?_)
 show wp _ _ (ret .none) _ _ p l
 exact n e l trivial A
noncomputable def iH (P:E8) (d b h o a g:Nat) (m:List (Nat×Nat×Int×Nat)) (f:Nat):af:={d:=20,α:=Nat,c:=.builtin "dict.update" ⟨[.ref d,.ref o],[]⟩,need:=[(d,cO P b [] h),(o,cO P a m f),(a,oD [] g)],r:=λ_=>.ok (.ret .none),put:=λe=>[cO P b m e,cO P a m f,oD [] g]}
theorem wC (w:E9) (d g i o a j:Nat) (m:List (Nat×Nat×Int×Nat)) (f:Nat) (I:m.length<=8) (L:(ak m).Nodup):ab (env w) (iH w.params d g i o a j m f):=by
 intro q t u R J p s Q P B
 have u:q.handled=none:=u.resolve_left (λz=>nomatch z)
 have H:bt (env w) 20 q:=⟨u,J⟩
 have G:Go (env w).kt s (keys (iH w.params d g i o a j m f).all) s [(d,cO w.params g [] i),(o,cO w.params a m f),(a,oD [] j)]:=Go.start P
 have C:s.heap.get? d=some (cO w.params g [] i):=P.has (d,_) E2
 have N:s.heap.get? o=some (cO w.params a m f):=P.has (o,_) (E4 _ E2)
 have E:1228<=o:=P.ge (o,cO w.params a m f) (E4 _ E2)
 have D:d≠o:=by
  have:=P.nd
  intro z;subst z
  exact absurd this (by simp[iH,af.all])
 have t:q.code=.builtin "dict.update" ⟨[.ref d,.ref o],[]⟩:=t
 rw[F3]
 show wp _ _ (FM table q.code) _ _ p s
 rw[t,aE _ _ F.entry_dict_update]
 show wp _ _ (GA "update" ⟨[.ref d,.ref o],[]⟩>>=_) _ _ p s
 unfold GA
 rw[E7,E7]
 refine aL (gA (d:=d) rfl P.base C (.inr rfl) λp=>?_)
 show wp _ _ (pure (d,[Fs o])) _ _ p s
 refine aL (E5 λp=>?_)
 show wp _ _ (GG "dict.update" d (.ref o) [] .none) _ _ p s
 unfold GG
 rw[E7]
 refine aL (pM N λp=>?_)
 have M:((cO w.params a m f).cls != .type "dict")=true:=by
  rw[show(cO w.params a m f).cls=.ref 1093 from rfl];rfl
 rw[if_pos M]
 dsimp only
 have k:=fP (ud w o a j m f) H (by show 10<=20;omega) rfl (r:=[(d,cO w.params g [] i)]) (Go.perm G (FG (l₁:=[(d,cO w.params g [] i)]))) (b0:=false) (λ_=>rfl) (p:=p)
  (Q:=λb p n=>b=false/\Go (env w).kt s (keys (iH w.params d g i o a j m f).all) n [(o,cO w.params a m f),(a,oD [] j),(d,cO w.params g [] i)]) (E:=λ_ _ _=>False) λ_ n p _ r=>⟨rfl,r⟩
 rw[E7]at k
 rw[E7]
 refine Fu _ _ _ (λv p n h=>?_) (λ_ _ _ h=>h.elim) _ _ k
 obtain⟨O,r⟩:v.isNone=false/\Go (env w).kt s (keys (iH w.params d g i o a j m f).all) n [(o,cO w.params a m f),(a,oD [] j),(d,cO w.params g [] i)]:=h
 rw[if_neg (by rw[O];exact Fi)]
 unfold Builtin.Dict.merge
 rw[E7,E7]
 refine fP (sS w o a m f) H (by show 10<=20;omega) rfl (r:=[(a,oD [] j),(d,cO w.params g [] i)]) r (b0:=true) (λ_=>rfl) λ_ x p _ l=>?_
 have l:Go (env w).kt s (keys (iH w.params d g i o a j m f).all) x [(o,cO w.params a m f),(a,oD [] j),(d,cO w.params g [] i)]:=l
 have l:=Go.perm l (all':=[(d,cO w.params g [] i),(o,cO w.params a m f),(a,oD [] j)]) (FG (l₁:=[(o,cO w.params a m f),(a,oD [] j)]))
 rw[if_pos rfl]
 show wp _ _ (Hp "dict.update" d o) _ _ p x
 refine aL (pO (cls:=.ref 1093) (dd:=some g) (f:=iv) (r:=[(a,oD [] j)]) D E (E2) l.after I L λy e A p=>?_)
 show wp _ _ (ret .none) _ _ p y
 exact B e y trivial A
noncomputable def bJ (P:E8) (f:Nat):Env:=eD (lR P) 936 f
noncomputable def fJ (P:E8):List Stmt:=cX (lR P)
noncomputable def nW (s:Stmt):Pos:=(sP s).2.2.2.2.2.1
noncomputable def ji (s:Stmt):Stmt:=.If (bI s) (aY s) (cw s) (nW s)
noncomputable def u0 (P:E8):Stmt:=aA (fJ P) 0
noncomputable def u1 (P:E8):Stmt:=aA (aY (u0 P)) 0
noncomputable def u2 (P:E8):Stmt:=aA (aY (u1 P)) 0
noncomputable def u3 (P:E8):Stmt:=aA (cw (u2 P)) 0
noncomputable def iy (s:Stmt) (e:Env):Sem Bool:=isTrue (bI s) e (eval (bI s) e)
noncomputable def iI (P:E8) (C:ao) (S d:Nat) (m:List (Nat×Nat×Int×Nat)) (a s:Nat):af:={d:=35,α:=Nat,need:=(S,cO P d [] a)::(s,bN S)::C,put:=λe=>cO P d m e::bN S::C.map (·.2)}
section
variable (w:E9) (fr:Nat) (k:Nat×Nat×Nat) (S:Nat) (itv:Fb) (kw o:Nat)
theorem wT:ax (env w) (bl [] (.ret (.type "super"))) (tV (HK (bJ w.params fr) "super")):=tk _ (λ_ a=>.seg 0 λO=>a () trivial [] [] [])
theorem wS:ax (env w) (bl [] (.ret (.ref 1093))) (tV (HK (bJ w.params fr) "__class__")):=tk _ (λ_ a=>.seg 0 λO=>a () trivial [] [] [])
theorem wR:ax (env w) (bl [(fr,bQ w.params k S itv kw)] (.ret (.ref S))) (tV (HK (bJ w.params fr) "self")):=tk _ (λ_ a=>.seg 1 λO=>a () trivial [0] [] [])
theorem wJ:ax (env w) (bl [(fr,bQ w.params k S (.ref o) kw)] (.ret (.bool true))) (e6 (iy (u0 w.params) (bJ w.params fr))):=tk _ (λ_ a=>.seg 1 λO=>a () trivial [0] [] [])
theorem wH (m:List (Nat×Nat×Int×Nat)) (e:Nat):ax (env w) (bl [(fr,bQ w.params k S (.ref o) kw),(o,dO w.params (.type "dict") none iv m e)] (.ret (.bool true))) (e6 (iy (u1 w.params) (bJ w.params fr))):=tk _ (λ_ a=>.seg 0x1001001001000000001000000000000000000000000000002001001001000001000000 λO=>.seg 0x1001001001000000001000001001000000000000000000000000000000000001000000001000000000000000000000000000000000000000000000000000001001003001003001001003001003001003001001001003001001001000000001 λb=>.seg 0x1001001000000001000000000001001 λd=>a () trivial [2,2] [] [])
theorem wI (a:Nat) (m:List (Nat×Nat×Int×Nat)) (e b:Nat):ax (env w) (bl [(fr,bQ w.params k S (.ref o) kw),(o,cO w.params a m e),(a,oD [] b)] (.ret (.bool true))) (e6 (iy (u1 w.params) (bJ w.params fr))):=tk _ (λ_ d=>.seg 0x1001001001000000001000000000000000000000000000002001001001000001000000 λO=>.seg 0x1001001001000000001000001001000000000000000000000000000000000001000000001000000000000000000000000000000000000000000000000000001001003001000003001001000000000003001000003001000000000000000000003001001001003001001001000000001 λf=>.seg 0x1001001000000001000000000001001 λg=>d () trivial [2,2,2] [] [])
theorem wG (d e:Nat):ax (env w) (bl [(fr,bQ w.params k S (.ref o) kw),(S,cO w.params d [] e)] (.ret (.bool false))) (e6 (iy (u2 w.params) (bJ w.params fr))):=tk _ (λ_ a=>.seg 0x2000000000002001 λO=>.seg 0x2001000000000002001 λb=>.use _ (vf w S (FF d) e ([]) 0 rfl) [1] [] λx h=>.seg 0 λf=>a () trivial [1,0] [] [])
theorem wP (d a s:Nat) (m:List (Nat×Nat×Int×Nat)) (e:Nat) (h:m.length<=8) (b:(ak m).Nodup):ax (env w) (iI w.params [(fr,bQ w.params k (S+1228) (.ref o) kw),(o,dO w.params (.type "dict") none iv m e)] (S+1228) d m a s) (tF (jI (u3 w.params) (bJ w.params fr) (.ref s))):=tk _ (λ_ f=>.seg 0x2002000002001001001004000001001001000000002002002001002001002002 λO=>.use _ (wB w (S+1228) d a o m e h b) [1,3] [] λx i=>.seg 0 λg=>f (x) trivial [0,2,2,0] [] [])
theorem wQ (d b s a f:Nat) (m:List (Nat×Nat×Int×Nat)) (e:Nat) (h:m.length<=8) (g:(ak m).Nodup):ax (env w) (iI w.params [(fr,bQ w.params k (S+1228) (.ref o) kw),(o,cO w.params a m e),(a,oD [] f)] (S+1228) d m b s) (tF (jI (u3 w.params) (bJ w.params fr) (.ref s))):=tk _ (λ_ i=>.seg 0x2002000002001001001004000001001001000000002002002001002001002002 λO=>.use _ (wC w (S+1228) d b o a f m e h g) [1,3,3] [] λx l=>.seg 0 λj=>i (x) trivial [0,3,3,0,0] [] [])
theorem wK (a:Nat):ax (env w) (bl [(fr,bQ w.params k S (.ref o) kw),(kw,oD [] a)] .next) (tF (Hd ((fJ w.params).drop 1) (bJ w.params fr))):=tk _ (λ_ b=>.seg 33562625 λO=>.seg 137455738881 λd=>.use _ (gx w kw none a ([]) 0 rfl) [1] [] λx h=>.seg 0 λe=>b () trivial [1,0] [] [])
end
theorem wD (P:E8):fJ P=ji (u0 P)::(fJ P).drop 1:=by kernel_rfl
theorem w2 (P:E8):aY (u0 P)=[ji (u1 P)]:=by kernel_rfl
theorem w0 (P:E8):aY (u1 P)=[ji (u2 P)]:=by kernel_rfl
theorem wX (P:E8):cw (u2 P)=[u3 P]:=by kernel_rfl
theorem wW (P:E8):u3 P=jJ (u3 P):=by kernel_rfl
theorem wV (P:E8):(mE (gy (e7 (u3 P)))==("__class__":Str))=false:=by kernel_rfl
theorem pe (st:Stmt) (e:Env) {M:Model} {a:Ctx} {Q:Flow->Pos->Fe->Prop} {E:Fb->Pos->Fe->Prop} {p:Pos} {s:Fe} (h:wp M a (exec st e) (λf p s=>f=.next/\Q .next p s) E p s):wp M a (Hd [st] e) Q E p s:=by
 rw[Ir,E7]
 refine Fu _ _ _ (λf p s h=>?_) (λ_ _ _ h=>h) _ _ h
 obtain⟨rfl,h⟩:=h
 exact h
theorem ph (st:Stmt) (e:Env) {w:E9} {a:Ctx} {Q:Flow->Pos->Fe->Prop} {E:Fb->Pos->Fe->Prop} {p:Pos} {s:Fe} (h:∀p,wp (FT pq w) a (iy st e) (λb p s=>wp (FT pq w) a (if b=true then Hd (aY st) e else Hd (cw st) e) Q E p s) E p s):wp (FT pq w) a (exec (ji st) e) Q E p s:=by
 unfold ji
 rw[arm_exec_If,E7]
 refine aL (GB λp=>?_)
 rw[E7]
 exact h p
noncomputable def fb (P:E8) (f:Nat) (k:Nat×Nat×Nat) (S d g o a b:Nat) (m:List (Nat×Nat×Int×Nat)) (X:ao):af:={d:=40,α:=Nat,c:=.func (fJ P) (bJ P f),need:=(S,cO P d [] g)::(f,bQ P k S (.ref o) a)::(a,oD [] b)::X,r:=λ_=>.ok (.ret .none),put:=λe=>cO P d m e::bQ P k S (.ref o) a::oD [] b::X.map (·.2)}
theorem kY:∀X:ao,(X.map (·.1)).zip (X.map (·.2))=X
 | []=>rfl
 | x::X=>by simp[kY X]
theorem Go.eq {kt:Nat->Option Obj} {d s:Fe} {own:List Addr} {a b:ao} (G:Go kt d own s a) (h:a=b):Go kt d own s b:=h▸G
theorem qg (w:E9) (i:Nat) (k:Nat×Nat×Nat) (S d g o l n:Nat) (m:List (Nat×Nat×Int×Nat)) (X:ao)
 (T:ax (env w) (bl ((i,bQ w.params k S (.ref o) l)::X) (.ret (.bool true))) (e6 (iy (u1 w.params) (bJ w.params i))))
 (O:∀a j,S=a+1228->ax (env w) (iI w.params ((i,bQ w.params k (a+1228) (.ref o) l)::X) (a+1228) d m g j) (tF (jI (u3 w.params) (bJ w.params i) (.ref j)))):ab (env w) (fb w.params i k S d g o l n m X):=by
 intro q t u hE v p s io P Q
 have u:q.handled=none:=u.resolve_left (λz=>nomatch z)
 have H:bt (env w) 40 q:=⟨u,v⟩
 have L:bt (env w) 20 q:=⟨u,⟨by have:=v.cnt;have:cF q.below+4*40<=640:=v.cnt;omega,by have:HT q.below+10*40<=2000:=v.units;omega⟩⟩
 let f0:dR:=(i,bQ w.params k S (.ref o) l)
 let h:dR:=(l,oD [] n)
 have G:Go (env w).kt s (keys (fb w.params i k S d g o l n m X).all) s ((S,cO w.params d [] g)::f0::h::X):=by
  have:=Go.start P
  have e:(fb w.params i k S d g o l n m X).all=(S,cO w.params d [] g)::f0::h::X:=by
   show((S,cO w.params d [] g)::f0::h::X)++[]=_
   rw[FL]
  rw[e]at this⊢
  exact this
 have Iv:1228<=S:=P.ge (S,cO w.params d [] g) E2
 have t:q.code=.func (fJ w.params) (bJ w.params i):=t
 rw[F3]
 show wp _ _ (FM table q.code) _ _ p s
 rw[t]
 show wp _ _ (do point;match<-(Hd (fJ w.params) (bJ w.params i)).onRaise (leaving (bJ w.params i))with|.ret gt=>ret gt | _=>ret .none) _ _ p s
 rw[E7]
 refine aL (wpAny_point λp=>?_)
 rw[E7,Gu,show Hd (fJ w.params) (bJ w.params i)=Hd (ji (u0 w.params)::(fJ w.params).drop 1) (bJ w.params i)from congrArg (λb=>Hd b (bJ w.params i)) (wD w.params),Ir,E7]
 have F:∀C:ao,(bl C (.ret (.bool true))).all=C:=λC=>FL C
 have Y:∀(C:ao) (f:Flow) (x:Unit),(bl C f).res x=C:=λC f x=>by
  show(C.map (·.1)).zip (C.map (·.2))++([]++[])=C
  rw[kY];simp
 refine ph _ _ λp=>?_
 refine fP (wJ w i k S l o) H (by show 10<=40;omega) rfl (r:=(S,cO w.params d [] g)::h::X) (Go.perm G (.swap ..)) (b0:=true) (λ_=>rfl) λ_ Z p _ y=>?_
 have y:Go (env w).kt s (keys (fb w.params i k S d g o l n m X).all) Z (f0::(S,cO w.params d [] g)::h::X):=y
 rw[if_pos rfl,w2]
 refine pe _ _ (ph _ _ λp=>?_)
 have E:(f0::(S,cO w.params d [] g)::h::X).Perm ((bl (f0::X) (.ret (.bool true))).all++[(S,cO w.params d [] g),h]):=by
  rw[F]
  exact .cons _ ((FG (l₁:=[(S,cO w.params d [] g),h]) (l₂:=X)))
 refine fP T H (by show 10<=40;omega) rfl (r:=[(S,cO w.params d [] g),h]) (Go.perm y E) (b0:=true) (λ_=>rfl) λx s2 p _ r=>?_
 have r:=Go.eq r (congrArg (· ++[(S,cO w.params d [] g),h]) (Y (f0::X) (.ret (.bool true)) x))
 rw[F]at E
 have r:=Go.perm r E.symm
 rw[if_pos rfl,w0]
 refine pe _ _ (ph _ _ λp=>?_)
 refine fP (wG w i k S l o d g) H (by show 10<=40;omega) rfl (r:=h::X) r (b0:=false) (λ_=>rfl) λ_ s3 p _ A=>?_
 have A:Go (env w).kt s (keys (fb w.params i k S d g o l n m X).all) s3 (f0::(S,cO w.params d [] g)::h::X):=A
 rw[if_neg Fi,wX]
 refine pe _ _ ?_
 refine qN (wx w.params) t (wW _) (wV _) L (wT w i) (wS w i) (wR w i k S (.ref o) l) (uw w) (uv w S d [] g) (rS:=f0::h::X) (rf:=(S,cO w.params d [] g)::h::X) (.swap ..) (.refl _) A λj s4 p J=>?_
 obtain⟨a,R⟩:∃a,S=a+1228:=⟨S-1228,by omega⟩
 subst R
 have U:((j,bN (a+1228))::f0::((a+1228),cO w.params d [] g)::h::X).Perm ((iI w.params (f0::X) (a+1228) d m g j).all++[h]):=by
  have:=pf (A:=[[(j,bN (a+1228))],[f0],[((a+1228),cO w.params d [] g)],[h],X]) (B:=[[((a+1228),cO w.params d [] g)],[(j,bN (a+1228))],[f0],X,[h]]) [2,0,0,1,0] ⟨rfl,rfl,rfl,rfl,rfl,rfl⟩
  have e:(iI w.params (f0::X) (a+1228) d m g j).all=((a+1228),cO w.params d [] g)::(j,bN (a+1228))::f0::X:=FL _
  rw[e]
  simpa using this
 refine iR (O a j rfl) H (by show 35<=40;omega) rfl (r:=[h]) (Go.perm J U) (f0:=.next) (λ_=>rfl) λe s5 p _ B=>⟨rfl,rfl,rfl, ?_⟩
 have N:(iI w.params (f0::X) (a+1228) d m g j).res e=((a+1228),cO w.params d m e)::(j,bN (a+1228))::f0::X:=by
  show((a+1228),cO w.params d m e)::(j,bN (a+1228))::f0::((X.map (·.1)).zip (X.map (·.2))++([]++[]))=_
  rw[kY];simp
 have B:=Go.eq B (congrArg (· ++[h]) N)
 have V:((((a+1228),cO w.params d m e)::(j,bN (a+1228))::f0::X)++[h]).Perm ([f0,h]++(((a+1228),cO w.params d m e)::X++[(j,bN (a+1228))])):=by
  have:=pf (A:=[[((a+1228),cO w.params d m e)],[(j,bN (a+1228))],[f0],X,[h]]) (B:=[[f0],[h],[((a+1228),cO w.params d m e)],X,[(j,bN (a+1228))]]) [2,3,0,1,0] ⟨rfl,rfl,rfl,rfl,rfl,rfl⟩
  simpa using this
 refine iR (wK w i k (a+1228) l o n) H (by show 10<=40;omega) rfl (r:=((a+1228),cO w.params d m e)::X++[(j,bN (a+1228))]) (Go.perm B V) (f0:=.next) (λ_=>rfl) λ_ I p _ D=>?_
 have D:Go (env w).kt s (keys (fb w.params i k (a+1228) d g o l n m X).all) I ([f0,h]++(((a+1228),cO w.params d m e)::X++[(j,bN (a+1228))])):=D
 have M:(fb w.params i k (a+1228) d g o l n m X).res e=((a+1228),cO w.params d m e)::f0::h::X:=by
  show((a+1228),cO w.params d m e)::f0::h::((X.map (·.1)).zip (X.map (·.2))++([]++[]))=_
  rw[kY];simp
 have W:([f0,h]++(((a+1228),cO w.params d m e)::X++[(j,bN (a+1228))])).Perm ((fb w.params i k (a+1228) d g o l n m X).res e++[(j,bN (a+1228))]):=by
  rw[M]
  have:=pf (A:=[[f0],[h],[((a+1228),cO w.params d m e)],X,[(j,bN (a+1228))]]) (B:=[[((a+1228),cO w.params d m e)],[f0],[h],X,[(j,bN (a+1228))]]) [2,0,0,0,0] ⟨rfl,rfl,rfl,rfl,rfl,rfl⟩
  simpa using this
 exact Q e I trivial (Go.perm D W).sub.after
theorem wE (w:E9) (f:Nat) (k:Nat×Nat×Nat) (S d g o a h:Nat) (m:List (Nat×Nat×Int×Nat)) (b:Nat) (j:m.length<=8) (l:(ak m).Nodup):ab (env w) (fb w.params f k S d g o a h m [(o,dO w.params (.type "dict") none iv m b)]):=
 qg w f k S d g o a h m _ (wH w f k S a o m b) λi s e=>wP w f k i a o d g s m b j l
theorem wF (w:E9) (f:Nat) (k:Nat×Nat×Nat) (S d h o b i a j:Nat) (m:List (Nat×Nat×Int×Nat)) (g:Nat) (n:m.length<=8) (p:(ak m).Nodup):ab (env w) (fb w.params f k S d h o a j m [(o,cO w.params b m g),(b,oD [] i)]):=
 qg w f k S d h o a j m _ (wI w f k S a o b m g i) λl s e=>wQ w f k l a o d h s b i m g n p
noncomputable def rz (P:E8) (S d a o:Nat) (m:List (Nat×Nat×Int×Nat)) (X:ao):af:={d:=45,α:=Nat,c:=.call (.ref 936) ⟨[.ref S,.ref o],[]⟩,need:=(S,cO P d [] a)::X,r:=λ_=>.ok (.ret .none),put:=λe=>cO P d m e::X.map (·.2)}
theorem ql (w:E9) (S d a o:Nat) (m:List (Nat×Nat×Int×Nat)) (e:Nat) (h:m.length<=8) (b:(ak m).Nodup):ab (env w) (rz w.params S d a o m [(o,dO w.params (.type "dict") none iv m e)]):=ct (λ_ f=>.seg 0x1001001001001001000000000001 λO=>.use _ (wE w (O 1) (O 2,O 3,O 4) S d a o (O 0) 0 m e h b) [2,0,0,0] [] λx g=>f (x) trivial [0,2] [] [])
theorem w1 (w:E9) (S d b o a f:Nat) (m:List (Nat×Nat×Int×Nat)) (e:Nat) (h:m.length<=8) (g:(ak m).Nodup):ab (env w) (rz w.params S d b o m [(o,cO w.params a m e),(a,oD [] f)]):=ct (λ_ i=>.seg 0x1001001001001001000000000001 λO=>.use _ (wF w (O 1) (O 2,O 3,O 4) S d b o a f (O 0) 0 m e h g) [2,0,0,0,0] [] λx j=>i (x) trivial [0,2,2] [] [])
theorem CJ (w:E9) (f:Nat) (k:Nat×Nat×Nat) (S d:Nat) (a b de:Nat) (e:Nat):ax (env w) (bl [(f,bQ w.params k S .none (a+1228)),(a+1228,oD [] b),(S,cO w.params d [] e),(d,oD [] de)] .next) (tF (Hd ((ci w.params).drop 1) (cD w.params f))):=tk _ (λ_ g=>.seg 0x2002001001001001001001001001001000000000001002001000002001004004004001004004003002001000001004000003003000000000000000000003001000003001000000000000000000003001 λO=>.seg 137455738881 λh=>.use _ (gx w (O 3) none 0 ([]) 0 rfl) [1] [] λx j=>.seg 0 λi=>g () trivial [4,4,4,4] [] [])
noncomputable def nK (P:E8) (i:Nat) (k:Nat×Nat×Nat) (S d a f de g h:Nat) (m:List (Nat×Nat×Int×Nat)) (b:Nat):af:={d:=60,α:=Nat,need:=[(S,cO P d [] g),(i,bQ P k S (.ref h) (a+1228)),(a+1228,oD [] f),(d,oD [] de),(h,dO P (.type "dict") none iv m b)],put:=λe=>[cO P d m e,bQ P k S (.ref h) (a+1228),oD [] f,oD [] de,dO P (.type "dict") none iv m b]}
theorem CI (w:E9) (f:Nat) (k:Nat×Nat×Nat) (S d j i de a h:Nat) (m:List (Nat×Nat×Int×Nat)) (e:Nat) (b:m.length<=8) (g:(ak m).Nodup):ax (env w) (nK w.params f k S d j i de a h m e) (tF (Hd ((ci w.params).drop 1) (cD w.params f))):=tk _ (λ_ l=>.seg 0x2001000002001005005005001005005004003001000001004000001001000000000000000000001001000001001000000000000000000001002 λO=>.use _ (ql w S d a h m e b g) [2,5] [] λx o=>.seg 0 λn=>l (x) trivial [0,3,3,3,0] [] [])
theorem rh {e:bu} {T:Nat->af} (h:∀a,ab e (T (a+1228))) (k:∀a,∃o,(a,o)∈(T a).all) (a:Nat):ab e (T a):=by
 intro m g i d j p s F P f
 obtain⟨o,l⟩:=k a
 have:1228<=a:=P.ge (a,o) l
 obtain⟨b,rfl⟩:∃b,a=b+1228:=⟨a-1228,by omega⟩
 exact h b m g i d j p s F P f
theorem CE (w:E9) (f:Nat) (k:Nat×Nat×Nat) (S d a b de e:Nat):ab (env w) {bl [(f,bQ w.params k S .none (a+1228)),(a+1228,oD [] b),(S,cO w.params d [] e),(d,oD [] de)] .next with d:=20,c:=.func (ci w.params) (cD w.params f),r:=λ_=>.ok (.ret .none)}:=
 ut w f k S d (a+1228) e .none (rS:=[(f,bQ w.params k S .none (a+1228)),(a+1228,oD [] b),(d,oD [] de)]) (rf:=[(a+1228,oD [] b),(S,cO w.params d [] e),(d,oD [] de)]) (bl [(f,bQ w.params k S .none (a+1228)),(a+1228,oD [] b),(S,cO w.params d [] e),(d,oD [] de)] .next) (CJ w f k S d a b de e) (λ_=>rfl) 20 (by show 10<=20;omega) (FO _) rfl rfl
  (List.Perm.trans (List.Perm.cons _ (.swap ..)) (.swap ..)) (.refl _)
theorem CG (w:E9) (f:Nat) (k:Nat×Nat×Nat) (S d a g de b h:Nat) (m:List (Nat×Nat×Int×Nat)) (e:Nat) (i:m.length<=8) (j:(ak m).Nodup):ab (env w) {nK w.params f k S d a g de b h m e with d:=60,c:=.func (ci w.params) (cD w.params f),r:=λ_=>.ok (.ret .none)}:=
 ut w f k S d (a+1228) b (.ref h) (rS:=[(f,bQ w.params k S (.ref h) (a+1228)),(a+1228,oD [] g),(d,oD [] de),(h,dO w.params (.type "dict") none iv m e)]) (rf:=[(S,cO w.params d [] b),(a+1228,oD [] g),(d,oD [] de),(h,dO w.params (.type "dict") none iv m e)]) (nK w.params f k S d a g de b h m e) (CI w f k S d a g de b h m e i j) (λ_=>rfl) 60 (FO _) (by omega) rfl rfl (.refl _) (.swap ..)
theorem CD (w:E9) (f:Nat) (k:Nat×Nat×Nat) (S d b e de g:Nat):ab (env w) {bl [(f,bQ w.params k S .none b),(b,oD [] e),(S,cO w.params d [] g),(d,oD [] de)] .next with d:=20,c:=.func (ci w.params) (cD w.params f),r:=λ_=>.ok (.ret .none)}:=
 rh (T:=λb=>{bl [(f,bQ w.params k S .none b),(b,oD [] e),(S,cO w.params d [] g),(d,oD [] de)] .next with d:=20,c:=.func (ci w.params) (cD w.params f),r:=λ_=>.ok (.ret .none)}) (λb=>CE w f k S d b e de g) (λa=>⟨oD [] e,F5 _ (E4 _ E2)⟩) b
noncomputable def sm (P:E8) (f:Nat) (k:Nat×Nat×Nat) (S d a g de i h:Nat) (m:List (Nat×Nat×Int×Nat)) (b:Nat):af:={d:=60,α:=Nat,c:=.func (ci P) (cD P f),need:=[(S,cO P d [] i),(f,bQ P k S (.ref h) a),(a,oD [] g),(d,oD [] de),(h,dO P (.type "dict") none iv m b)],r:=λ_=>.ok (.ret .none),put:=λe=>[cO P d m e,bQ P k S (.ref h) a,oD [] g,oD [] de,dO P (.type "dict") none iv m b]}
theorem CF (w:E9) (i:Nat) (k:Nat×Nat×Nat) (S e b d de g h:Nat) (m:List (Nat×Nat×Int×Nat)) (f:Nat) (j:m.length<=8) (l:(ak m).Nodup):ab (env w) (sm w.params i k S e b d de g h m f):=
 rh (T:=λb=>sm w.params i k S e b d de g h m f) (λb=>CG w i k S e b d de g h m f j l) (λa=>⟨oD [] d,F5 _ (E4 _ (E4 _ E2))⟩) b
theorem jx (w:E9):ab (env w) (y7 w.params):=ct (λ_ a=>.seg 0x1001001001001001000000000001000000000000001000001000000000000001000000000000000000000001000000000001000001000000001 λO=>.use _ (CD w (O 3) (O 4,O 5,O 6) (O 1) (O 0) (O 2) 0 0 0) [0,0,0,0] [] λx h=>.seg 0 λb=>a (O 1,O 0,0) trivial [] [2,2] [])
noncomputable def y6 (P:E8) (h:Nat) (m:List (Nat×Nat×Int×Nat)) (e:Nat):af:={d:=75,α:=Nat×Nat×Nat×Nat,c:=.call (.ref 1093) ⟨[.ref h],[]⟩,need:=[(h,dO P (.type "dict") none iv m e)],r:=λx=>.ok (.ret (.ref x.1)),put:=λ_=>[dO P (.type "dict") none iv m e],new:=λx=>[(x.1,cO P x.2.1 m x.2.2.1),(x.2.1,oD [] x.2.2.2)]}
theorem px (w:E9) (h:Nat) (m:List (Nat×Nat×Int×Nat)) (e:Nat) (a:m.length<=8) (b:(ak m).Nodup):ab (env w) (y6 w.params h m e):=ct (λ_ d=>.seg 0x1001001001001001000000000001000000000000001000001000000000000001000000000000000000000001000000000001000001000000001 λO=>.use _ (CF w (O 3) (O 4,O 5,O 6) (O 1) (O 0) (O 2) 0 0 0 h m e a b) [2,0,0,0,0] [] λx g=>.seg 0 λf=>d (O 1,O 0,x,0) trivial [4] [0,2] [])
noncomputable def sA (P:E8) (d a:Nat) (m:List (Nat×Nat×Int×Nat)) (e:Nat) (k:Nat):af:={d:=6,α:=Nat,c:=.builtin "len" ⟨[.ref d],[]⟩,need:=[(d,cO P a m e)],r:=λu=>.ok (.ret (.int k u)),put:=λ_=>[cO P a m e]}
theorem mA (w:E9) (d a:Nat) (m:List (Nat×Nat×Int×Nat)) (e k:Nat) (h:m.length=k) (i:m.length<=8):ab (env w) (sA w.params d a m e k):=by
 let p:∀{w:E9} {n:Nat} {d a:Nat} {m:List (Nat×Nat×Int×Nat)} {e:Nat} (h:m.length=n),PP (env w) (sA w.params d a m e n):= @λw n d a m e h _ b=>
  .seg 0x1001000000000001001 λf=>
  .use _ (vf w d (FF a) e m n h) [0] [] λx g=>
  .seg 0 λO=>
  b (O 0) trivial [0] [] []
 obtain rfl | rfl | rfl | rfl | rfl | rfl | rfl | rfl | rfl:k=0\/k=1\/k=2\/k=3\/k=4\/k=5\/k=6\/k=7\/k=8:=by omega
 .exact ct (p h)
 .exact ct (p h)
 .exact ct (p h)
 .exact ct (p h)
 .exact ct (p h)
 .exact ct (p h)
 .exact ct (p h)
 .exact ct (p h)
 .exact ct (p h)
theorem xg {e:bu} {T:af} (t:Sem Gq) (a:bV e T) (h:∀b,(∀B c p,dP ⟨e.D,⟨pq,cM e.w.params b⟩,e.kt,B,none,T.d⟩ a (.run c p .base t T.need) T.needB)=(∀B c p,eg ⟨e.D,⟨pq,cM e.w.params b⟩,e.kt,B,none,T.d⟩ a (.run c p .base t T.need) T.needB)):ax e T t:=by
 have q:=h (e.w.params.followText "special-get-raises")
 rw[nj]at q
 exact qx t a q
theorem aG {e:bu} {T:af} (t:Sem Gq) (a:PP e T) (h:pz t a (cM e.w.params false)=mW t a (cM e.w.params false):=by kernel_rfl) (d:pz t a (cM e.w.params true)=mW t a (cM e.w.params true):=by kernel_rfl):ax e T t:=xg t (a T .fin) (λb=>match b with| false=>h | true=>d)
noncomputable def tN (i:Nat):Sem Flow:=pyNext (.ref i)>>=λr=>match r with| some v=>pure (.ret v) | none=>pure .brk
noncomputable def yW (P:E8) (g d i e:Nat) (ok o:Fb) (b:Fb) (f:Option Addr) (m:List (Nat×Nat×Int×Nat)) (x:Nat×Nat×Int×Nat):af:={d:=5,α:=Nat,need:=[(g,aT .none d i m.length e ok o),(d,dO P b f iv m e)],r:=λa=>.ok (.ret (.ref a)),put:=λa=>[aT (.int a 0) d (i+1) m.length e (.str ⟨⟨[x.1]⟩⟩ x.2.1) (iv x.2.2),dO P b f iv m e],new:=λa=>[(a,aR [.str ⟨⟨[x.1]⟩⟩ x.2.1,iv x.2.2] 0)]}
theorem Cy (w:E9) (a d i f:Nat) (ok o:Fb) (b:Fb) (e:Option Addr) (m:List (Nat×Nat×Int×Nat)) (x:Nat×Nat×Int×Nat) (h:m[i]? =some x):ax (env w) (yW w.params a d i f ok o b e m x) (tF (tN a)):=tk _ (λ_ j=>.seg 16781313 λO=>.use _ (Cv w a d i f ok o b e m x h) [0,0] [] λg l=>.seg 0 λk=>j (g) trivial [0,0] [0] [])
noncomputable def uo (e:Expr):Bool:=match e with|.Tuple .. =>true | _=>false
theorem EK {w:E9} {A:Around} {E:Fb->Fe->Prop} {s:Fe} {e a d i n f:Nat} {ok o:Fb} {t:Expr} {Q:Unit->Fe->Prop} (g:uo t=true) (b:s.heap.get? e=some (aT (.int a 0) d i n f ok o))
 (h:Q () {s with heap:=s.heap.update e (F9 λvs=>vs.setIfInBounds 0 .none)}):Fr (FT pq w) A (Gr t (.ref e) (.ref a)) Q E s:=by
 cases t<;>first| exact absurd g Fi | skip
 unfold Gr
 refine E3 (wpAny_load b ?_)
 show Fr _ _ (if(["enumerate","zip","dict_itemiterator","dict_reverseitemiterator","odict_iterator","itertools.zip_longest","itertools.pairwise"].contains "dict_itemiterator"&&(some (Gh a 0)==some (FV a)))=true then _ else _) _ _ s
 rw[if_pos (by
  rw[Bool.and_eq_true]
  exact⟨by decide,by simp[FV]⟩)]
 refine E3 (GZ ?_)
 unfold updateField
 refine E3 (wpAny_load b ?_)
 show Fr _ _ (if 0<(#[Gh a 0,.bool false,.ref d,.int i 0,.int n 0,.int f 0,ok,o]:Array Fb).size then _ else _) _ _ s
 rw[if_pos (by simp)]
 exact wpAny_update b h
theorem jg {w:E9} {T:af} {B:Nat->af} {N:∀a,(B a).α->af} {junk:∀a,(B a).α->ao} {target:Expr} {body els:List Stmt} {ev:Env} {b d i g:Nat} {ok ov:Fb} {l:Fb} {n:Option Addr} {m:List (Nat×Nat×Int×Nat)} {x:Nat×Nat×Int×Nat} {r0:ao}
 (h:m[i]? =some x) (L:T.c=.forLoop target (.ref b) body els ev) (ht:uo target=true) (hH:T.anyH=false) (hO:T.outer=none) (hd:5<=T.d)
 (O:T.all.Perm ([(b,aT .none d i m.length g ok ov),(d,dO w.params l n iv m g)]++r0))
 (hB:∀a,ax (env w) (B a) (tF (assign target ev (.ref a)>>=λ_=>Hd body ev))) (rB:∀a x,(B a).r x=.ok .next) (X:∀a,(B a).d<=T.d) (oB:∀a,(B a).outer=none)
 (pB:∀a,([(b,aT .none d (i+1) m.length g (.str ⟨⟨[x.1]⟩⟩ x.2.1) (iv x.2.2)),(d,dO w.params l n iv m g),(a,aR [.str ⟨⟨[x.1]⟩⟩ x.2.1,iv x.2.2] 0)]++r0).Perm (B a).all)
 (qB:∀a z,(B a).post z->((B a).res z).Perm ((N a z).all++junk a z))
 (hN:∀a z,(B a).post z->ab (env w) (N a z)) (W:∀a z,(N a z).c=T.c) (J:∀a z,(N a z).d<=T.d) (oN:∀a z,(N a z).outer=none)
 (rN:∀a z y,(B a).post z->(N a z).post y->∃v,T.post v/\T.r v=(N a z).r y/\((N a z).res y).Perm (T.res v)):ab (env w) T:=by
 intro e gt o hE r p s F P hF
 have o:e.handled=none:=o.resolve_left (by rw[hH];exact Fi)
 have H:bt (env w) T.d e:=⟨o,r⟩
 have io:e.code=.forLoop target (.ref b) body els ev:=gt.trans L
 have G:Go (env w).kt s T.own s T.all:=Go.start P
 rw[F3]
 show wp _ _ (FM table e.code) _ _ p s
 rw[io]
 show wp _ _ ((forTurn target (.ref b) body els ev).onRaise (λx=>do HU x ev;Hf x)) _ _ p s
 rw[Gu]
 unfold forTurn
 rw[E7]
 refine aL (GB λp=>?_)
 rw[E7,Gu]
 have q:=(Cy w b d i g ok ov l n m x h).flow e o (λes z=>nomatch z) ⟨by have:=r.cnt;show cF e.below+4*5<=640;omega,by have:=r.units;show HT e.below+10*5<=2000;omega⟩ p s (Go.perm G O).sub.pre (Q:=λf p j=>∃a,f=.ret (.ref a)/\Go (env w).kt s T.own j ([(b,aT (.int a 0) d (i+1) m.length g (.str ⟨⟨[x.1]⟩⟩ x.2.1) (iv x.2.2)),(d,dO w.params l n iv m g),(a,aR [.str ⟨⟨[x.1]⟩⟩ x.2.1,iv x.2.2] 0)]++r0)) (E:=λ_ _ _=>False)
  (λa j p f hx A I=>by cases I;exact⟨a,rfl,(Go.perm G O).stepR A⟩) (λa j p v hx A I=>by cases I)
 unfold tN at q
 rw[E7]at q
 refine Fu _ _ _ (λIv p Q C=>?_) (λ_ _ _ h=>h.elim) _ _ q
 cases Iv with
 | none=>obtain⟨a,E,_⟩:∃a,Flow.brk=.ret (.ref a)/\_:=C;cases E
 | some v=>
  obtain⟨a,E,D⟩:∃a,Flow.ret v=.ret (.ref a)/\Go (env w).kt s T.own Q ([(b,aT (.int a 0) d (i+1) m.length g (.str ⟨⟨[x.1]⟩⟩ x.2.1) (iv x.2.2)),(d,dO w.params l n iv m g),(a,aR [.str ⟨⟨[x.1]⟩⟩ x.2.1,iv x.2.2] 0)]++r0):=C
  cases E
  show wp _ _ (Gr target (.ref b) (.ref a)>>=λ_=>assign target ev (.ref a)>>=λ_=>Hd body ev>>=_) _ _ p Q
  rw[E7]
  have ho:=D.inv.has (b,_) E2
  refine aL (EK ht ho λp=>?_)
  have S:=(ap.start D.pre).set (F9 λvs=>vs.setIfInBounds 0 .none) (by exact E2) rfl
  have V:=Go.perm (D.step S) (pB a)
  have k:=iR (hB a) H (X a) (oB a) (r:=[]) (Go.eq V (FL _).symm) (rB a) (p:=p) (Q:=λf p j=>f=.next/\∃z,(B a).post z/\Go (env w).kt s T.own j ((N a z).all++junk a z)) (E:=λ_ _ _=>False)
   λz j p t u=>⟨rfl,z,t,Go.perm (Go.eq u (FL _)) (qB a z t)⟩
  rw[E7]at k
  rw[E7]
  refine Fu _ _ _ (λ_ p s2 Y=>?_) (λ_ _ _ h=>h.elim) _ _ k
  rw[E7]
  refine Fu _ _ _ (λf p R Z=>?_) (λ_ _ _ h=>h.elim) _ _ Y
  obtain⟨rfl,z,t,u⟩:=Z
  show finPost _ _ _ (.again (.forLoop target (.ref b) body els ev)) p R
  have hn:=hN a z t (e.goto (.forLoop target (.ref b) body els ev)) (L.symm.trans (W a z).symm) (.inr o) (λes M=>by rw[oN]at M;cases M) ⟨by have:=r.cnt;have:=J a z;show cF e.below+_<=_;omega,by have:=r.units;have:=J a z;show HT e.below+_<=_;omega⟩ p R F u.sub.pre (λy s4 hy U=>?_)
  .exact ⟨rfl,hn⟩
  .obtain ⟨v,hv,C,hp⟩:=rN a z y t hy
   rw[<-C]
   exact hF v s4 hv ((u.stepR U).perm (hp.append_right _)).sub.after
noncomputable abbrev MI:=List (Nat×Nat×Int×Nat)
noncomputable def ik:MI->MI->MI->Prop
 | [],a,b=>b=a
 | x::m,a,b=>∃u,ik m (aw a x.1 x.2.1 (x.2.2.1+aa a x.1,u)) b
noncomputable def fT (id:String) (S:Nat):Obj:={cls:=.type "builtin_function_or_method",data:=.fields #[.builtin id,.ref S]}
noncomputable def wA (P:E8) (i f:Nat):Code:=bR (aA (aY (u2 P)) 1) (.ref i) (bJ P f)
noncomputable def eQ (P:E8) (k:Nat×Nat×Nat) (S:Nat) (i:Fb) (b a mt:Nat) (m:List E6) (f:Nat):Obj:=bD ([es P [115,101,108,102] k.1 (.ref S),es P [105,116,101,114,97,98,108,101] k.2.1 i,es P [107,119,100,115] k.2.2 (.ref b),es P [115,101,108,102,95,103,101,116] a (.ref mt)]++m) f
noncomputable def gi (P:E8) (k:Nat×Nat) (c:Nat×Nat) (v:Int×Nat):List E6:=[es P [101,108,101,109] k.1 (cv c),es P [99,111,117,110,116] k.2 (iv v)]
noncomputable def jR (P:E8) (f g i:Nat) (ok r:Fb) (k:Nat×Nat×Nat) (S d o mt j h:Nat) (b:Fb) (l:Option Nat) (e:Nat) (q:List E6) (p:Nat) (m s a:MI) (n:Nat):af:={d:=15,α:=(MI×Nat)×(Nat×Nat)×(Nat×Nat)×(Int×Nat)×Nat,c:=wA P g f,need:=[(g,aT .none o i m.length e ok r),(f,eQ P k S (.ref o) j h mt q p),(S,cO P d a n),(o,dO P b l iv m e),(mt,fT "dict.get" S)],new:=λx=>[(S,cO P d x.1.1 x.1.2),(o,dO P b l iv m e),(f,eQ P k S (.ref o) j h mt (gi P x.2.1 x.2.2.1 x.2.2.2.1) x.2.2.2.2)],post:=λx=>ik s a x.1.1}
noncomputable def lh (P:E8):Expr:=match aA (aY (u2 P)) 1 with|.For t _ _ _ _=>t | _=>.Name ⟨⟨[]⟩⟩ default
noncomputable def li (P:E8):List Stmt:=aY (aA (aY (u2 P)) 1)
noncomputable def eC (P:E8) (d i:Nat) (o:Nat) (b:Fb) (f:Option Nat) (m:MI) (e a:Nat) (x:Nat×Nat×Int×Nat):ao:=[(d,aT .none o (i+1) m.length e (.str ⟨⟨[x.1]⟩⟩ x.2.1) (iv x.2.2)),(o,dO P b f iv m e),(a,aR [.str ⟨⟨[x.1]⟩⟩ x.2.1,iv x.2.2] 0)]
noncomputable def lB (P:E8) (q g i a:Nat) (k:Nat×Nat×Nat) (S e o mt j h:Nat) (d:Fb) (l:Option Nat) (f:Nat) (r:List E6) (p:Nat) (m b:MI) (n:Nat) (x:Nat×Nat×Int×Nat):af:={d:=12,α:=Nat×Nat×(Nat×Nat)×Nat,need:=eC P g i o d l m f a x++[(S,cO P e b n),(mt,fT "dict.get" S),(q,eQ P k S (.ref o) j h mt r p)],put:=λz=>(eC P g i o d l m f a x).map (·.2)++[cO P e (aw b x.1 x.2.1 (x.2.2.1+aa b x.1,z.1)) z.2.1,fT "dict.get" S,eQ P k S (.ref o) j h mt (gi P z.2.2.1 (x.1,x.2.1) x.2.2) z.2.2.2]}
theorem gR {a:Type} (c t:Nat) (v:a):∀m:List (Nat×Nat×a),(aw m c t v).length<=m.length+1
 | []=>FO _
 | (k,u,x)::m=>by
  unfold aw
  split
  .simp
  .have:=gR c t v m
   simp only[Fd];omega
section
variable (w:E9) (fr it:Nat) (k:Nat×Nat×Nat) (S dd o mt kw k4:Nat) (cls:Fb) (od:Option Nat) (eo:Nat) (m:MI)
theorem qh (i:Nat) (ok g:Fb) (d:List E6) (f:Nat) (x:Nat×Nat×Int×Nat) (r b:MI) (e:Nat) (h:m[i]? =some x)
 (l:∀a,ax (env w) (lB w.params fr it i a k S dd o mt kw k4 cls od eo d f m b e x) (tF (assign (lh w.params) (bJ w.params fr) (.ref a)>>=λ_=>Hd (li w.params) (bJ w.params fr))))
 (p:∀(q:Nat×Nat) (j:Nat×Nat) (v:Int×Nat) (f u e:Nat) (ok g:Fb),ab (env w) (jR w.params fr it (i+1) ok g k S dd o mt kw k4 cls od eo (gi w.params q j v) f m r (aw b x.1 x.2.1 (x.2.2.1+aa b x.1,u)) e)):
 ab (env w) (jR w.params fr it i ok g k S dd o mt kw k4 cls od eo d f m (x::r) b e):=by
 refine jg (B:=λa=>lB w.params fr it i a k S dd o mt kw k4 cls od eo d f m b e x)
  (N:=λa z=>jR w.params fr it (i+1) (.str ⟨⟨[x.1]⟩⟩ x.2.1) (iv x.2.2) k S dd o mt kw k4 cls od eo (gi w.params z.2.2.1 (x.1,x.2.1) x.2.2) z.2.2.2 m r (aw b x.1 x.2.1 (x.2.2.1+aa b x.1,z.1)) z.2.1)
  (junk:=λa z=>[(a,aR [.str ⟨⟨[x.1]⟩⟩ x.2.1,iv x.2.2] 0)]) (r0:=[(S,cO w.params dd b e),(mt,fT "dict.get" S),(fr,eQ w.params k S (.ref o) kw k4 mt d f)])
  h (ok:=ok) (ov:=g) (target:=lh w.params) (body:=li w.params) (els:=cw (aA (aY (u2 w.params)) 1)) (ev:=bJ w.params fr) (by kernel_rfl) (by kernel_rfl) rfl rfl (by show 5<=15;omega) ?_ l (λ_ _=>rfl) (λ_=>by show 12<=15;omega) (λ_=>rfl) (λ_=>.refl _) ?_ ?_ (λ_ _=>rfl) (λ_ _=>FO _) (λ_ _=>rfl) ?_
 .exact pf (A:=[[(it,aT .none o i m.length eo ok g)],[(fr,eQ w.params k S (.ref o) kw k4 mt d f)],[(S,cO w.params dd b e)],[(o,dO w.params cls od iv m eo)],[(mt,fT "dict.get" S)]])
   (B:=[[(it,aT .none o i m.length eo ok g)],[(o,dO w.params cls od iv m eo)],[(S,cO w.params dd b e)],[(mt,fT "dict.get" S)],[(fr,eQ w.params k S (.ref o) kw k4 mt d f)]]) [0,2,1,1,0] ⟨rfl,rfl,rfl,rfl,rfl,rfl⟩
 .intro a z _
  exact pf (A:=[[(it,aT .none o (i+1) m.length eo (.str ⟨⟨[x.1]⟩⟩ x.2.1) (iv x.2.2))],[(o,dO w.params cls od iv m eo)],[(a,aR [.str ⟨⟨[x.1]⟩⟩ x.2.1,iv x.2.2] 0)],[(S,cO w.params dd (aw b x.1 x.2.1 (x.2.2.1+aa b x.1,z.1)) z.2.1)],[(mt,fT "dict.get" S)],[(fr,eQ w.params k S (.ref o) kw k4 mt (gi w.params z.2.2.1 (x.1,x.2.1) x.2.2) z.2.2.2)]])
   (B:=[[(it,aT .none o (i+1) m.length eo (.str ⟨⟨[x.1]⟩⟩ x.2.1) (iv x.2.2))],[(fr,eQ w.params k S (.ref o) kw k4 mt (gi w.params z.2.2.1 (x.1,x.2.1) x.2.2) z.2.2.2)],[(S,cO w.params dd (aw b x.1 x.2.1 (x.2.2.1+aa b x.1,z.1)) z.2.1)],[(o,dO w.params cls od iv m eo)],[(mt,fT "dict.get" S)],[(a,aR [.str ⟨⟨[x.1]⟩⟩ x.2.1,iv x.2.2] 0)]]) [0,4,2,0,1,0] ⟨rfl,rfl,rfl,rfl,rfl,rfl,rfl⟩
 .intro a z _
  exact p z.2.2.1 (x.1,x.2.1) x.2.2 z.2.2.2 z.1 z.2.1 _ _
 .intro a z y _ n
  exact⟨y,⟨z.1,n⟩,rfl,.refl _⟩
theorem wL (i a:Nat) (d:Nat×Nat) (h:Nat×Nat) (v:Int×Nat) (f:Nat) (b:MI) (e:Nat) (x:Nat×Nat×Int×Nat) (j:b.length<=1000):ax (env w) (lB w.params fr it i a k S dd o mt kw k4 cls od eo (gi w.params d h v) f m b e x) (tF (assign (lh w.params) (bJ w.params fr) (.ref a)>>=λ_=>Hd (li w.params) (bJ w.params fr))):=aG _ (λ_ p=>.seg 0x7007000007008001008009009009009009009009001001001004001001001001001001001001004001001001001001001001001004001001001001001001001001003001003003003 λO=>.use _ (mu w S (Fs 1093) (FF dd) b e (x.1) (x.2.1) (O 5)) [6] [] λl t=>.seg 1 λq=>.use _ (b8 w (x.2.2.1) (aa b x.1) (x.2.2.2) l (x.2.2.1+aa b x.1) rfl) [] [] λg u=>.seg 0x1001000000000001000001009009 λr=>.use _ (dm w S (FF dd) e (x.1) (x.2.1) b (x.2.2.1+aa b x.1) g j) [0] [] λn y=>.seg 0 λs=>p ((g,n,(d.1,d.2),f)) trivial [4,4,4,0,3,3] [] [])
theorem wM (i a:Nat) (f:Nat) (b:MI) (e:Nat) (x:Nat×Nat×Int×Nat) (h:b.length<=1000):ax (env w) (lB w.params fr it i a k S dd o mt kw k4 cls od eo [] f m b e x) (tF (assign (lh w.params) (bJ w.params fr) (.ref a)>>=λ_=>Hd (li w.params) (bJ w.params fr))):=aG _ (λ_ l=>.seg 0x7007000007008001008009009009009009009009001001001004001001001001001001001001004001001001001001001001001004001001001001001001001001003001003003003 λO=>.use _ (mu w S (Fs 1093) (FF dd) b e (x.1) (x.2.1) (O 5)) [6] [] λg r=>.seg 1 λn=>.use _ (b8 w (x.2.2.1) (aa b x.1) (x.2.2.2) g (x.2.2.1+aa b x.1) rfl) [] [] λd s=>.seg 0x1001000000000001000001009009 λp=>.use _ (dm w S (FF dd) e (x.1) (x.2.1) b (x.2.2.1+aa b x.1) d h) [0] [] λj t=>.seg 0 λq=>l ((d,j,(O 3,O 4),f+1+1)) trivial [4,4,4,0,3,3] [] [])
theorem wz:∀(r:MI) (i:Nat) (ok h:Fb) (g:Nat×Nat) (d:Nat×Nat) (v:Int×Nat) (f:Nat) (b:MI) (e:Nat),m.drop i=r->b.length+r.length<=900->
 ab (env w) (jR w.params fr it i ok h k S dd o mt kw k4 cls od eo (gi w.params g d v) f m r b e):=by
 intro r
 induction r with
 | nil=>
  intro i ok h g d v f b e j n
  exact ct (λ_ s=>.seg 68736258049 λO=>.use _ (gl w it o i eo ok h cls od m (aV j)) [0,2] [] λy l=>.seg 4099 λt=>s (((b,e),(g.1,g.2),(d.1,d.2),(v.1,v.2),f)) rfl [] [5,1,3] [])
 | cons x r q=>
  intro i ok h g d v f b e j n
  obtain⟨p,l⟩:=aQ j
  simp only[Fd]at n
  refine qh w fr it k S dd o mt kw k4 cls od eo m i ok h _ f x r b e p (λa=>wL w fr it k S dd o mt kw k4 cls od eo m i a g d v f b e x (by omega)) λg d v f u e ok h=>q (i+1) ok h g d v f _ e l ?_
  have:=gR x.1 x.2.1 (x.2.2.1+aa b x.1,u) b
  omega
theorem qf (f:Nat) (b:MI) (d:Nat) (n:m≠[]) (g:b.length+m.length<=900):ab (env w) (jR w.params fr it 0 .none .none k S dd o mt kw k4 cls od eo [] f m m b d):=by
 cases h:m with
 | nil=>exact absurd h n
 | cons x r=>
  rw[<-h]
  obtain⟨j,l⟩:=aQ (l:=m) (i:=0) (x:=x) (r:=r) h
  have e:m=x::r:=h
  have t:b.length+(r.length+1)<=900:=by rw[e]at g;simpa using g
  have q:=qh w fr it k S dd o mt kw k4 cls od eo m 0 .none .none [] f x r b d j (λa=>wM w fr it k S dd o mt kw k4 cls od eo m 0 a f b d x (by omega)) λp i v f u d ok s=>wz w fr it k S dd o mt kw k4 cls od eo m r 1 ok s p i v f _ d l (by
   have:=gR x.1 x.2.1 (x.2.2.1+aa b x.1,u) b
   omega)
  rw[<-e]at q
  exact q
end
noncomputable def ry (P:E8) (S d de e o:Nat) (a m:MI) (X:ao):af:={d:=45,α:=MI×Nat,c:=.call (.ref 936) ⟨[.ref S,.ref o],[]⟩,need:=(S,cO P d a e)::(d,oD [] de)::X,r:=λ_=>.ok (.ret .none),put:=λz=>cO P d z.1 z.2::oD [] de::X.map (·.2),post:=λz=>ik m a z.1}
theorem wY (w:E9) (S d de b o:Nat) (a m:MI) (e n:Nat) (k:a.length=n+1) (i:a.length<=8) (C:a.length+m.length<=900):ab (env w) (ry w.params S d de b o a m [(o,dO w.params (.type "dict") none iv m e)]):=by
 by_cases j:m=[]
 .subst j
  exact av (λ_ h=>.seg 0x1001001001001001000000000001 λO=>.seg 0x1001001001000000001000000000000000000000000000005001001001000001000000001001 λr=>.seg 0x1001001001000000001000001001000000000000000000000000000000000001000000001000000000000000000000000000000000000000000000000000001001006001006001001006001006001006001001001006001001001000000001 λs=>.seg 0x5000000000005003001001001000000001000000000001001 λt=>.use _ (mA w S d a b (n+1) k i) [4] [] λD y=>.seg 0x8001008008008008005005005000001001001006000001001000000000001001000001001000000000000000000001004 λf=>.use _ (ui w o none e ([])) [7] [] λx A=>.seg 137455738882 λu=>.use _ (fS x o w (Fz "dict") none ([]) e) [1,0] [] λg B=>.seg 3 λp=>.seg 206175219713 λE=>.use _ (gl w g o 0 e FY FY (Fz "dict") none ([]) (by trivial)) [2,1] [] λN J=>.seg 0xb00b00a001003 λq=>.seg 755931066369 λG=>.use _ (gx w (O 0) none 0 ([]) 0 rfl) [10] [] λQ M=>.seg 0 λI=>h (a,b) rfl [7,10,2] [] [])
 .exact av (λ_ h=>.seg 0x1001001001001001000000000001 λO=>.seg 0x1001001001000000001000000000000000000000000000005001001001000001000000001001 λr=>.seg 0x1001001001000000001000001001000000000000000000000000000000000001000000001000000000000000000000000000000000000000000000000000001001006001006001001006001006001006001001001006001001001000000001 λs=>.seg 0x5000000000005003001001001000000001000000000001001 λt=>.use _ (mA w S d a b (n+1) k i) [4] [] λD y=>.seg 0x8001008008008008005005005000001001001006000001001000000000001001000001001000000000000000000001004 λf=>.use _ (ui w o none e m) [7] [] λx A=>.seg 137455738882 λu=>.use _ (fS x o w (Fz "dict") none m e) [1,0] [] λg B=>.seg 3 λp=>.use _ (qf w (O 1) g (O 2,O 3,O 4) S d o (f 1) (O 0) (f 2) (Fz "dict") none e m 4 a b j C) [2,6,3,1,1] [] λl v=>.seg 117469187 λF=>.seg 481053143041 λq=>.use _ (gx w (O 0) none 0 ([]) 0 rfl) [6] [] λP L=>.seg 0 λH=>h (l.1.1,l.1.2) v [1,6,1] [] [])
theorem wZ (w:E9) (S f de d o b E:Nat) (a m:MI) (e n:Nat) (l:a.length=n+1) (j:a.length<=8) (D:a.length+m.length<=900):ab (env w) (ry w.params S f de d o a m [(o,cO w.params b m e),(b,oD [] E)]):=by
 by_cases k:m=[]
 .subst k
  exact av (λ_ i=>.seg 0x1001001001001001000000000001 λO=>.seg 0x1001001001000000001000000000000000000000000000005001001001000001000000001001 λs=>.seg 0x1001001001000000001000001001000000000000000000000000000000000001000000001000000000000000000000000000000000000000000000000000001001006001000006001001000000000006001000006001000000000000000000006001001001006001001001000000001 λt=>.seg 0x5000000000005003000000001001001000000001000000000001001 λu=>.use _ (mA w S f a d (n+1) l j) [4] [] λF A=>.seg 0x8001009008000000000008000000000008000000000008005005005000001001001006000001001000000000001001000001001000000000000000000001004 λg=>.use _ (g6 w o (FF b) e ([])) [7] [] λx B=>.seg 137455738882 λv=>.use _ (fS x o w (Fs 1093) (FF b) ([]) e) [1,0] [] λh C=>.seg 3 λq=>.seg 206175219713 λG=>.use _ (gl w h o 0 e FY FY (Fs 1093) (FF b) ([]) (by trivial)) [2,1] [] λQ M=>.seg 0xb00b00a001003 λr=>.seg 755931066369 λI=>.use _ (gx w (O 0) none 0 ([]) 0 rfl) [10] [] λT P=>.seg 0 λL=>i (a,d) rfl [7,10,2,9] [] [])
 .exact av (λ_ i=>.seg 0x1001001001001001000000000001 λO=>.seg 0x1001001001000000001000000000000000000000000000005001001001000001000000001001 λs=>.seg 0x1001001001000000001000001001000000000000000000000000000000000001000000001000000000000000000000000000000000000000000000000000001001006001000006001001000000000006001000006001000000000000000000006001001001006001001001000000001 λt=>.seg 0x5000000000005003000000001001001000000001000000000001001 λu=>.use _ (mA w S f a d (n+1) l j) [4] [] λF A=>.seg 0x8001009008000000000008000000000008000000000008005005005000001001001006000001001000000000001001000001001000000000000000000001004 λg=>.use _ (g6 w o (FF b) e m) [7] [] λx B=>.seg 137455738882 λv=>.use _ (fS x o w (Fs 1093) (FF b) m e) [1,0] [] λh C=>.seg 3 λq=>.use _ (qf w (O 1) h (O 2,O 3,O 4) S f o (g 1) (O 0) (g 2) (Fs 1093) (FF b) e m 4 a d k D) [2,6,3,1,1] [] λp y=>.seg 117469187 λH=>.seg 481053143041 λr=>.use _ (gx w (O 0) none 0 ([]) 0 rfl) [6] [] λR N=>.seg 0 λJ=>i (p.1.1,p.1.2) y [1,6,1,5] [] [])
noncomputable def jz:List (Nat×Nat)->MI->MI->Prop
 | [],a,b=>b=a
 | x::p,a,b=>∃u,jz p (aw a x.1 x.2 (aa a x.1-1,u)) b
noncomputable def xG (P:E8) (f:Nat):Env:=dY (oa P) 944 f
noncomputable def xF (P:E8):Stmt:=aA (cw (aA (aY (aA (cX (oa P)) 0)) 1)) 0
noncomputable def xE (P:E8) (i f:Nat):Code:=bR (xF P) (.ref i) (xG P f)
noncomputable def lX (P:E8) (k:Nat) (c:Nat×Nat):List E6:=[es P [101,108,101,109] k (cv c)]
noncomputable def lC (P:E8) (f b i:Nat) (k:Nat×Nat×Nat) (S d l h mt g e:Nat) (n:List E6) (m:Nat) (p r:List (Nat×Nat)) (a:MI) (j:Nat):af:={d:=15,α:=(MI×Nat)×Nat×(Nat×Nat)×Nat,c:=xE P b f,need:=[(b,aW "list_iterator" l i),(l,ae (p.map cv) h),(f,eQ P k S (.ref l) g e mt n m),(S,cO P d a j),(mt,fT "dict.get" S)],new:=λx=>[(S,cO P d x.1.1 x.1.2),(l,ae (p.map cv) h),(f,eQ P k S (.ref l) g e mt (lX P x.2.1 x.2.2.1) x.2.2.2)],post:=λx=>jz r a x.1.1}
section
variable (w:E9) (fr it:Nat) (k:Nat×Nat×Nat) (S dd l ln mt kw k4:Nat) (ps:List (Nat×Nat))
theorem xC:∀(r:List (Nat×Nat)) (i d:Nat) (b:Nat×Nat) (f:Nat) (a:MI) (e:Nat),ps.drop i=r->a.length+r.length<=900->
 ab (env w) (lC w.params fr it i k S dd l ln mt kw k4 (lX w.params d b) f ps r a e):=by
 intro r
 induction r with
 | nil=>
  intro i d b f a e h n
  exact ct (λ_ j=>.seg 68736258049 λp=>.use _ (ch w it l i ln cv ps (aV h)) [0,0] [] λE m=>.seg 4099 λO=>j (((a,e),d,(b.1,b.2),f)) rfl [] [5,1,3] [])
 | cons x r B=>
  intro i d b f a e h n
  obtain⟨y,m⟩:=aQ h
  simp only[Fd]at n
  exact av (λ_ j=>.seg 68736258049 λp=>.use _ (cr w it l i ln cv ps x y) [0,0] [] λE J=>.seg 0x4004000004005001005003003003003 λO=>.use _ (mu w S (Fs 1093) (FF dd) a e (x.1) (x.2) (O 1)) [3] [] λF L=>.seg 1 λq=>.use _ (bx w (aa a x.1) 1 F (q 0) (aa a x.1-1) rfl) [] [] λo M=>.seg 0x1001000000000001000001004004 λH=>.use _ (dm w S (FF dd) e (x.1) (x.2) a (aa a x.1-1) o (by omega)) [0] [] λG N=>.seg 0 λI=>.use _ ((λd b f u e=>B (i+1) d b f _ e m (by have:=gR x.1 x.2 (aa a x.1-1,u) a;omega):∀(C:Nat) (s:Nat×Nat) (v D t:Nat),ab (env w) (lC w.params fr it (i+1) k S dd l ln mt kw k4 (lX w.params C s) v ps r (aw a x.1 x.2 (aa a x.1-1,D)) t)) d x f o G) [1,1,1,0,0] [] λg A=>j (((g.1.1,g.1.2),g.2.1,(g.2.2.1.1,g.2.2.1.2),g.2.2.2)) ⟨_,A⟩ [] [0,0,0] [])
theorem xD (f:Nat) (a:MI) (e:Nat) (q:ps≠[]) (p:a.length+ps.length<=900):ab (env w) (lC w.params fr it 0 k S dd l ln mt kw k4 [] f ps ps a e):=by
 cases h:ps with
 | nil=>exact absurd h q
 | cons x r=>
  subst h
  simp only[Fd]at p
  exact av (λ_ B=>.seg 68736258049 λC=>.use _ (cr w it l 0 ln cv (x::r) x rfl) [0,0] [] λJ F=>.seg 0x4004000004005001005003003003003 λO=>.use _ (mu w S (Fs 1093) (FF dd) a e (x.1) (x.2) (O 1)) [3] [] λy G=>.seg 1 λg=>.use _ (bx w (aa a x.1) 1 y (g 0) (aa a x.1-1) rfl) [] [] λd H=>.seg 0x1001000000000001000001004004 λD=>.use _ (dm w S (FF dd) e (x.1) (x.2) a (aa a x.1-1) d (by omega)) [0] [] λA I=>.seg 0 λE=>.use _ ((λs i f u e=>xC w fr it k S dd l ln mt kw k4 (x::r) r 1 s i f _ e rfl (by have:=gR x.1 x.2 (aa a x.1-1,u) a;omega):∀(t:Nat) (j:Nat×Nat) (n v m:Nat),ab (env w) (lC w.params fr it (0+1) k S dd l ln mt kw k4 (lX w.params t j) n (x::r) r (aw a x.1 x.2 (aa a x.1-1,v)) m)) (O 0) x (f+1) d A) [1,1,1,0,0] [] λb o=>B (((b.1.1,b.1.2),b.2.1,(b.2.2.1.1,b.2.2.1.2),b.2.2.2)) ⟨_,o⟩ [] [0,0,0] [])
end
noncomputable def yl (P:E8) (S d de e l b:Nat) (a:MI) (p:List (Nat×Nat)):af:={d:=45,α:=MI×Nat,c:=.call (.ref 944) ⟨[.ref S,.ref l],[]⟩,need:=[(S,cO P d a e),(d,oD [] de),(l,ae (p.map cv) b)],r:=λ_=>.ok (.ret .none),put:=λz=>[cO P d z.1 z.2,oD [] de,ae (p.map cv) b],post:=λz=>jz p a z.1}
theorem xB (w:E9) (S i de f l g:Nat) (b:MI) (p:List (Nat×Nat)) (r:b.length+p.length<=900):ab (env w) (yl w.params S i de f l g b p):=by
 by_cases j:p=[]
 .subst j
  exact av (λ_ h=>.seg 0x1001001001001001000000000001 λO=>.seg 0x1001001001000000001000000000000000000000000000006001001001000002000000002002000003001001004000003003000000000003001000003001000000000000000000003001001001 λd=>.seg 0x1001001001000000001000001001000000000000000000000000000000000001000000001000000000000000000000000000000000000000000000000000001001007001007001001007001007001007001001001007001001001000000001 λm=>.seg 0x1001000000001000001000001001001000000001000000000001001 λn=>.seg 0x1001001001001001001001 λa=>.use _ (jM w ([108,105,115,116]) ([109,97,112,112,105,110,103,112,114,111,120,121]) (a 1) (a 2) (by trivial)) [] [] λs o=>.seg 0x1001009001009009005001000000001002002001001000000 λe=>.seg 68736258049 λy=>.use _ (ch w (e 1) l 0 g cv ([]) (by trivial)) [0,8] [] λG D=>.seg 0xa00a009001003 λk=>.seg 687211585537 λt=>.use _ (gx w (O 0) none 0 ([]) 0 rfl) [9] [] λF C=>.seg 0 λv=>h (b,f) rfl [10,10,2] [] [])
 .exact av (λ_ h=>.seg 0x1001001001001001000000000001 λO=>.seg 0x1001001001000000001000000000000000000000000000006001001001000002000000002002000003001001004000003003000000000003001000003001000000000000000000003001001001 λd=>.seg 0x1001001001000000001000001001000000000000000000000000000000000001000000001000000000000000000000000000000000000000000000000000001001007001007001001007001007001007001001001007001001001000000001 λm=>.seg 0x1001000000001000001000001001001000000001000000000001001 λn=>.seg 0x1001001001001001001001 λa=>.use _ (jM w ([108,105,115,116]) ([109,97,112,112,105,110,103,112,114,111,120,121]) (a 1) (a 2) (by trivial)) [] [] λs o=>.seg 0x1001009001009009005001000000001002002001001000000 λe=>.use _ (xD w (O 1) (e 1) (O 2,O 3,O 4) S i l g (d 1) (O 0) (d 2) p 4 b f j r) [0,8,4,5,3] [] λx q=>.seg 117469187 λA=>.seg 481053143041 λk=>.use _ (gx w (O 0) none 0 ([]) 0 rfl) [6] [] λE B=>.seg 0 λu=>h (x.1.1,x.1.2) q [1,6,1] [] [])
noncomputable def bn (a b:Int):Int:=if a<b then a else b
noncomputable def bm (a b:Int):Int:=if a<b then b else a
noncomputable def cB (a b:Int):Int:=a-b
noncomputable def PO (v:Int) (a b:MI) (c t:Nat):Prop:=(0<v->∃u,b=aw a c t (v,u))/\(¬0<v->b=a)
theorem cy {v a:Int} {b:MI} {c t u:Nat} (h:a=v) (hp:0<a):PO v b (aw b c t (a,u)) c t:=⟨λ_=>⟨u,by rw[h]⟩,λn=>absurd (h▸hp) n⟩
theorem cz {v:Int} {a:MI} {c t:Nat} (h:¬0<v):PO v a a c t:=⟨λn=>absurd n h,λ_=>rfl⟩
theorem ii {v:Int} {a b:MI} {c t:Nat} (h:PO v a b c t):b.length<=a.length+1:=by
 by_cases d:0<v
 .obtain ⟨u,rfl⟩:=h.1 d
  exact gR _ _ _ _
 .rw [h.2 d];omega
noncomputable def bM (f:Int->Int->Int) (B:MI):MI->MI->MI->Prop
 | [],a,b=>b=a
 | x::m,a,b=>∃d,PO (f x.2.2.1 (aa B x.1)) a d x.1 x.2.1/\bM f B m d b
noncomputable def d5 (A:MI) (v:Int) (a b:MI) (c t:Nat):Prop:=(bU A c=false/\0<v->∃u,b=aw a c t (v,u))/\(¬(bU A c=false/\0<v)->b=a)
noncomputable def ds (f:Int->Int) (A:MI):MI->MI->MI->Prop
 | [],a,b=>b=a
 | x::m,a,b=>∃d,d5 A (f x.2.2.1) a d x.1 x.2.1/\ds f A m d b
theorem wa {A:MI} {v:Int} {a b:MI} {c t:Nat} (h:d5 A v a b c t):b.length<=a.length+1:=by
 by_cases d:bU A c=false/\0<v
 .obtain ⟨u,rfl⟩:=h.1 d
  exact gR _ _ _ _
 .rw [h.2 d];omega
noncomputable def ej (s:Stmt):Expr:=(sP s).1
theorem l7 {e:Expr} (h:e=.Name ((eP e).2.2.2.2.2.headD ⟨⟨[]⟩⟩) (eP e).2.2.1) (i v:Fb):Gr e i v=pure ():=by rw[h];rfl
noncomputable def aZ (P:E8) (k:Nat×Nat×Nat) (S O R:Nat) (m:List E6) (f:Nat):Obj:=bD ([es P [115,101,108,102] k.1 (.ref S),es P [111,116,104,101,114] k.2.1 (.ref O),es P [114,101,115,117,108,116] k.2.2 (.ref R)]++m) f
noncomputable abbrev M3:=(Nat×Nat×Nat)×(Nat×Nat)×(Int×Nat)×(Int×Nat)
noncomputable abbrev M4:=(Nat×Nat×Nat×Nat)×(Nat×Nat)×(Int×Nat)×(Int×Nat)×(Int×Nat)
noncomputable def mn (P:E8) (f:Nat):Env:=dY (om P) 1043 f
noncomputable def i9 (P:E8):Stmt:=aA (cX (om P)) 2
noncomputable def gX (P:E8) (z:M4):List E6:=[es P [101,108,101,109] z.1.1 (cv z.2.1),es P [99,111,117,110,116] z.1.2.1 (iv z.2.2.1),es P [111,116,104,101,114,95,99,111,117,110,116] z.1.2.2.1 (iv z.2.2.2.1),es P [110,101,119,99,111,117,110,116] z.1.2.2.2 (iv z.2.2.2.2)]
noncomputable def jZ (P:E8) (f g i:Nat) (ok n:Fb) (k:Nat×Nat×Nat) (S d e O o h R r:Nat) (l:List E6) (j:Nat) (m a q b:MI) (p:Nat):af:={d:=41,α:=(MI×Nat)×M4×Nat,c:=bR (i9 P) (.ref g) (mn P f),need:=[(g,aT .none S i m.length e ok n),(f,aZ P k S O R l j),(S,cO P d m e),(O,cO P o a h),(R,cO P r b p)],new:=λx=>[(S,cO P d m e),(O,cO P o a h),(R,cO P r x.1.1 x.1.2),(f,aZ P k S O R (gX P x.2.1) x.2.2)],post:=λx=>bM bn a q b x.1.1}
noncomputable def rX (P:E8) (l g i a:Nat) (k:Nat×Nat×Nat) (S e f O o h R r:Nat) (n:List E6) (j:Nat) (m b d:MI) (p:Nat) (x:Nat×Nat×Int×Nat):af:={d:=40,α:=(MI×Nat)×M4×Nat,need:=eC P g i S (.ref 1093) (some e) m f a x++[(l,aZ P k S O R n j),(O,cO P o b h),(R,cO P r d p)],put:=λz=>(eC P g i S (.ref 1093) (some e) m f a x).map (·.2)++[aZ P k S O R (gX P z.2.1) z.2.2,cO P o b h,cO P r z.1.1 z.1.2],post:=λz=>PO (bn x.2.2.1 (aa b x.1)) d z.1.1 x.1 x.2.1}
noncomputable def ju (P:E8) (f:Nat):Env:=dY (lT P) 1036 f
noncomputable def i8 (P:E8):Stmt:=aA (cX (lT P)) 2
noncomputable def cT (P:E8) (z:M4):List E6:=[es P [101,108,101,109] z.1.1 (cv z.2.1),es P [99,111,117,110,116] z.1.2.1 (iv z.2.2.1),es P [111,116,104,101,114,95,99,111,117,110,116] z.1.2.2.1 (iv z.2.2.2.1),es P [110,101,119,99,111,117,110,116] z.1.2.2.2 (iv z.2.2.2.2)]
noncomputable def jY (P:E8) (f g i:Nat) (ok n:Fb) (k:Nat×Nat×Nat) (S d e O o h R r:Nat) (l:List E6) (j:Nat) (m a q b:MI) (p:Nat):af:={d:=41,α:=(MI×Nat)×M4×Nat,c:=bR (i8 P) (.ref g) (ju P f),need:=[(g,aT .none S i m.length e ok n),(f,aZ P k S O R l j),(S,cO P d m e),(O,cO P o a h),(R,cO P r b p)],new:=λx=>[(S,cO P d m e),(O,cO P o a h),(R,cO P r x.1.1 x.1.2),(f,aZ P k S O R (cT P x.2.1) x.2.2)],post:=λx=>bM bm a q b x.1.1}
noncomputable def rW (P:E8) (l g i a:Nat) (k:Nat×Nat×Nat) (S e f O o h R r:Nat) (n:List E6) (j:Nat) (m b d:MI) (p:Nat) (x:Nat×Nat×Int×Nat):af:={d:=40,α:=(MI×Nat)×M4×Nat,need:=eC P g i S (.ref 1093) (some e) m f a x++[(l,aZ P k S O R n j),(O,cO P o b h),(R,cO P r d p)],put:=λz=>(eC P g i S (.ref 1093) (some e) m f a x).map (·.2)++[aZ P k S O R (cT P z.2.1) z.2.2,cO P o b h,cO P r z.1.1 z.1.2],post:=λz=>PO (bm x.2.2.1 (aa b x.1)) d z.1.1 x.1 x.2.1}
noncomputable def jr (P:E8) (f:Nat):Env:=dY (lU P) 1029 f
noncomputable def i7 (P:E8):Stmt:=aA (cX (lU P)) 2
noncomputable def cS (P:E8) (z:M3):List E6:=[es P [101,108,101,109] z.1.1 (cv z.2.1),es P [99,111,117,110,116] z.1.2.1 (iv z.2.2.1),es P [110,101,119,99,111,117,110,116] z.1.2.2 (iv z.2.2.2)]
noncomputable def jX (P:E8) (f g i:Nat) (ok n:Fb) (k:Nat×Nat×Nat) (S d e O o h R r:Nat) (l:List E6) (j:Nat) (m a q b:MI) (p:Nat):af:={d:=41,α:=(MI×Nat)×M3×Nat,c:=bR (i7 P) (.ref g) (jr P f),need:=[(g,aT .none S i m.length e ok n),(f,aZ P k S O R l j),(S,cO P d m e),(O,cO P o a h),(R,cO P r b p)],new:=λx=>[(S,cO P d m e),(O,cO P o a h),(R,cO P r x.1.1 x.1.2),(f,aZ P k S O R (cS P x.2.1) x.2.2)],post:=λx=>bM cB a q b x.1.1}
noncomputable def rV (P:E8) (l g i a:Nat) (k:Nat×Nat×Nat) (S e f O o h R r:Nat) (n:List E6) (j:Nat) (m b d:MI) (p:Nat) (x:Nat×Nat×Int×Nat):af:={d:=40,α:=(MI×Nat)×M3×Nat,need:=eC P g i S (.ref 1093) (some e) m f a x++[(l,aZ P k S O R n j),(O,cO P o b h),(R,cO P r d p)],put:=λz=>(eC P g i S (.ref 1093) (some e) m f a x).map (·.2)++[aZ P k S O R (cS P z.2.1) z.2.2,cO P o b h,cO P r z.1.1 z.1.2],post:=λz=>PO (cB x.2.2.1 (aa b x.1)) d z.1.1 x.1 x.2.1}
theorem uJ (w:E9) (d a e c t:Nat) (m:MI) (h:bU m c=true):ab (env w) (lE iv w.params d (.ref 1093) (some a) m e c t true):=oZ _ _ _ _ _ _ _ _ _ _ h
theorem uK (w:E9) (d a e c t:Nat) (m:MI) (h:¬bU m c=true):ab (env w) (lE iv w.params d (.ref 1093) (some a) m e c t false):=oZ _ _ _ _ _ _ _ _ _ _ (by simpa using h)
theorem jA {A:MI} {v a:Int} {b:MI} {c t u:Nat} (d:¬bU A c=true) (h:a=v) (hp:0<a):d5 A v b (aw b c t (a,u)) c t:=⟨λ_=>⟨u,by rw[h]⟩,λn=>absurd ⟨by simpa using d,h▸hp⟩ n⟩
theorem jC {A:MI} {v:Int} {a:MI} {c t:Nat} (h:bU A c=true):d5 A v a a c t:=⟨λn=>absurd (n.1.symm.trans h) Fi,λ_=>rfl⟩
theorem jB {A:MI} {v:Int} {a:MI} {c t:Nat} (h:¬0<v):d5 A v a a c t:=⟨λn=>absurd n.2 h,λ_=>rfl⟩
noncomputable def ce (a:Int):Int:=a
noncomputable def dJ (a:Int):Int:=0-a
noncomputable def l0 (P:E8):Stmt:=aA (cX (lT P)) 3
noncomputable def nJ (P:E8) (f g i:Nat) (ok n:Fb) (k:Nat×Nat×Nat) (S d e O h o R r:Nat) (l:List E6) (j:Nat) (m a q b:MI) (p:Nat):af:={d:=41,α:=(MI×Nat)×M4×Nat,c:=bR (l0 P) (.ref g) (ju P f),need:=[(g,aT .none O i a.length o ok n),(f,aZ P k S O R l j),(O,cO P h a o),(S,cO P d m e),(R,cO P r b p)],new:=λx=>[(S,cO P d m e),(O,cO P h a o),(R,cO P r x.1.1 x.1.2),(f,aZ P k S O R (cT P x.2.1) x.2.2)],post:=λx=>ds ce m q b x.1.1}
noncomputable def yF (P:E8) (l f i a:Nat) (k:Nat×Nat×Nat) (S d e O o h R r:Nat) (n:List E6) (j:Nat) (m g b:MI) (p:Nat) (x:Nat×Nat×Int×Nat):af:={d:=40,α:=(MI×Nat)×M4×Nat,need:=eC P f i O (.ref 1093) (some o) g h a x++[(l,aZ P k S O R n j),(S,cO P d m e),(R,cO P r b p)],put:=λz=>(eC P f i O (.ref 1093) (some o) g h a x).map (·.2)++[aZ P k S O R (cT P z.2.1) z.2.2,cO P d m e,cO P r z.1.1 z.1.2],post:=λz=>d5 m (ce x.2.2.1) b z.1.1 x.1 x.2.1}
noncomputable def lZ (P:E8):Stmt:=aA (cX (lU P)) 3
noncomputable def nI (P:E8) (f g i:Nat) (ok n:Fb) (k:Nat×Nat×Nat) (S d e O h o R r:Nat) (l:List E6) (j:Nat) (m a q b:MI) (p:Nat):af:={d:=41,α:=(MI×Nat)×M3×Nat,c:=bR (lZ P) (.ref g) (jr P f),need:=[(g,aT .none O i a.length o ok n),(f,aZ P k S O R l j),(O,cO P h a o),(S,cO P d m e),(R,cO P r b p)],new:=λx=>[(S,cO P d m e),(O,cO P h a o),(R,cO P r x.1.1 x.1.2),(f,aZ P k S O R (cS P x.2.1) x.2.2)],post:=λx=>ds dJ m q b x.1.1}
noncomputable def yE (P:E8) (l f i a:Nat) (k:Nat×Nat×Nat) (S d e O o h R r:Nat) (n:List E6) (j:Nat) (m g b:MI) (p:Nat) (x:Nat×Nat×Int×Nat):af:={d:=40,α:=(MI×Nat)×M3×Nat,need:=eC P f i O (.ref 1093) (some o) g h a x++[(l,aZ P k S O R n j),(S,cO P d m e),(R,cO P r b p)],put:=λz=>(eC P f i O (.ref 1093) (some o) g h a x).map (·.2)++[aZ P k S O R (cS P z.2.1) z.2.2,cO P d m e,cO P r z.1.1 z.1.2],post:=λz=>d5 m (dJ x.2.2.1) b z.1.1 x.1 x.2.1}
theorem pY {f:Int->Int->Int} {B:MI}:∀{m d e:MI},bM f B m d e->e.length<=d.length+m.length
 | [],d,e,h=>by rw[h];exact FO _
 | x::m,d,e,⟨j,g,i⟩=>by
  have a:=ii g
  have b:=pY i
  simp only[Fd];omega
section
variable (w:E9) (fr it:Nat) (k:Nat×Nat×Nat) (S dd ep O od oe R rd:Nat) (m mo:MI)
theorem qM (i:Nat) (ok o:Fb) (d:List E6) (f:Nat) (x:Nat×Nat×Int×Nat) (g b:MI) (r:Nat) (h:m[i]? =some x)
 (l:∀a,ax (env w) (rX w.params fr it i a k S dd ep O od oe R rd d f m mo b r x) (tF (assign (ej (i9 w.params)) (mn w.params fr) (.ref a)>>=λ_=>Hd (aY (i9 w.params)) (mn w.params fr))))
 (p:∀(z:M4) (f r:Nat) (j:MI) (ok o:Fb),PO (bn x.2.2.1 (aa mo x.1)) b j x.1 x.2.1->ab (env w) (jZ w.params fr it (i+1) ok o k S dd ep O od oe R rd (gX w.params z) f m mo g j r)):
 ab (env w) (jZ w.params fr it i ok o k S dd ep O od oe R rd d f m mo (x::g) b r):=by
 refine jg (B:=λa=>rX w.params fr it i a k S dd ep O od oe R rd d f m mo b r x)
  (N:=λa z=>jZ w.params fr it (i+1) (.str ⟨⟨[x.1]⟩⟩ x.2.1) (iv x.2.2) k S dd ep O od oe R rd (gX w.params z.2.1) z.2.2 m mo g z.1.1 z.1.2)
  (junk:=λa z=>[(a,aR [.str ⟨⟨[x.1]⟩⟩ x.2.1,iv x.2.2] 0)]) (r0:=[(fr,aZ w.params k S O R d f),(O,cO w.params od mo oe),(R,cO w.params rd b r)])
  h (ok:=ok) (ov:=o) (target:=ej (i9 w.params)) (body:=aY (i9 w.params)) (els:=cw (i9 w.params)) (ev:=mn w.params fr) (by kernel_rfl) (by kernel_rfl) rfl rfl (by show 5<=41;omega) ?_ l (λ_ _=>rfl) (λ_=>by show 40<=41;omega) (λ_=>rfl) (λ_=>.refl _) ?_ ?_ (λ_ _=>rfl) (λ_ _=>FO _) (λ_ _=>rfl) ?_
 .exact pf (A:=[[(it,aT .none S i m.length ep ok o)],[(fr,aZ w.params k S O R d f)],[(S,cO w.params dd m ep)],[(O,cO w.params od mo oe)],[(R,cO w.params rd b r)]])
   (B:=[[(it,aT .none S i m.length ep ok o)],[(S,cO w.params dd m ep)],[(fr,aZ w.params k S O R d f)],[(O,cO w.params od mo oe)],[(R,cO w.params rd b r)]]) [0,1,0,0,0] ⟨rfl,rfl,rfl,rfl,rfl,rfl⟩
 .intro a z _
  exact pf (A:=[[(it,aT .none S (i+1) m.length ep (.str ⟨⟨[x.1]⟩⟩ x.2.1) (iv x.2.2))],[(S,cO w.params dd m ep)],[(a,aR [.str ⟨⟨[x.1]⟩⟩ x.2.1,iv x.2.2] 0)],[(fr,aZ w.params k S O R (gX w.params z.2.1) z.2.2)],[(O,cO w.params od mo oe)],[(R,cO w.params rd z.1.1 z.1.2)]])
   (B:=[[(it,aT .none S (i+1) m.length ep (.str ⟨⟨[x.1]⟩⟩ x.2.1) (iv x.2.2))],[(fr,aZ w.params k S O R (gX w.params z.2.1) z.2.2)],[(S,cO w.params dd m ep)],[(O,cO w.params od mo oe)],[(R,cO w.params rd z.1.1 z.1.2)],[(a,aR [.str ⟨⟨[x.1]⟩⟩ x.2.1,iv x.2.2] 0)]]) [0,2,0,1,1,0] ⟨rfl,rfl,rfl,rfl,rfl,rfl,rfl⟩
 .intro a z e
  exact p z.2.1 z.2.2 z.1.2 z.1.1 _ _ e
 .intro a z y e n
  exact⟨y,⟨z.1.1,e,n⟩,rfl,.refl _⟩
theorem B9:∀(g:MI) (i:Nat) (ok o:Fb) (z:M4) (f:Nat) (b:MI) (r:Nat),m.drop i=g->b.length+g.length<=900->
 ab (env w) (jZ w.params fr it i ok o k S dd ep O od oe R rd (gX w.params z) f m mo g b r):=by
 intro g
 induction g with
 | nil=>
  intro i ok o z f b r u l
  exact ct (λ_ h=>.seg 68736258049 λy=>.use _ (gl w it S i ep ok o (Fs 1093) (FF dd) m (aV u)) [0,1] [] λd s=>.seg 4099 λB=>h (((b,r),z,f)) rfl [] [1,4,4,3] [])
 | cons x g G=>
  intro i ok o z f b r u l
  obtain⟨D,s⟩:=aQ u
  simp only[Fd]at l
  refine qM w fr it k S dd ep O od oe R rd m mo i ok o _ f x g b r D (λa=>aG _ (have l:b.length<=1000:=(by omega);λ_ h=>.seg 0x8001000000000008000008000000000008007007007007007007001001001004001001001001001001001001004001001001001001001001001004001001001001001001001001003001003003003 λy=>.use _ (dF w O od mo oe (x.1) (x.2.1)) [7] [] λd s=>.seg 282024866775048 λB=>.or (x.2.2.1<aa mo x.1) (¬(x.2.2.1<aa mo x.1)) (FK _) (λq=>.use _ (gq w (x.2.2.1) (aa mo x.1) (x.2.2.2) d q) [] [] λH F=>.seg 282024866775048 λj=>.or (0<x.2.2.1) (¬(0<x.2.2.1)) (FK _) (λe=>.use _ (dx w (x.2.2.1) 0 (x.2.2.2) (j 1) e) [] [] λv t=>.seg 0x9001000000000009000009008008008 λp=>.use _ (dm w R (FF rd) r (x.1) (x.2.1) b (x.2.2.1) (x.2.2.2) l) [8] [] λn E=>.seg 0 λA=>h (((aw b x.1 x.2.1 (x.2.2.1,x.2.2.2),n),((z.1.1,z.1.2.1,z.1.2.2.1,z.1.2.2.2),(x.1,x.2.1),(x.2.2.1,x.2.2.2),(aa mo x.1,d),x.2.2.1,x.2.2.2),f)) (show PO (bn x.2.2.1 (aa mo x.1)) b ((aw b x.1 x.2.1 (x.2.2.1,x.2.2.2),n),((z.1.1,z.1.2.1,z.1.2.2.1,z.1.2.2.2),(x.1,x.2.1),(x.2.2.1,x.2.2.2),(aa mo x.1,d),x.2.2.1,x.2.2.2),f).1.1 x.1 x.2.1 from(by(first| exact cy (by first| rfl | (simp only[bn];(try split)<;>omega)) (by omega) | exact cz (by simp only[bn];(try split)<;>omega)))) [5,5,5,5,1,0] [] []) (λe=>.use _ (dy w (x.2.2.1) 0 (x.2.2.2) (j 1) e) [] [] λv t=>.seg 0 λp=>h (((b,r),((z.1.1,z.1.2.1,z.1.2.2.1,z.1.2.2.2),(x.1,x.2.1),(x.2.2.1,x.2.2.2),(aa mo x.1,d),x.2.2.1,x.2.2.2),f)) (show PO (bn x.2.2.1 (aa mo x.1)) b ((b,r),((z.1.1,z.1.2.1,z.1.2.2.1,z.1.2.2.2),(x.1,x.2.1),(x.2.2.1,x.2.2.2),(aa mo x.1,d),x.2.2.1,x.2.2.2),f).1.1 x.1 x.2.1 from(by(first| exact cy (by first| rfl | (simp only[bn];(try split)<;>omega)) (by omega) | exact cz (by simp only[bn];(try split)<;>omega)))) [4,4,4,4,0,3] [] [])) (λq=>.use _ (gr w (x.2.2.1) (aa mo x.1) (x.2.2.2) d q) [] [] λH F=>.seg 282024866775048 λj=>.or (0<aa mo x.1) (¬(0<aa mo x.1)) (FK _) (λe=>.use _ (dx w (aa mo x.1) 0 d (j 1) e) [] [] λv t=>.seg 0x9001000000000009000009008008008 λp=>.use _ (dm w R (FF rd) r (x.1) (x.2.1) b (aa mo x.1) d l) [8] [] λn E=>.seg 0 λA=>h (((aw b x.1 x.2.1 (aa mo x.1,d),n),((z.1.1,z.1.2.1,z.1.2.2.1,z.1.2.2.2),(x.1,x.2.1),(x.2.2.1,x.2.2.2),(aa mo x.1,d),aa mo x.1,d),f)) (show PO (bn x.2.2.1 (aa mo x.1)) b ((aw b x.1 x.2.1 (aa mo x.1,d),n),((z.1.1,z.1.2.1,z.1.2.2.1,z.1.2.2.2),(x.1,x.2.1),(x.2.2.1,x.2.2.2),(aa mo x.1,d),aa mo x.1,d),f).1.1 x.1 x.2.1 from(by(first| exact cy (by first| rfl | (simp only[bn];(try split)<;>omega)) (by omega) | exact cz (by simp only[bn];(try split)<;>omega)))) [5,5,5,5,1,0] [] []) (λe=>.use _ (dy w (aa mo x.1) 0 d (j 1) e) [] [] λv t=>.seg 0 λp=>h (((b,r),((z.1.1,z.1.2.1,z.1.2.2.1,z.1.2.2.2),(x.1,x.2.1),(x.2.2.1,x.2.2.2),(aa mo x.1,d),aa mo x.1,d),f)) (show PO (bn x.2.2.1 (aa mo x.1)) b ((b,r),((z.1.1,z.1.2.1,z.1.2.2.1,z.1.2.2.2),(x.1,x.2.1),(x.2.2.1,x.2.2.2),(aa mo x.1,d),aa mo x.1,d),f).1.1 x.1 x.2.1 from(by(first| exact cy (by first| rfl | (simp only[bn];(try split)<;>omega)) (by omega) | exact cz (by simp only[bn];(try split)<;>omega)))) [4,4,4,4,0,3] [] [])))) λz f r C ok o hp=>G (i+1) ok o z f C r s ?_
  have:=ii hp
  omega
theorem Ca (g:Nat) (r:Nat) (E:m≠[]) (j:m.length<=900):ab (env w) (jZ w.params fr it 0 .none .none k S dd ep O od oe R rd [] g m mo m [] r):=by
 obtain⟨x,n,e⟩:=FC E
 obtain⟨B,v⟩:=aQ (l:=m) (i:=0) (x:=x) (r:=n) e
 have H:n.length+1<=900:=by rw[e]at j;simpa using j
 have q:=qM w fr it k S dd ep O od oe R rd m mo 0 .none .none [] g x n [] r B (λa=>aG _ (have j:([]:MI).length<=1000:=(Gi _);λ_ o=>.seg 0x8001000000000008000008000000000008007007007007007007001001001004001001001001001001001001004001001001001001001001001004001001001001001001001001003001003003003 λd=>.use _ (dF w O od mo oe (x.1) (x.2.1)) [7] [] λb v=>.seg 282024866775048 λh=>.or (x.2.2.1<aa mo x.1) (¬(x.2.2.1<aa mo x.1)) (FK _) (λs=>.use _ (gq w (x.2.2.1) (aa mo x.1) (x.2.2.2) b s) [] [] λG D=>.seg 282024866775048 λf=>.or (0<x.2.2.1) (¬(0<x.2.2.1)) (FK _) (λi=>.use _ (dx w (x.2.2.1) 0 (x.2.2.2) (f 1) i) [] [] λu t=>.seg 0x9001000000000009000009008008008 λp=>.use _ (dm w R (FF rd) r (x.1) (x.2.1) [] (x.2.2.1) (x.2.2.2) j) [8] [] λl C=>.seg 0 λy=>o (((aw [] x.1 x.2.1 (x.2.2.1,x.2.2.2),l),((d 3,d 4,h 0,f 0),(x.1,x.2.1),(x.2.2.1,x.2.2.2),(aa mo x.1,b),x.2.2.1,x.2.2.2),g+1+1+1+1)) (show PO (bn x.2.2.1 (aa mo x.1)) [] ((aw [] x.1 x.2.1 (x.2.2.1,x.2.2.2),l),((d 3,d 4,h 0,f 0),(x.1,x.2.1),(x.2.2.1,x.2.2.2),(aa mo x.1,b),x.2.2.1,x.2.2.2),g+1+1+1+1).1.1 x.1 x.2.1 from(by(first| exact cy (by first| rfl | (simp only[bn];(try split)<;>omega)) (by omega) | exact cz (by simp only[bn];(try split)<;>omega)))) [5,5,5,5,1,0] [] []) (λi=>.use _ (dy w (x.2.2.1) 0 (x.2.2.2) (f 1) i) [] [] λu t=>.seg 0 λp=>o ((([],r),((d 3,d 4,h 0,f 0),(x.1,x.2.1),(x.2.2.1,x.2.2.2),(aa mo x.1,b),x.2.2.1,x.2.2.2),g+1+1+1+1)) (show PO (bn x.2.2.1 (aa mo x.1)) [] (([],r),((d 3,d 4,h 0,f 0),(x.1,x.2.1),(x.2.2.1,x.2.2.2),(aa mo x.1,b),x.2.2.1,x.2.2.2),g+1+1+1+1).1.1 x.1 x.2.1 from(by(first| exact cy (by first| rfl | (simp only[bn];(try split)<;>omega)) (by omega) | exact cz (by simp only[bn];(try split)<;>omega)))) [4,4,4,4,0,3] [] [])) (λs=>.use _ (gr w (x.2.2.1) (aa mo x.1) (x.2.2.2) b s) [] [] λG D=>.seg 282024866775048 λf=>.or (0<aa mo x.1) (¬(0<aa mo x.1)) (FK _) (λi=>.use _ (dx w (aa mo x.1) 0 b (f 1) i) [] [] λu t=>.seg 0x9001000000000009000009008008008 λp=>.use _ (dm w R (FF rd) r (x.1) (x.2.1) [] (aa mo x.1) b j) [8] [] λl C=>.seg 0 λy=>o (((aw [] x.1 x.2.1 (aa mo x.1,b),l),((d 3,d 4,h 0,f 0),(x.1,x.2.1),(x.2.2.1,x.2.2.2),(aa mo x.1,b),aa mo x.1,b),g+1+1+1+1)) (show PO (bn x.2.2.1 (aa mo x.1)) [] ((aw [] x.1 x.2.1 (aa mo x.1,b),l),((d 3,d 4,h 0,f 0),(x.1,x.2.1),(x.2.2.1,x.2.2.2),(aa mo x.1,b),aa mo x.1,b),g+1+1+1+1).1.1 x.1 x.2.1 from(by(first| exact cy (by first| rfl | (simp only[bn];(try split)<;>omega)) (by omega) | exact cz (by simp only[bn];(try split)<;>omega)))) [5,5,5,5,1,0] [] []) (λi=>.use _ (dy w (aa mo x.1) 0 b (f 1) i) [] [] λu t=>.seg 0 λp=>o ((([],r),((d 3,d 4,h 0,f 0),(x.1,x.2.1),(x.2.2.1,x.2.2.2),(aa mo x.1,b),aa mo x.1,b),g+1+1+1+1)) (show PO (bn x.2.2.1 (aa mo x.1)) [] (([],r),((d 3,d 4,h 0,f 0),(x.1,x.2.1),(x.2.2.1,x.2.2.2),(aa mo x.1,b),aa mo x.1,b),g+1+1+1+1).1.1 x.1 x.2.1 from(by(first| exact cy (by first| rfl | (simp only[bn];(try split)<;>omega)) (by omega) | exact cz (by simp only[bn];(try split)<;>omega)))) [4,4,4,4,0,3] [] [])))) λz g r A ok F hp=>B9 w fr it k S dd ep O od oe R rd m mo n 1 ok F z g A r v (by
  have:=ii hp
  simp only[Hh]at this
  omega)
 rw[<-e]at q
 exact q
end
noncomputable def zc (P:E8) (S d de e O o b f:Nat) (m a:MI):af:={d:=90,α:=Nat×Nat×Nat×Nat×MI×Unit,c:=.call (.ref 1043) ⟨[.ref S,.ref O],[]⟩,need:=[(S,cO P d m e),(d,oD [] de),(O,cO P o a f),(o,oD [] b)],r:=λx=>.ok (.ret (.ref x.1)),put:=λ_=>[cO P d m e,oD [] de,cO P o a f,oD [] b],new:=λx=>[(x.1,cO P x.2.1 x.2.2.2.2.1 x.2.2.1),(x.2.1,oD [] x.2.2.2.1)],post:=λx=>bM bn a m [] x.2.2.2.2.1}
theorem pE (w:E9) (S d de e O o k f:Nat) (m b:MI) (j:m≠[]) (A:m.length<=400) (B:b.length<=400):ab (env w) (zc w.params S d de e O o k f m b):=av (λ_ p=>.seg 0x1001001001000000001 λa=>.seg 0x4001001001000001000000001 λr=>.use _ (jx w) [] [] λx u=>.seg 0x4001005004000000000004000000000004000000000004003003003 λh=>.use _ (g6 w S (FF d) e m) [3] [] λl v=>.seg 137455738882 λs=>.use _ (fS l S w (Fs 1093) (FF d) m e) [1,0] [] λn y=>.seg 3 λt=>.use _ (Ca w (a 0) n (a 1,a 2,h 0) S d e O o f (x.1) (x.2.1) m b 3 0 j (by omega)) [2,4,1,4,1] [] λg i=>.seg 4 λq=>p ((x.1,x.2.1,g.1.2,x.2.2,g.1.1,())) i [0,5,0,4] [0,2] [])
section
variable (w:E9) (fr it:Nat) (k:Nat×Nat×Nat) (S dd ep O od oe R rd:Nat) (m mo:MI)
theorem qL (i:Nat) (ok o:Fb) (d:List E6) (f:Nat) (x:Nat×Nat×Int×Nat) (g b:MI) (r:Nat) (h:m[i]? =some x)
 (l:∀a,ax (env w) (rW w.params fr it i a k S dd ep O od oe R rd d f m mo b r x) (tF (assign (ej (i8 w.params)) (ju w.params fr) (.ref a)>>=λ_=>Hd (aY (i8 w.params)) (ju w.params fr))))
 (p:∀(z:M4) (f r:Nat) (j:MI) (ok o:Fb),PO (bm x.2.2.1 (aa mo x.1)) b j x.1 x.2.1->ab (env w) (jY w.params fr it (i+1) ok o k S dd ep O od oe R rd (cT w.params z) f m mo g j r)):
 ab (env w) (jY w.params fr it i ok o k S dd ep O od oe R rd d f m mo (x::g) b r):=by
 refine jg (B:=λa=>rW w.params fr it i a k S dd ep O od oe R rd d f m mo b r x)
  (N:=λa z=>jY w.params fr it (i+1) (.str ⟨⟨[x.1]⟩⟩ x.2.1) (iv x.2.2) k S dd ep O od oe R rd (cT w.params z.2.1) z.2.2 m mo g z.1.1 z.1.2)
  (junk:=λa z=>[(a,aR [.str ⟨⟨[x.1]⟩⟩ x.2.1,iv x.2.2] 0)]) (r0:=[(fr,aZ w.params k S O R d f),(O,cO w.params od mo oe),(R,cO w.params rd b r)])
  h (ok:=ok) (ov:=o) (target:=ej (i8 w.params)) (body:=aY (i8 w.params)) (els:=cw (i8 w.params)) (ev:=ju w.params fr) (by kernel_rfl) (by kernel_rfl) rfl rfl (by show 5<=41;omega) ?_ l (λ_ _=>rfl) (λ_=>by show 40<=41;omega) (λ_=>rfl) (λ_=>.refl _) ?_ ?_ (λ_ _=>rfl) (λ_ _=>FO _) (λ_ _=>rfl) ?_
 .exact pf (A:=[[(it,aT .none S i m.length ep ok o)],[(fr,aZ w.params k S O R d f)],[(S,cO w.params dd m ep)],[(O,cO w.params od mo oe)],[(R,cO w.params rd b r)]])
   (B:=[[(it,aT .none S i m.length ep ok o)],[(S,cO w.params dd m ep)],[(fr,aZ w.params k S O R d f)],[(O,cO w.params od mo oe)],[(R,cO w.params rd b r)]]) [0,1,0,0,0] ⟨rfl,rfl,rfl,rfl,rfl,rfl⟩
 .intro a z _
  exact pf (A:=[[(it,aT .none S (i+1) m.length ep (.str ⟨⟨[x.1]⟩⟩ x.2.1) (iv x.2.2))],[(S,cO w.params dd m ep)],[(a,aR [.str ⟨⟨[x.1]⟩⟩ x.2.1,iv x.2.2] 0)],[(fr,aZ w.params k S O R (cT w.params z.2.1) z.2.2)],[(O,cO w.params od mo oe)],[(R,cO w.params rd z.1.1 z.1.2)]])
   (B:=[[(it,aT .none S (i+1) m.length ep (.str ⟨⟨[x.1]⟩⟩ x.2.1) (iv x.2.2))],[(fr,aZ w.params k S O R (cT w.params z.2.1) z.2.2)],[(S,cO w.params dd m ep)],[(O,cO w.params od mo oe)],[(R,cO w.params rd z.1.1 z.1.2)],[(a,aR [.str ⟨⟨[x.1]⟩⟩ x.2.1,iv x.2.2] 0)]]) [0,2,0,1,1,0] ⟨rfl,rfl,rfl,rfl,rfl,rfl,rfl⟩
 .intro a z e
  exact p z.2.1 z.2.2 z.1.2 z.1.1 _ _ e
 .intro a z y e n
  exact⟨y,⟨z.1.1,e,n⟩,rfl,.refl _⟩
theorem B7:∀(g:MI) (i:Nat) (ok o:Fb) (z:M4) (f:Nat) (b:MI) (r:Nat),m.drop i=g->b.length+g.length<=900->
 ab (env w) (jY w.params fr it i ok o k S dd ep O od oe R rd (cT w.params z) f m mo g b r):=by
 intro g
 induction g with
 | nil=>
  intro i ok o z f b r u l
  exact ct (λ_ h=>.seg 68736258049 λy=>.use _ (gl w it S i ep ok o (Fs 1093) (FF dd) m (aV u)) [0,1] [] λd s=>.seg 4099 λB=>h (((b,r),z,f)) rfl [] [1,4,4,3] [])
 | cons x g G=>
  intro i ok o z f b r u l
  obtain⟨D,s⟩:=aQ u
  simp only[Fd]at l
  refine qL w fr it k S dd ep O od oe R rd m mo i ok o _ f x g b r D (λa=>aG _ (have l:b.length<=1000:=(by omega);λ_ h=>.seg 0x8001000000000008000008000000000008007007007007007007001001001004001001001001001001001001004001001001001001001001001004001001001001001001001001003001003003003 λy=>.use _ (dF w O od mo oe (x.1) (x.2.1)) [7] [] λd s=>.seg 282024866775048 λB=>.or (x.2.2.1<aa mo x.1) (¬(x.2.2.1<aa mo x.1)) (FK _) (λq=>.use _ (gq w (x.2.2.1) (aa mo x.1) (x.2.2.2) d q) [] [] λH F=>.seg 282024866775048 λj=>.or (0<aa mo x.1) (¬(0<aa mo x.1)) (FK _) (λe=>.use _ (dx w (aa mo x.1) 0 d (j 1) e) [] [] λv t=>.seg 0x9001000000000009000009008008008 λp=>.use _ (dm w R (FF rd) r (x.1) (x.2.1) b (aa mo x.1) d l) [8] [] λn E=>.seg 0 λA=>h (((aw b x.1 x.2.1 (aa mo x.1,d),n),((z.1.1,z.1.2.1,z.1.2.2.1,z.1.2.2.2),(x.1,x.2.1),(x.2.2.1,x.2.2.2),(aa mo x.1,d),aa mo x.1,d),f)) (show PO (bm x.2.2.1 (aa mo x.1)) b ((aw b x.1 x.2.1 (aa mo x.1,d),n),((z.1.1,z.1.2.1,z.1.2.2.1,z.1.2.2.2),(x.1,x.2.1),(x.2.2.1,x.2.2.2),(aa mo x.1,d),aa mo x.1,d),f).1.1 x.1 x.2.1 from(by(first| exact cy (by first| rfl | (simp only[bm];(try split)<;>omega)) (by omega) | exact cz (by simp only[bm];(try split)<;>omega)))) [5,5,5,5,1,0] [] []) (λe=>.use _ (dy w (aa mo x.1) 0 d (j 1) e) [] [] λv t=>.seg 0 λp=>h (((b,r),((z.1.1,z.1.2.1,z.1.2.2.1,z.1.2.2.2),(x.1,x.2.1),(x.2.2.1,x.2.2.2),(aa mo x.1,d),aa mo x.1,d),f)) (show PO (bm x.2.2.1 (aa mo x.1)) b ((b,r),((z.1.1,z.1.2.1,z.1.2.2.1,z.1.2.2.2),(x.1,x.2.1),(x.2.2.1,x.2.2.2),(aa mo x.1,d),aa mo x.1,d),f).1.1 x.1 x.2.1 from(by(first| exact cy (by first| rfl | (simp only[bm];(try split)<;>omega)) (by omega) | exact cz (by simp only[bm];(try split)<;>omega)))) [4,4,4,4,0,3] [] [])) (λq=>.use _ (gr w (x.2.2.1) (aa mo x.1) (x.2.2.2) d q) [] [] λH F=>.seg 282024866775048 λj=>.or (0<x.2.2.1) (¬(0<x.2.2.1)) (FK _) (λe=>.use _ (dx w (x.2.2.1) 0 (x.2.2.2) (j 1) e) [] [] λv t=>.seg 0x9001000000000009000009008008008 λp=>.use _ (dm w R (FF rd) r (x.1) (x.2.1) b (x.2.2.1) (x.2.2.2) l) [8] [] λn E=>.seg 0 λA=>h (((aw b x.1 x.2.1 (x.2.2.1,x.2.2.2),n),((z.1.1,z.1.2.1,z.1.2.2.1,z.1.2.2.2),(x.1,x.2.1),(x.2.2.1,x.2.2.2),(aa mo x.1,d),x.2.2.1,x.2.2.2),f)) (show PO (bm x.2.2.1 (aa mo x.1)) b ((aw b x.1 x.2.1 (x.2.2.1,x.2.2.2),n),((z.1.1,z.1.2.1,z.1.2.2.1,z.1.2.2.2),(x.1,x.2.1),(x.2.2.1,x.2.2.2),(aa mo x.1,d),x.2.2.1,x.2.2.2),f).1.1 x.1 x.2.1 from(by(first| exact cy (by first| rfl | (simp only[bm];(try split)<;>omega)) (by omega) | exact cz (by simp only[bm];(try split)<;>omega)))) [5,5,5,5,1,0] [] []) (λe=>.use _ (dy w (x.2.2.1) 0 (x.2.2.2) (j 1) e) [] [] λv t=>.seg 0 λp=>h (((b,r),((z.1.1,z.1.2.1,z.1.2.2.1,z.1.2.2.2),(x.1,x.2.1),(x.2.2.1,x.2.2.2),(aa mo x.1,d),x.2.2.1,x.2.2.2),f)) (show PO (bm x.2.2.1 (aa mo x.1)) b ((b,r),((z.1.1,z.1.2.1,z.1.2.2.1,z.1.2.2.2),(x.1,x.2.1),(x.2.2.1,x.2.2.2),(aa mo x.1,d),x.2.2.1,x.2.2.2),f).1.1 x.1 x.2.1 from(by(first| exact cy (by first| rfl | (simp only[bm];(try split)<;>omega)) (by omega) | exact cz (by simp only[bm];(try split)<;>omega)))) [4,4,4,4,0,3] [] [])))) λz f r C ok o hp=>G (i+1) ok o z f C r s ?_
  have:=ii hp
  omega
theorem B8 (g:Nat) (r:Nat) (E:m≠[]) (j:m.length<=900):ab (env w) (jY w.params fr it 0 .none .none k S dd ep O od oe R rd [] g m mo m [] r):=by
 obtain⟨x,n,e⟩:=FC E
 obtain⟨B,v⟩:=aQ (l:=m) (i:=0) (x:=x) (r:=n) e
 have H:n.length+1<=900:=by rw[e]at j;simpa using j
 have q:=qL w fr it k S dd ep O od oe R rd m mo 0 .none .none [] g x n [] r B (λa=>aG _ (have j:([]:MI).length<=1000:=(Gi _);λ_ o=>.seg 0x8001000000000008000008000000000008007007007007007007001001001004001001001001001001001001004001001001001001001001001004001001001001001001001001003001003003003 λd=>.use _ (dF w O od mo oe (x.1) (x.2.1)) [7] [] λb v=>.seg 282024866775048 λh=>.or (x.2.2.1<aa mo x.1) (¬(x.2.2.1<aa mo x.1)) (FK _) (λs=>.use _ (gq w (x.2.2.1) (aa mo x.1) (x.2.2.2) b s) [] [] λG D=>.seg 282024866775048 λf=>.or (0<aa mo x.1) (¬(0<aa mo x.1)) (FK _) (λi=>.use _ (dx w (aa mo x.1) 0 b (f 1) i) [] [] λu t=>.seg 0x9001000000000009000009008008008 λp=>.use _ (dm w R (FF rd) r (x.1) (x.2.1) [] (aa mo x.1) b j) [8] [] λl C=>.seg 0 λy=>o (((aw [] x.1 x.2.1 (aa mo x.1,b),l),((d 3,d 4,h 0,f 0),(x.1,x.2.1),(x.2.2.1,x.2.2.2),(aa mo x.1,b),aa mo x.1,b),g+1+1+1+1)) (show PO (bm x.2.2.1 (aa mo x.1)) [] ((aw [] x.1 x.2.1 (aa mo x.1,b),l),((d 3,d 4,h 0,f 0),(x.1,x.2.1),(x.2.2.1,x.2.2.2),(aa mo x.1,b),aa mo x.1,b),g+1+1+1+1).1.1 x.1 x.2.1 from(by(first| exact cy (by first| rfl | (simp only[bm];(try split)<;>omega)) (by omega) | exact cz (by simp only[bm];(try split)<;>omega)))) [5,5,5,5,1,0] [] []) (λi=>.use _ (dy w (aa mo x.1) 0 b (f 1) i) [] [] λu t=>.seg 0 λp=>o ((([],r),((d 3,d 4,h 0,f 0),(x.1,x.2.1),(x.2.2.1,x.2.2.2),(aa mo x.1,b),aa mo x.1,b),g+1+1+1+1)) (show PO (bm x.2.2.1 (aa mo x.1)) [] (([],r),((d 3,d 4,h 0,f 0),(x.1,x.2.1),(x.2.2.1,x.2.2.2),(aa mo x.1,b),aa mo x.1,b),g+1+1+1+1).1.1 x.1 x.2.1 from(by(first| exact cy (by first| rfl | (simp only[bm];(try split)<;>omega)) (by omega) | exact cz (by simp only[bm];(try split)<;>omega)))) [4,4,4,4,0,3] [] [])) (λs=>.use _ (gr w (x.2.2.1) (aa mo x.1) (x.2.2.2) b s) [] [] λG D=>.seg 282024866775048 λf=>.or (0<x.2.2.1) (¬(0<x.2.2.1)) (FK _) (λi=>.use _ (dx w (x.2.2.1) 0 (x.2.2.2) (f 1) i) [] [] λu t=>.seg 0x9001000000000009000009008008008 λp=>.use _ (dm w R (FF rd) r (x.1) (x.2.1) [] (x.2.2.1) (x.2.2.2) j) [8] [] λl C=>.seg 0 λy=>o (((aw [] x.1 x.2.1 (x.2.2.1,x.2.2.2),l),((d 3,d 4,h 0,f 0),(x.1,x.2.1),(x.2.2.1,x.2.2.2),(aa mo x.1,b),x.2.2.1,x.2.2.2),g+1+1+1+1)) (show PO (bm x.2.2.1 (aa mo x.1)) [] ((aw [] x.1 x.2.1 (x.2.2.1,x.2.2.2),l),((d 3,d 4,h 0,f 0),(x.1,x.2.1),(x.2.2.1,x.2.2.2),(aa mo x.1,b),x.2.2.1,x.2.2.2),g+1+1+1+1).1.1 x.1 x.2.1 from(by(first| exact cy (by first| rfl | (simp only[bm];(try split)<;>omega)) (by omega) | exact cz (by simp only[bm];(try split)<;>omega)))) [5,5,5,5,1,0] [] []) (λi=>.use _ (dy w (x.2.2.1) 0 (x.2.2.2) (f 1) i) [] [] λu t=>.seg 0 λp=>o ((([],r),((d 3,d 4,h 0,f 0),(x.1,x.2.1),(x.2.2.1,x.2.2.2),(aa mo x.1,b),x.2.2.1,x.2.2.2),g+1+1+1+1)) (show PO (bm x.2.2.1 (aa mo x.1)) [] (([],r),((d 3,d 4,h 0,f 0),(x.1,x.2.1),(x.2.2.1,x.2.2.2),(aa mo x.1,b),x.2.2.1,x.2.2.2),g+1+1+1+1).1.1 x.1 x.2.1 from(by(first| exact cy (by first| rfl | (simp only[bm];(try split)<;>omega)) (by omega) | exact cz (by simp only[bm];(try split)<;>omega)))) [4,4,4,4,0,3] [] [])))) λz g r A ok F hp=>B7 w fr it k S dd ep O od oe R rd m mo n 1 ok F z g A r v (by
  have:=ii hp
  simp only[Hh]at this
  omega)
 rw[<-e]at q
 exact q
end
section
variable (w:E9) (fr it:Nat) (k:Nat×Nat×Nat) (S dd ep O od oe R rd:Nat) (m mo:MI)
theorem BA:∀(d:MI) (i:Nat) (ok o:Fb) (z:M4) (f:Nat) (b:MI) (r:Nat),mo.drop i=d->b.length+d.length<=900->
 ab (env w) (nJ w.params fr it i ok o k S dd ep O od oe R rd (cT w.params z) f m mo d b r):=by
 intro d
 induction d with
 | nil=>
  intro i ok o z f b r n h
  exact ct (λ_ e=>.seg 68736258049 λt=>.use _ (gl w it O i oe ok o (Fs 1093) (FF od) mo (aV n)) [0,1] [] λJ q=>.seg 4099 λG=>e (((b,r),z,f)) rfl [] [5,1,4,3] [])
 | cons x d D=>
  intro i ok o z f b r n h
  obtain⟨v,q⟩:=aQ n
  simp only[Fd]at h
  refine jg (B:=λa=>yF w.params fr it i a k S dd ep O od oe R rd (cT w.params z) f m mo b r x)
   (N:=λa z=>nJ w.params fr it (i+1) (.str ⟨⟨[x.1]⟩⟩ x.2.1) (iv x.2.2) k S dd ep O od oe R rd (cT w.params z.2.1) z.2.2 m mo d z.1.1 z.1.2)
   (junk:=λa z=>[(a,aR [.str ⟨⟨[x.1]⟩⟩ x.2.1,iv x.2.2] 0)]) (r0:=[(fr,aZ w.params k S O R (cT w.params z) f),(S,cO w.params dd m ep),(R,cO w.params rd b r)])
   v (ok:=ok) (ov:=o) (target:=ej (l0 w.params)) (body:=aY (l0 w.params)) (els:=cw (l0 w.params)) (ev:=ju w.params fr) (by kernel_rfl) (by kernel_rfl) rfl rfl (by show 5<=41;omega) ?_ (λa=>aG _ (have h:b.length<=1000:=(by omega);λ_ e=>.seg 0x8001000000000008000000000008007007007007007007001001001004001001001001001001001001004001001001001001001001001004001001001001001001001001003001003003003 λt=>.or (bU m x.1=HN) (¬(bU m x.1=HN)) (FK _) (λj=>.use _ (uJ w S dd ep (x.1) (x.2.1) m j) [7] [] λE A=>.seg 0 λg=>e (((b,r),((z.1.1,z.1.2.1,z.1.2.2.1,z.1.2.2.2),(x.1,x.2.1),(x.2.2.1,x.2.2.2),(z.2.2.2.1.1,z.2.2.2.1.2),z.2.2.2.2.1,z.2.2.2.2.2),f)) (show d5 m (ce x.2.2.1) b ((b,r),((z.1.1,z.1.2.1,z.1.2.2.1,z.1.2.2.2),(x.1,x.2.1),(x.2.2.1,x.2.2.2),(z.2.2.2.1.1,z.2.2.2.1.2),z.2.2.2.2.1,z.2.2.2.2.2),f).1.1 x.1 x.2.1 from(by(first| exact jA (by assumption) (by first| rfl | (simp only[ce];omega)) (by omega) | exact jC (by assumption) | exact jB (by simp only[ce];omega)))) [4,4,4,4,0,3] [] []) (λj=>.use _ (uK w S dd ep (x.1) (x.2.1) m j) [7] [] λE A=>.seg 4104 λg=>.or (0<x.2.2.1) (¬(0<x.2.2.1)) (FK _) (λl=>.use _ (dx w (x.2.2.1) 0 (x.2.2.2) (g 0) l) [] [] λF B=>.seg 0x9001000000000009000009008008008 λu=>.use _ (dm w R (FF rd) r (x.1) (x.2.1) b (x.2.2.1) (x.2.2.2) h) [8] [] λs I=>.seg 0 λH=>e (((aw b x.1 x.2.1 (x.2.2.1,x.2.2.2),s),((z.1.1,z.1.2.1,z.1.2.2.1,z.1.2.2.2),(x.1,x.2.1),(x.2.2.1,x.2.2.2),(z.2.2.2.1.1,z.2.2.2.1.2),z.2.2.2.2.1,z.2.2.2.2.2),f)) (show d5 m (ce x.2.2.1) b ((aw b x.1 x.2.1 (x.2.2.1,x.2.2.2),s),((z.1.1,z.1.2.1,z.1.2.2.1,z.1.2.2.2),(x.1,x.2.1),(x.2.2.1,x.2.2.2),(z.2.2.2.1.1,z.2.2.2.1.2),z.2.2.2.2.1,z.2.2.2.2.2),f).1.1 x.1 x.2.1 from(by(first| exact jA (by assumption) (by first| rfl | (simp only[ce];omega)) (by omega) | exact jC (by assumption) | exact jB (by simp only[ce];omega)))) [5,5,5,5,1,0] [] []) (λl=>.use _ (dy w (x.2.2.1) 0 (x.2.2.2) (g 0) l) [] [] λF B=>.seg 0 λu=>e (((b,r),((z.1.1,z.1.2.1,z.1.2.2.1,z.1.2.2.2),(x.1,x.2.1),(x.2.2.1,x.2.2.2),(z.2.2.2.1.1,z.2.2.2.1.2),z.2.2.2.2.1,z.2.2.2.2.2),f)) (show d5 m (ce x.2.2.1) b ((b,r),((z.1.1,z.1.2.1,z.1.2.2.1,z.1.2.2.2),(x.1,x.2.1),(x.2.2.1,x.2.2.2),(z.2.2.2.1.1,z.2.2.2.1.2),z.2.2.2.2.1,z.2.2.2.2.2),f).1.1 x.1 x.2.1 from(by(first| exact jA (by assumption) (by first| rfl | (simp only[ce];omega)) (by omega) | exact jC (by assumption) | exact jB (by simp only[ce];omega)))) [4,4,4,4,0,3] [] [])))) (λ_ _=>rfl) (λ_=>by show 40<=41;omega) (λ_=>rfl) (λ_=>.refl _) ?_ ?_ (λ_ _=>rfl) (λ_ _=>FO _) (λ_ _=>rfl) ?_
  .exact pf (A:=[[(it,aT .none O i mo.length oe ok o)],[(fr,aZ w.params k S O R (cT w.params z) f)],[(O,cO w.params od mo oe)],[(S,cO w.params dd m ep)],[(R,cO w.params rd b r)]])
    (B:=[[(it,aT .none O i mo.length oe ok o)],[(O,cO w.params od mo oe)],[(fr,aZ w.params k S O R (cT w.params z) f)],[(S,cO w.params dd m ep)],[(R,cO w.params rd b r)]]) [0,1,0,0,0] ⟨rfl,rfl,rfl,rfl,rfl,rfl⟩
  .intro a z _
   exact pf (A:=[[(it,aT .none O (i+1) mo.length oe (.str ⟨⟨[x.1]⟩⟩ x.2.1) (iv x.2.2))],[(O,cO w.params od mo oe)],[(a,aR [.str ⟨⟨[x.1]⟩⟩ x.2.1,iv x.2.2] 0)],[(fr,aZ w.params k S O R (cT w.params z.2.1) z.2.2)],[(S,cO w.params dd m ep)],[(R,cO w.params rd z.1.1 z.1.2)]])
    (B:=[[(it,aT .none O (i+1) mo.length oe (.str ⟨⟨[x.1]⟩⟩ x.2.1) (iv x.2.2))],[(fr,aZ w.params k S O R (cT w.params z.2.1) z.2.2)],[(O,cO w.params od mo oe)],[(S,cO w.params dd m ep)],[(R,cO w.params rd z.1.1 z.1.2)],[(a,aR [.str ⟨⟨[x.1]⟩⟩ x.2.1,iv x.2.2] 0)]]) [0,2,0,1,1,0] ⟨rfl,rfl,rfl,rfl,rfl,rfl,rfl⟩
  .intro a z p
   refine D (i+1) _ _ z.2.1 z.2.2 z.1.1 z.1.2 q ?_
   have:=wa p
   omega
  .intro a z y p C
   exact⟨y,⟨z.1.1,p,C⟩,rfl,.refl _⟩
theorem BB (z:M4) (f:Nat) (a:MI) (r:Nat) (h:a.length+mo.length<=900):ab (env w) (nJ w.params fr it 0 .none .none k S dd ep O od oe R rd (cT w.params z) f m mo mo a r):=
 BA w fr it k S dd ep O od oe R rd m mo mo 0 .none .none z f a r rfl h
end
noncomputable def zb (P:E8) (S d de e O o f g:Nat) (m a:MI):af:={d:=90,α:=Nat×Nat×Nat×Nat×MI×Unit,c:=.call (.ref 1036) ⟨[.ref S,.ref O],[]⟩,need:=[(S,cO P d m e),(d,oD [] de),(O,cO P o a g),(o,oD [] f)],r:=λx=>.ok (.ret (.ref x.1)),put:=λ_=>[cO P d m e,oD [] de,cO P o a g,oD [] f],new:=λx=>[(x.1,cO P x.2.1 x.2.2.2.2.1 x.2.2.1),(x.2.1,oD [] x.2.2.2.1)],post:=λx=>∃b,bM bm a m [] b/\ds ce m a b x.2.2.2.2.1}
theorem pD (w:E9) (S d de e O o p f:Nat) (m a:MI) (n:m≠[]) (L:m.length<=400) (M:a.length<=400):ab (env w) (zb w.params S d de e O o p f m a):=av (λ_ u=>.seg 0x1001001001000000001 λb=>.seg 0x4001001001000001000000001 λC=>.use _ (jx w) [] [] λx H=>.seg 0x4001005004000000000004000000000004000000000004003003003 λh=>.use _ (g6 w S (FF d) e m) [3] [] λs I=>.seg 137455738882 λD=>.use _ (fS s S w (Fs 1093) (FF d) m e) [1,0] [] λt J=>.seg 3 λE=>.use _ (B8 w (b 0) t (b 1,b 2,h 0) S d e O o f (x.1) (x.2.1) m a 3 0 n (by omega)) [2,4,1,4,1] [] λg i=>.seg 0x2001008002000000000002000000000002000000000002004 λv=>.use _ (g6 w O (FF o) f a) [1] [] λq F=>.seg 137455738882 λy=>.use _ (fS q O w (Fs 1093) (FF o) a f) [1,0] [] λr G=>.seg 3 λA=>have l:(g.1.1.length+a.length<=900):=(by have:=pY i;simp only[Hh]at this;omega); .use _ (BB w (b 0) r (b 1,b 2,h 0) S d e O o f (x.1) (x.2.1) m a (g.2.1) (g.2.2) (g.1.1) (g.1.2) l) [2,4,1,1,1] [] λj k=>.seg 4 λB=>u ((x.1,x.2.1,j.1.2,x.2.2,j.1.1,())) ⟨_,i,k⟩ [0,6,0,5] [0,3] [])
section
variable (w:E9) (fr it:Nat) (k:Nat×Nat×Nat) (S dd ep O od oe R rd:Nat) (m mo:MI)
theorem qK (i:Nat) (ok o:Fb) (d:List E6) (f:Nat) (x:Nat×Nat×Int×Nat) (g b:MI) (r:Nat) (h:m[i]? =some x)
 (l:∀a,ax (env w) (rV w.params fr it i a k S dd ep O od oe R rd d f m mo b r x) (tF (assign (ej (i7 w.params)) (jr w.params fr) (.ref a)>>=λ_=>Hd (aY (i7 w.params)) (jr w.params fr))))
 (p:∀(z:M3) (f r:Nat) (j:MI) (ok o:Fb),PO (cB x.2.2.1 (aa mo x.1)) b j x.1 x.2.1->ab (env w) (jX w.params fr it (i+1) ok o k S dd ep O od oe R rd (cS w.params z) f m mo g j r)):
 ab (env w) (jX w.params fr it i ok o k S dd ep O od oe R rd d f m mo (x::g) b r):=by
 refine jg (B:=λa=>rV w.params fr it i a k S dd ep O od oe R rd d f m mo b r x)
  (N:=λa z=>jX w.params fr it (i+1) (.str ⟨⟨[x.1]⟩⟩ x.2.1) (iv x.2.2) k S dd ep O od oe R rd (cS w.params z.2.1) z.2.2 m mo g z.1.1 z.1.2)
  (junk:=λa z=>[(a,aR [.str ⟨⟨[x.1]⟩⟩ x.2.1,iv x.2.2] 0)]) (r0:=[(fr,aZ w.params k S O R d f),(O,cO w.params od mo oe),(R,cO w.params rd b r)])
  h (ok:=ok) (ov:=o) (target:=ej (i7 w.params)) (body:=aY (i7 w.params)) (els:=cw (i7 w.params)) (ev:=jr w.params fr) (by kernel_rfl) (by kernel_rfl) rfl rfl (by show 5<=41;omega) ?_ l (λ_ _=>rfl) (λ_=>by show 40<=41;omega) (λ_=>rfl) (λ_=>.refl _) ?_ ?_ (λ_ _=>rfl) (λ_ _=>FO _) (λ_ _=>rfl) ?_
 .exact pf (A:=[[(it,aT .none S i m.length ep ok o)],[(fr,aZ w.params k S O R d f)],[(S,cO w.params dd m ep)],[(O,cO w.params od mo oe)],[(R,cO w.params rd b r)]])
   (B:=[[(it,aT .none S i m.length ep ok o)],[(S,cO w.params dd m ep)],[(fr,aZ w.params k S O R d f)],[(O,cO w.params od mo oe)],[(R,cO w.params rd b r)]]) [0,1,0,0,0] ⟨rfl,rfl,rfl,rfl,rfl,rfl⟩
 .intro a z _
  exact pf (A:=[[(it,aT .none S (i+1) m.length ep (.str ⟨⟨[x.1]⟩⟩ x.2.1) (iv x.2.2))],[(S,cO w.params dd m ep)],[(a,aR [.str ⟨⟨[x.1]⟩⟩ x.2.1,iv x.2.2] 0)],[(fr,aZ w.params k S O R (cS w.params z.2.1) z.2.2)],[(O,cO w.params od mo oe)],[(R,cO w.params rd z.1.1 z.1.2)]])
   (B:=[[(it,aT .none S (i+1) m.length ep (.str ⟨⟨[x.1]⟩⟩ x.2.1) (iv x.2.2))],[(fr,aZ w.params k S O R (cS w.params z.2.1) z.2.2)],[(S,cO w.params dd m ep)],[(O,cO w.params od mo oe)],[(R,cO w.params rd z.1.1 z.1.2)],[(a,aR [.str ⟨⟨[x.1]⟩⟩ x.2.1,iv x.2.2] 0)]]) [0,2,0,1,1,0] ⟨rfl,rfl,rfl,rfl,rfl,rfl,rfl⟩
 .intro a z e
  exact p z.2.1 z.2.2 z.1.2 z.1.1 _ _ e
 .intro a z y e n
  exact⟨y,⟨z.1.1,e,n⟩,rfl,.refl _⟩
theorem B5:∀(e:MI) (i:Nat) (ok o:Fb) (z:M3) (f:Nat) (b:MI) (r:Nat),m.drop i=e->b.length+e.length<=900->
 ab (env w) (jX w.params fr it i ok o k S dd ep O od oe R rd (cS w.params z) f m mo e b r):=by
 intro e
 induction e with
 | nil=>
  intro i ok o z f b r n h
  exact ct (λ_ g=>.seg 68736258049 λt=>.use _ (gl w it S i ep ok o (Fs 1093) (FF dd) m (aV n)) [0,1] [] λq l=>.seg 4099 λu=>g (((b,r),z,f)) rfl [] [1,4,4,3] [])
 | cons x e C=>
  intro i ok o z f b r n h
  obtain⟨A,l⟩:=aQ n
  simp only[Fd]at h
  refine qK w fr it k S dd ep O od oe R rd m mo i ok o _ f x e b r A (λa=>aG _ (have h:b.length<=1000:=(by omega);λ_ g=>.seg 0x8001000000000008000008000000000008007007007007007007007001001001004001001001001001001001001004001001001001001001001001004001001001001001001001001003001003003003 λt=>.use _ (dF w O od mo oe (x.1) (x.2.1)) [7] [] λq l=>.seg 1 λu=>.use _ (bx w (x.2.2.1) (aa mo x.1) (x.2.2.2) q (x.2.2.1-aa mo x.1) rfl) [] [] λd F=>.seg 68853727240 λp=>.or (0<x.2.2.1-aa mo x.1) (¬(0<x.2.2.1-aa mo x.1)) (FK _) (λj=>.use _ (dx w (x.2.2.1-aa mo x.1) 0 d (p 1) j) [] [] λD B=>.seg 0x9001000000000009000009008008008 λv=>.use _ (dm w R (FF rd) r (x.1) (x.2.1) b (x.2.2.1-aa mo x.1) d h) [8] [] λs G=>.seg 0 λE=>g (((aw b x.1 x.2.1 (x.2.2.1-aa mo x.1,d),s),((z.1.1,z.1.2.1,z.1.2.2),(x.1,x.2.1),(x.2.2.1,x.2.2.2),x.2.2.1-aa mo x.1,d),f)) (show PO (cB x.2.2.1 (aa mo x.1)) b ((aw b x.1 x.2.1 (x.2.2.1-aa mo x.1,d),s),((z.1.1,z.1.2.1,z.1.2.2),(x.1,x.2.1),(x.2.2.1,x.2.2.2),x.2.2.1-aa mo x.1,d),f).1.1 x.1 x.2.1 from(by(first| exact cy (by first| rfl | (simp only[cB];(try split)<;>omega)) (by omega) | exact cz (by simp only[cB];(try split)<;>omega)))) [5,5,5,5,1,0] [] []) (λj=>.use _ (dy w (x.2.2.1-aa mo x.1) 0 d (p 1) j) [] [] λD B=>.seg 0 λv=>g (((b,r),((z.1.1,z.1.2.1,z.1.2.2),(x.1,x.2.1),(x.2.2.1,x.2.2.2),x.2.2.1-aa mo x.1,d),f)) (show PO (cB x.2.2.1 (aa mo x.1)) b ((b,r),((z.1.1,z.1.2.1,z.1.2.2),(x.1,x.2.1),(x.2.2.1,x.2.2.2),x.2.2.1-aa mo x.1,d),f).1.1 x.1 x.2.1 from(by(first| exact cy (by first| rfl | (simp only[cB];(try split)<;>omega)) (by omega) | exact cz (by simp only[cB];(try split)<;>omega)))) [4,4,4,4,0,3] [] []))) λz f r y ok o hp=>C (i+1) ok o z f y r l ?_
  have:=ii hp
  omega
theorem B6 (f:Nat) (r:Nat) (v:m≠[]) (h:m.length<=900):ab (env w) (jX w.params fr it 0 .none .none k S dd ep O od oe R rd [] f m mo m [] r):=by
 obtain⟨x,i,e⟩:=FC v
 obtain⟨t,l⟩:=aQ (l:=m) (i:=0) (x:=x) (r:=i) e
 have G:i.length+1<=900:=by rw[e]at h;simpa using h
 have q:=qK w fr it k S dd ep O od oe R rd m mo 0 .none .none [] f x i [] r t (λa=>aG _ (have h:([]:MI).length<=1000:=(Gi _);λ_ o=>.seg 0x8001000000000008000008000000000008007007007007007007007001001001004001001001001001001001001004001001001001001001001001004001001001001001001001001003001003003003 λd=>.use _ (dF w O od mo oe (x.1) (x.2.1)) [7] [] λA l=>.seg 1 λD=>.use _ (bx w (x.2.2.1) (aa mo x.1) (x.2.2.2) A (x.2.2.1-aa mo x.1) rfl) [] [] λb E=>.seg 68853727240 λg=>.or (0<x.2.2.1-aa mo x.1) (¬(0<x.2.2.1-aa mo x.1)) (FK _) (λj=>.use _ (dx w (x.2.2.1-aa mo x.1) 0 b (g 1) j) [] [] λB u=>.seg 0x9001000000000009000009008008008 λp=>.use _ (dm w R (FF rd) r (x.1) (x.2.1) [] (x.2.2.1-aa mo x.1) b h) [8] [] λn F=>.seg 0 λC=>o (((aw [] x.1 x.2.1 (x.2.2.1-aa mo x.1,b),n),((d 3,d 4,g 0),(x.1,x.2.1),(x.2.2.1,x.2.2.2),x.2.2.1-aa mo x.1,b),f+1+1+1)) (show PO (cB x.2.2.1 (aa mo x.1)) [] ((aw [] x.1 x.2.1 (x.2.2.1-aa mo x.1,b),n),((d 3,d 4,g 0),(x.1,x.2.1),(x.2.2.1,x.2.2.2),x.2.2.1-aa mo x.1,b),f+1+1+1).1.1 x.1 x.2.1 from(by(first| exact cy (by first| rfl | (simp only[cB];(try split)<;>omega)) (by omega) | exact cz (by simp only[cB];(try split)<;>omega)))) [5,5,5,5,1,0] [] []) (λj=>.use _ (dy w (x.2.2.1-aa mo x.1) 0 b (g 1) j) [] [] λB u=>.seg 0 λp=>o ((([],r),((d 3,d 4,g 0),(x.1,x.2.1),(x.2.2.1,x.2.2.2),x.2.2.1-aa mo x.1,b),f+1+1+1)) (show PO (cB x.2.2.1 (aa mo x.1)) [] (([],r),((d 3,d 4,g 0),(x.1,x.2.1),(x.2.2.1,x.2.2.2),x.2.2.1-aa mo x.1,b),f+1+1+1).1.1 x.1 x.2.1 from(by(first| exact cy (by first| rfl | (simp only[cB];(try split)<;>omega)) (by omega) | exact cz (by simp only[cB];(try split)<;>omega)))) [4,4,4,4,0,3] [] []))) λz f r s ok y hp=>B5 w fr it k S dd ep O od oe R rd m mo i 1 ok y z f s r l (by
  have:=ii hp
  simp only[Hh]at this
  omega)
 rw[<-e]at q
 exact q
end
section
variable (w:E9) (fr it:Nat) (k:Nat×Nat×Nat) (S dd ep O od oe R rd:Nat) (m mo:MI)
theorem By:∀(d:MI) (i:Nat) (ok o:Fb) (z:M3) (f:Nat) (b:MI) (r:Nat),mo.drop i=d->b.length+d.length<=900->
 ab (env w) (nI w.params fr it i ok o k S dd ep O od oe R rd (cS w.params z) f m mo d b r):=by
 intro d
 induction d with
 | nil=>
  intro i ok o z f b r n h
  exact ct (λ_ e=>.seg 68736258049 λv=>.use _ (gl w it O i oe ok o (Fs 1093) (FF od) mo (aV n)) [0,1] [] λN t=>.seg 4099 λI=>e (((b,r),z,f)) rfl [] [5,1,4,3] [])
 | cons x d E=>
  intro i ok o z f b r n h
  obtain⟨A,t⟩:=aQ n
  simp only[Fd]at h
  refine jg (B:=λa=>yE w.params fr it i a k S dd ep O od oe R rd (cS w.params z) f m mo b r x)
   (N:=λa z=>nI w.params fr it (i+1) (.str ⟨⟨[x.1]⟩⟩ x.2.1) (iv x.2.2) k S dd ep O od oe R rd (cS w.params z.2.1) z.2.2 m mo d z.1.1 z.1.2)
   (junk:=λa z=>[(a,aR [.str ⟨⟨[x.1]⟩⟩ x.2.1,iv x.2.2] 0)]) (r0:=[(fr,aZ w.params k S O R (cS w.params z) f),(S,cO w.params dd m ep),(R,cO w.params rd b r)])
   A (ok:=ok) (ov:=o) (target:=ej (lZ w.params)) (body:=aY (lZ w.params)) (els:=cw (lZ w.params)) (ev:=jr w.params fr) (by kernel_rfl) (by kernel_rfl) rfl rfl (by show 5<=41;omega) ?_ (λa=>aG _ (have h:b.length<=1000:=(by omega);λ_ e=>.seg 0x8001000000000008000000000008007007007007007007001001001004001001001001001001001001004001001001001001001001001004001001001001001001001001003001003003003 λv=>.or (bU m x.1=HN) (¬(bU m x.1=HN)) (FK _) (λj=>.use _ (uJ w S dd ep (x.1) (x.2.1) m j) [7] [] λF B=>.seg 0 λg=>e (((b,r),((z.1.1,z.1.2.1,z.1.2.2),(x.1,x.2.1),(x.2.2.1,x.2.2.2),z.2.2.2.1,z.2.2.2.2),f)) (show d5 m (dJ x.2.2.1) b ((b,r),((z.1.1,z.1.2.1,z.1.2.2),(x.1,x.2.1),(x.2.2.1,x.2.2.2),z.2.2.2.1,z.2.2.2.2),f).1.1 x.1 x.2.1 from(by(first| exact jA (by assumption) (by first| rfl | (simp only[dJ];omega)) (by omega) | exact jC (by assumption) | exact jB (by simp only[dJ];omega)))) [4,4,4,4,0,3] [] []) (λj=>.use _ (uK w S dd ep (x.1) (x.2.1) m j) [7] [] λF B=>.seg 4104 λg=>.or (x.2.2.1<0) (¬(x.2.2.1<0)) (FK _) (λl=>.use _ (gq w (x.2.2.1) 0 (x.2.2.2) (g 0) l) [] [] λG C=>.seg 4104 λs=>.use _ (bx w 0 (x.2.2.1) (s 0) (x.2.2.2) (0-x.2.2.1) rfl) [] [] λq M=>.seg 0x9001000000000009000009008008 λJ=>.use _ (dm w R (FF rd) r (x.1) (x.2.1) b (0-x.2.2.1) q h) [8] [] λu L=>.seg 0 λH=>e (((aw b x.1 x.2.1 (0-x.2.2.1,q),u),((z.1.1,z.1.2.1,z.1.2.2),(x.1,x.2.1),(x.2.2.1,x.2.2.2),z.2.2.2.1,z.2.2.2.2),f)) (show d5 m (dJ x.2.2.1) b ((aw b x.1 x.2.1 (0-x.2.2.1,q),u),((z.1.1,z.1.2.1,z.1.2.2),(x.1,x.2.1),(x.2.2.1,x.2.2.2),z.2.2.2.1,z.2.2.2.2),f).1.1 x.1 x.2.1 from(by(first| exact jA (by assumption) (by first| rfl | (simp only[dJ];omega)) (by omega) | exact jC (by assumption) | exact jB (by simp only[dJ];omega)))) [5,5,5,5,1,0] [] []) (λl=>.use _ (gr w (x.2.2.1) 0 (x.2.2.2) (g 0) l) [] [] λG C=>.seg 0 λs=>e (((b,r),((z.1.1,z.1.2.1,z.1.2.2),(x.1,x.2.1),(x.2.2.1,x.2.2.2),z.2.2.2.1,z.2.2.2.2),f)) (show d5 m (dJ x.2.2.1) b ((b,r),((z.1.1,z.1.2.1,z.1.2.2),(x.1,x.2.1),(x.2.2.1,x.2.2.2),z.2.2.2.1,z.2.2.2.2),f).1.1 x.1 x.2.1 from(by(first| exact jA (by assumption) (by first| rfl | (simp only[dJ];omega)) (by omega) | exact jC (by assumption) | exact jB (by simp only[dJ];omega)))) [4,4,4,4,0,3] [] [])))) (λ_ _=>rfl) (λ_=>by show 40<=41;omega) (λ_=>rfl) (λ_=>.refl _) ?_ ?_ (λ_ _=>rfl) (λ_ _=>FO _) (λ_ _=>rfl) ?_
  .exact pf (A:=[[(it,aT .none O i mo.length oe ok o)],[(fr,aZ w.params k S O R (cS w.params z) f)],[(O,cO w.params od mo oe)],[(S,cO w.params dd m ep)],[(R,cO w.params rd b r)]])
    (B:=[[(it,aT .none O i mo.length oe ok o)],[(O,cO w.params od mo oe)],[(fr,aZ w.params k S O R (cS w.params z) f)],[(S,cO w.params dd m ep)],[(R,cO w.params rd b r)]]) [0,1,0,0,0] ⟨rfl,rfl,rfl,rfl,rfl,rfl⟩
  .intro a z _
   exact pf (A:=[[(it,aT .none O (i+1) mo.length oe (.str ⟨⟨[x.1]⟩⟩ x.2.1) (iv x.2.2))],[(O,cO w.params od mo oe)],[(a,aR [.str ⟨⟨[x.1]⟩⟩ x.2.1,iv x.2.2] 0)],[(fr,aZ w.params k S O R (cS w.params z.2.1) z.2.2)],[(S,cO w.params dd m ep)],[(R,cO w.params rd z.1.1 z.1.2)]])
    (B:=[[(it,aT .none O (i+1) mo.length oe (.str ⟨⟨[x.1]⟩⟩ x.2.1) (iv x.2.2))],[(fr,aZ w.params k S O R (cS w.params z.2.1) z.2.2)],[(O,cO w.params od mo oe)],[(S,cO w.params dd m ep)],[(R,cO w.params rd z.1.1 z.1.2)],[(a,aR [.str ⟨⟨[x.1]⟩⟩ x.2.1,iv x.2.2] 0)]]) [0,2,0,1,1,0] ⟨rfl,rfl,rfl,rfl,rfl,rfl,rfl⟩
  .intro a z p
   refine E (i+1) _ _ z.2.1 z.2.2 z.1.1 z.1.2 t ?_
   have:=wa p
   omega
  .intro a z y p D
   exact⟨y,⟨z.1.1,p,D⟩,rfl,.refl _⟩
theorem Bz (z:M3) (f:Nat) (a:MI) (r:Nat) (h:a.length+mo.length<=900):ab (env w) (nI w.params fr it 0 .none .none k S dd ep O od oe R rd (cS w.params z) f m mo mo a r):=
 By w fr it k S dd ep O od oe R rd m mo mo 0 .none .none z f a r rfl h
end
noncomputable def y9 (P:E8) (S d de e O o f g:Nat) (m a:MI):af:={d:=90,α:=Nat×Nat×Nat×Nat×MI×Unit,c:=.call (.ref 1029) ⟨[.ref S,.ref O],[]⟩,need:=[(S,cO P d m e),(d,oD [] de),(O,cO P o a g),(o,oD [] f)],r:=λx=>.ok (.ret (.ref x.1)),put:=λ_=>[cO P d m e,oD [] de,cO P o a g,oD [] f],new:=λx=>[(x.1,cO P x.2.1 x.2.2.2.2.1 x.2.2.1),(x.2.1,oD [] x.2.2.2.1)],post:=λx=>∃b,bM cB a m [] b/\ds dJ m a b x.2.2.2.2.1}
theorem ED (w:E9) (S d de e O o p f:Nat) (m a:MI) (n:m≠[]) (L:m.length<=400) (M:a.length<=400):ab (env w) (y9 w.params S d de e O o p f m a):=av (λ_ u=>.seg 0x1001001001000000001 λb=>.seg 0x4001001001000001000000001 λC=>.use _ (jx w) [] [] λx H=>.seg 0x4001005004000000000004000000000004000000000004003003003 λh=>.use _ (g6 w S (FF d) e m) [3] [] λs I=>.seg 137455738882 λD=>.use _ (fS s S w (Fs 1093) (FF d) m e) [1,0] [] λt J=>.seg 3 λE=>.use _ (B6 w (b 0) t (b 1,b 2,h 0) S d e O o f (x.1) (x.2.1) m a 3 0 n (by omega)) [2,4,1,4,1] [] λg i=>.seg 0x2001008002000000000002000000000002000000000002004 λv=>.use _ (g6 w O (FF o) f a) [1] [] λq F=>.seg 137455738882 λy=>.use _ (fS q O w (Fs 1093) (FF o) a f) [1,0] [] λr G=>.seg 3 λA=>have l:(g.1.1.length+a.length<=900):=(by have:=pY i;simp only[Hh]at this;omega); .use _ (Bz w (b 0) r (b 1,b 2,h 0) S d e O o f (x.1) (x.2.1) m a (g.2.1) (g.2.2) (g.1.1) (g.1.2) l) [2,4,1,1,1] [] λj k=>.seg 4 λB=>u ((x.1,x.2.1,j.1.2,x.2.2,j.1.1,())) ⟨_,i,k⟩ [0,6,0,5] [0,3] [])
noncomputable def b9 (P:E8) (f l:Nat):Env:={dY (kj P) 1222 f with cells:=[(⟨⟨[108,101,102,116]⟩⟩,l)]}
noncomputable def tS (P:E8):List Stmt:=cX (kj P)
noncomputable def eS (P:E8) (k:Nat×Nat×Nat×Nat×Nat) (a:List Nat) (t nd b h S:Nat) (m:List E6) (f:Nat) (s:SL):Obj:=bv ([es P [110,97,109,101,115] k.1 (.str ⟨⟨a⟩⟩ t),es P [110,101,101,100,115] k.2.1 (.ref nd),es P [104,111,117,114,115] k.2.2.1 (.ref b),es P [104,97,110,100,115] k.2.2.2.1 (.ref h),es P [115,111,114,116,101,114] k.2.2.2.2 (.ref S)]++m) f s
noncomputable def bP (P:E8) (k:Nat) (c:Nat×Nat):List E6:=[es P [110,97,109,101] k (cv c)]
structure NL where
 c:Nat×Nat
 a:Nat
 ps:List (Nat×Nat)
 n:Nat
noncomputable def NL.cells (x:NL):ao:=[(x.a,ae (x.ps.map cv) x.n)]
noncomputable def bh (N:List NL):ao:=N.flatMap NL.cells
noncomputable def aM (N:List NL):List (Nat×Nat×Nat):=N.map λx=>(x.c.1,x.c.2,x.a)
noncomputable def aU (N:List NL):List Nat:=N.map λx=>x.c.1
noncomputable def au (N:List NL) (c:Nat):List (Nat×Nat):=((N.find? λx=>x.c.1==c).map (·.ps)).getD []
noncomputable def ed (N:List NL):List Nat->List ai->List ai->Prop
 | [],I,a=>a=I
 | c::d,I,a=>∃(t:Nat) (n:ai) (b:List ai),b=cm (c,t) (au N c) (I++[n])/\n.node=(c,t)/\n.np.1=(au N c).length/\n.su=[]/\ed N d b a
noncomputable def eJ (P:E8) (f q d i:Nat) (k:Nat×Nat×Nat×Nat×Nat) (a:List Nat) (t nd b h S s n:Nat) (g:Nat×Nat×Nat×Nat) (p j:Int×Nat) (r:List E6) (o:Nat) (l:SL) (N:List NL) (e:Nat) (u:List Nat) (I:List ai) (m:Nat):af:={d:=70,α:=List ai×Nat×Nat×(Nat×Nat)×Nat,c:=bR (aA (tS P) 1) (.ref d) (b9 P f q),need:=[(d,cq a t i),(f,eS P k a t nd b h S r o l),(S,bd s),(s,be P g n .none p j),(n,dO P (.type "dict") none .ref (ay I) m),(nd,dO P (.type "dict") none .ref (aM N) e)],new:=λx=>[(f,eS P k a t nd b h S (bP P x.2.2.1 x.2.2.2.1) x.2.2.2.2 l),(S,bd s),(s,be P g n .none p j),(n,dO P (.type "dict") none .ref (ay x.1) x.2.1),(nd,dO P (.type "dict") none .ref (aM N) e)],post:=λx=>ed N u I x.1,needB:=[aB I,bh N],putB:=λx=>[aB x.1,bh N]}
theorem iY {N:List NL} (b:(aU N).Nodup) {c:Nat} (i:c∈aU N):∃(x:NL) (R:ao),x∈N/\x.c.1=c/\look? (aM N) c=some x.a/\au N c=x.ps/\(bh N).Perm ([(x.a,ae (x.ps.map cv) x.n)]++R):=by
 obtain⟨x,g,e⟩:=Gl.mp i
 obtain⟨a,d,rfl⟩:=Hu g
 have f:∀y∈a,y.c.1≠c:=λy h q=>by
  unfold aU at b
  rw[Ff,Fw,Gm]at b
  exact b.2.2 y.c.1 (Fc (f:=λx:NL=>x.c.1) h) x.c.1 E2 (q.trans e.symm)
 refine⟨x,bh (a++d),g,e, ?_, ?_, ?_⟩
 .unfold aM
  rw[Ff,Fw,<-e]
  refine l4 λy h=>?_
  obtain⟨z,j,rfl⟩:=Gl.mp h
  rw[e];exact f z j
 .unfold au
  rw[HD,List.find?_eq_none.mpr (λy h=>by simpa using f y h),List.find?_cons_of_pos (by simpa using e)]
  rfl
 .have:=(List.perm_middle (l₁:=a) (a:=x) (l₂:=d)).flatMap_right NL.cells
  unfold bh
  rw[GP]at this
  exact this
theorem uc (x:Nat×Nat):∀(a:List (Nat×Nat)) (I:List ai),am (cm x a I)=am I
 | [],_=>rfl
 | p::a,I=>(uc x a _).trans (dg (gB x) I)
theorem t8 (x:Nat×Nat):∀(a:List (Nat×Nat)) (I:List ai),(cm x a I).length=I.length
 | [],_=>rfl
 | p::a,I=>(t8 x a _).trans (Fq ..)
theorem qU (x:Nat×Nat):∀(a:List (Nat×Nat)) (I:List ai) (n:Nat),(∀i∈I,i.su.length<=n)->∀i∈cm x a I,i.su.length<=n+a.length
 | [],_,_,h=>h
 | p::a,I,n,h=>λi b=>by
  have:=qU x a _ (n+1) (mQ h) i b
  simp only[Fd];omega
structure d8 (N:List NL) (rest:List Nat) (I:List ai):Prop where
 nd:(am I).Nodup
 ndr:rest.Nodup
 dis:∀c∈rest,c∉am I
 mem:∀c∈rest,c∈aU N
 ndN:(aU N).Nodup
 pre:∀a c b,rest=a++c::b->∀p∈au N c,p.1∈am I\/p.1∈a
 few:∀x∈N,x.ps.length<=8
 len:I.length+rest.length<=90
 su:∀i∈I,i.su.length+10*rest.length<=900
theorem d8.add {N:List NL} {c:Nat} {r:List Nat} {I:List ai} (C:d8 N (c::r) I):eY I c (au N c)/\(au N c).length<=8:=by
 obtain⟨x,R,f,e,_,hp,_⟩:=iY C.ndN (C.mem c E2)
 have a:(au N c).length<=8:=by rw[hp];exact C.few x f
 have d:=C.len
 refine⟨⟨C.nd,C.dis c E2,λp hp=>?_,by simp at d;omega,λi b=>?_,by omega⟩,a⟩
 .rcases C.pre [] c r rfl p hp with h | h
  .exact h
  .cases h
 .have:=C.su i b
  omega
theorem d8.next {N:List NL} {c u:Nat} {r:List Nat} {I f:List ai} {k:ai} (C:d8 N (c::r) I) (h:f=cm (c,u) (au N c) (I++[k])) (A:k.node=(c,u)) (B:k.su=[]):d8 N r f/\am f=am I++[c]:=by
 obtain⟨_,E⟩:=C.add
 have hk:am f=am I++[c]:=by
  rw[h,uc]
  unfold am
  rw[Ff,Fw,A]
  rfl
 have l:=C.ndr
 rw[GQ]at l
 have w:=C.len
 simp only[Fd]at w
 refine⟨⟨?_,l.2,λd g=>?_,λd g=>C.mem d (E4 _ g),C.ndN,λs d b e p hp=>?_,C.few, ?_,λi m=>?_⟩,hk⟩
 .rw [hk,Gm]
  refine⟨C.nd,by simp,λF D y o q=>?_⟩
  simp only[Gd]at o
  exact C.dis c E2 (by rw[<-o,<-q];exact D)
 .rw [hk,GE,not_or]
  refine⟨C.dis d (E4 _ g),λq=>?_⟩
  simp only[Gd]at q
  exact l.1 (q▸g)
 .rw [hk]
  rcases C.pre (c::s) d b (by rw[e];rfl) p hp with q | q
  .exact .inl (F5 _ q)
  .rcases GR.mp q with q | q
   .exact .inl (FH _ (by rw[q];exact List.mem_singleton_self _))
   .exact .inr q
 .rw [h,t8]
  simp;omega
 .rw [h]at m
  have t:∀j∈I++[k],j.su.length<=900-10*(r.length+1):=λj v=>by
   rcases GE.mp v with q | q
   .have:=C.su j q
    simp only[Fd]at this
    omega
   .simp only[Gd]at q
    rw[q,B];simp
  have:=qU (c,u) (au N c) _ _ t i m
  omega
section
variable (w:E9) (fr lc it:Nat) (k:Nat×Nat×Nat×Nat×Nat) (cps:List Nat) (t nd hr ha S sd n2i:Nat) (ks:Nat×Nat×Nat×Nat) (po nf:Int×Nat) (sl:SL) (N:List NL) (eN:Nat)
theorem B0 (i:Nat) (q:Nat) (E:Nat×Nat) (m:Nat) (c:Nat) (y:List Nat) (I:List ai) (l:Nat) (h:cps[i]? =some c) (C:d8 N (c::y) I)
 (g:∀(q u m l:Nat) (D:List ai) (r:ai),D=cm (c,u) (au N c) (I++[r])->r.node=(c,u)->r.np.1=((au N c).length:Nat)->r.su=[]->ab (env w) (eJ w.params fr lc it (i+1) k cps t nd hr ha S sd n2i ks po nf (bP w.params q (c,u)) m sl N eN y D l)):
 ab (env w) (eJ w.params fr lc it i k cps t nd hr ha S sd n2i ks po nf (bP w.params q E) m sl N eN (c::y) I l):=by
 let s:∀{w:E9} (p:List (Nat×Nat)) {fr lc it i:Nat} {k:Nat×Nat×Nat×Nat×Nat} {cps:List Nat} {t nd hr ha S sd n2i:Nat} {ks:Nat×Nat×Nat×Nat} {po nf:Int×Nat} {q:Nat} {E:Nat×Nat} {m:Nat} {sl:SL} {N:List NL} {eN:Nat} {c:Nat} {y:List Nat} {I:List ai} {l:Nat} (a n:Nat) (R:ao) (h:cps[i]? =some c) (f:look? (aM N) c=some a) (b:(bh N).Perm ([(a,ae ((p:List (Nat×Nat)).map cv) n)]++R)) (F:au N c=p) (d:eY I c p) (g:∀(q u m l:Nat) (D:List ai) (r:ai),D=cm (c,u) p (I++[r])->r.node=(c,u)->r.np.1=((p:List (Nat×Nat)).length:Nat)->r.su=[]->ab (env w) (eJ w.params fr lc it (i+1) k cps t nd hr ha S sd n2i ks po nf (bP w.params q (c,u)) m sl N eN y D l)) (o:p.length<=8),PP (env w) (eJ w.params fr lc it i k cps t nd hr ha S sd n2i ks po nf (bP w.params q E) m sl N eN (c::y) I l):= @λw p fr lc it i k cps t nd hr ha S sd n2i ks po nf q E m sl N eN c y I l a n R h f b F d g o _ P=>
  .view [] [1] _ _ _ _ (bw b)
  (.seg 137455738881 λQ=>
  .use _ (eH w it t i cps c h) [1] [] λB W=>
  .seg 0x8001008008008004004004001000001000000000005000004004000000000000000000004001000000000004003003003 λT=>
  .use _ (dW w nd (Fz "dict") none eN c B (aM N) a f) [7] [] λx4 X=>
  .seg 4100 λO=>
  .use _ (l5 cv w (O 0) 0 a n (p) (by omega)) [0,3] [] λx6 Y=>
  .seg 0x4001000004001 λU=>
  .use _ (vX w S sd ks n2i po nf l c B (p) I d (by omega)) [6,6,6] [1] λj o=>have G:j.1=cm (c,B) p (I++[j.2.2]):=(Fx o);have H:j.2.2.node=(c,B):=(Fx (Fg o));have J:j.2.2.np.1=(↑(Fo p):Int):=(Fx (Fg (Fg o)));have L:j.2.2.su=[]:=(Fg (Fg (Fg o)));
  .seg 0 λV=>
  .view [4] [1] _ _ _ _ (aX b.symm)
  (.use _ (g q B m (j.2.1) (j.1) (j.2.2) G H J L) [6,6,0,0,0,1] [1,0] λA M=>
  P ((A.1,A.2.1,A.2.2.1,(A.2.2.2.1.1,A.2.2.2.1.2),A.2.2.2.2)) ⟨B,j.2.2,j.1,by rw[F];exact G,H,by rw[F];exact J,L,M⟩ [] [0,0,0,0,0] [0,0]))
 obtain⟨x,R,Z,e,f,hp,b⟩:=iY C.ndN (C.mem c E2)
 obtain⟨d,o⟩:=C.add
 obtain⟨xc,v,p,n⟩:=x
 simp only at hp f b
 rw[hp]at d o g
 rcases p with _ | ⟨p0,p⟩
 .exact av (s _ v n R h f b hp d g (by simp))
 rcases p with _ | ⟨p1,p⟩
 .exact av (s _ v n R h f b hp d g (by simp))
 rcases p with _ | ⟨p2,p⟩
 .exact av (s _ v n R h f b hp d g (by simp))
 rcases p with _ | ⟨p3,p⟩
 .exact av (s _ v n R h f b hp d g (by simp))
 rcases p with _ | ⟨p4,p⟩
 .exact av (s _ v n R h f b hp d g (by simp))
 rcases p with _ | ⟨p5,p⟩
 .exact av (s _ v n R h f b hp d g (by simp))
 rcases p with _ | ⟨p6,p⟩
 .exact av (s _ v n R h f b hp d g (by simp))
 rcases p with _ | ⟨p7,p⟩
 .exact av (s _ v n R h f b hp d g (by simp))
 rcases p with _ | ⟨p8,p⟩
 .exact av (s _ v n R h f b hp d g (by simp))
 .simp at o
theorem B1 (i:Nat) (m:Nat) (c:Nat) (v:List Nat) (I:List ai) (l:Nat) (h:cps[i]? =some c) (C:d8 N (c::v) I)
 (g:∀(E u m l:Nat) (B:List ai) (q:ai),B=cm (c,u) (au N c) (I++[q])->q.node=(c,u)->q.np.1=((au N c).length:Nat)->q.su=[]->ab (env w) (eJ w.params fr lc it (i+1) k cps t nd hr ha S sd n2i ks po nf (bP w.params E (c,u)) m sl N eN v B l)):
 ab (env w) (eJ w.params fr lc it i k cps t nd hr ha S sd n2i ks po nf [] m sl N eN (c::v) I l):=by
 let r:∀{w:E9} (p:List (Nat×Nat)) {fr lc it i:Nat} {k:Nat×Nat×Nat×Nat×Nat} {cps:List Nat} {t nd hr ha S sd n2i:Nat} {ks:Nat×Nat×Nat×Nat} {po nf:Int×Nat} {m:Nat} {sl:SL} {N:List NL} {eN:Nat} {c:Nat} {v:List Nat} {I:List ai} {l:Nat} (a n:Nat) (R:ao) (h:cps[i]? =some c) (f:look? (aM N) c=some a) (b:(bh N).Perm ([(a,ae ((p:List (Nat×Nat)).map cv) n)]++R)) (D:au N c=p) (d:eY I c p) (g:∀(E u m l:Nat) (B:List ai) (q:ai),B=cm (c,u) p (I++[q])->q.node=(c,u)->q.np.1=((p:List (Nat×Nat)).length:Nat)->q.su=[]->ab (env w) (eJ w.params fr lc it (i+1) k cps t nd hr ha S sd n2i ks po nf (bP w.params E (c,u)) m sl N eN v B l)) (o:p.length<=8),PP (env w) (eJ w.params fr lc it i k cps t nd hr ha S sd n2i ks po nf [] m sl N eN (c::v) I l):= @λw p fr lc it i k cps t nd hr ha S sd n2i ks po nf m sl N eN c v I l a n R h f b D d g o _ P=>
  .view [] [1] _ _ _ _ (bw b)
  (.seg 137455738881 λQ=>
  .use _ (eH w it t i cps c h) [1] [] λA V=>
  .seg 0x8001008008008004004004001000001000000000005000004004000000000000000000004001000000000004003003003 λO=>
  .use _ (dW w nd (Fz "dict") none eN c A (aM N) a f) [7] [] λx4 W=>
  .seg 4100 λL=>
  .use _ (l5 cv w (L 0) 0 a n (p) (by omega)) [0,3] [] λx6 X=>
  .seg 0x4001000004001 λT=>
  .use _ (vX w S sd ks n2i po nf l c A (p) I d (by omega)) [6,6,6] [1] λj o=>have F:j.1=cm (c,A) p (I++[j.2.2]):=(Fx o);have G:j.2.2.node=(c,A):=(Fx (Fg o));have H:j.2.2.np.1=(↑(Fo p):Int):=(Fx (Fg (Fg o)));have J:j.2.2.su=[]:=(Fg (Fg (Fg o)));
  .seg 0 λU=>
  .view [4] [1] _ _ _ _ (aX b.symm)
  (.use _ (g (O 0) A (m+1) (j.2.1) (j.1) (j.2.2) F G H J) [6,6,0,0,0,1] [1,0] λy M=>
  P ((y.1,y.2.1,y.2.2.1,(y.2.2.2.1.1,y.2.2.2.1.2),y.2.2.2.2)) ⟨A,j.2.2,j.1,by rw[D];exact F,G,by rw[D];exact H,J,M⟩ [] [0,0,0,0,0] [0,0]))
 obtain⟨x,R,Y,e,f,hp,b⟩:=iY C.ndN (C.mem c E2)
 obtain⟨d,o⟩:=C.add
 obtain⟨xc,s,p,n⟩:=x
 simp only at hp f b
 rw[hp]at d o g
 rcases p with _ | ⟨Z,p⟩
 .exact av (r _ s n R h f b hp d g (by simp))
 rcases p with _ | ⟨p1,p⟩
 .exact av (r _ s n R h f b hp d g (by simp))
 rcases p with _ | ⟨p2,p⟩
 .exact av (r _ s n R h f b hp d g (by simp))
 rcases p with _ | ⟨p3,p⟩
 .exact av (r _ s n R h f b hp d g (by simp))
 rcases p with _ | ⟨p4,p⟩
 .exact av (r _ s n R h f b hp d g (by simp))
 rcases p with _ | ⟨p5,p⟩
 .exact av (r _ s n R h f b hp d g (by simp))
 rcases p with _ | ⟨p6,p⟩
 .exact av (r _ s n R h f b hp d g (by simp))
 rcases p with _ | ⟨p7,p⟩
 .exact av (r _ s n R h f b hp d g (by simp))
 rcases p with _ | ⟨p8,p⟩
 .exact av (r _ s n R h f b hp d g (by simp))
 .simp at o
theorem B3:∀(r:List Nat) (i h:Nat) (x:Nat×Nat) (g:Nat) (I:List ai) (f:Nat),cps.drop i=r->d8 N r I->ab (env w) (eJ w.params fr lc it i k cps t nd hr ha S sd n2i ks po nf (bP w.params h x) g sl N eN r I f):=by
 intro r
 induction r with
 | nil=>
  intro i h x g I f j C
  exact ct (λ_ p=>.seg 68736258049 λO=>.use _ (cJ w it t i cps (aV j)) [0] [] λv l=>.seg 4098 λq=>p ((I,f,h,(x.1,x.2),g)) rfl [] [3,3,3,3,3] [0,0])
 | cons c r o=>
  intro i h x g I f j C
  obtain⟨n,l⟩:=aQ j
  exact B0 w fr lc it k cps t nd hr ha S sd n2i ks po nf sl N eN i h x g c r I f n C λh u g f m s a b d e=>o (i+1) h (c,u) g m f l (C.next a b e).1
theorem B4 (g:Nat) (I:List ai) (f:Nat) (m:cps≠[]) (C:d8 N cps I):ab (env w) (eJ w.params fr lc it 0 k cps t nd hr ha S sd n2i ks po nf [] g sl N eN cps I f):=by
 obtain⟨c,r,e⟩:=FC m
 obtain⟨j,l⟩:=aQ (l:=cps) (i:=0) (x:=c) (r:=r) e
 have h:d8 N (c::r) I:=by rw[<-e];exact C
 have q:=B1 w fr lc it k cps t nd hr ha S sd n2i ks po nf sl N eN 0 g c r I f j h λn u g f i o a b d e=>B3 w fr lc it k cps t nd hr ha S sd n2i ks po nf sl N eN r 1 n (c,u) g i f l (h.next a b e).1
 rw[<-e]at q
 exact q
end
noncomputable def dS (P:E8):Stmt:=aA (tS P) 6
noncomputable def fk (P:E8):Expr:=bI (aA (aY (dS P)) 2)
noncomputable def eZ (P:E8):Expr:=bI (aA (aY (dS P)) 3)
noncomputable def aj (a:Nat):Obj:={cls:=.type "cell",data:=.cell (some (.ref a))}
noncomputable def ky (l:Nat):List (Str×Addr):=[(⟨⟨[108,101,102,116]⟩⟩,l)]
noncomputable def dn (P:E8) (e:Expr) (d i a h b k l n L ld f W w:Nat) (lo:List E6) (m:Nat) (g:MI) (ws j res:List (Nat×Nat)):af:={d:=35,α:=(Nat×(Nat×Nat))×Nat×Nat,c:=dE e 0 d a (b9 P k l) b (ky l),need:=[(d,aW "list_iterator" W i),(a,ae (j.map cv) h),(b,oD lo m),(l,aj L),(L,cO P ld g f),(W,ae (ws.map cv) w)],put:=λq=>[],new:=λq=>[(a,ae (res.map cv) q.2.1),(b,oD (bP P q.1.1 q.1.2) q.2.2),(l,aj L),(L,cO P ld g f),(W,ae (ws.map cv) w)],post:=λq=>True}
noncomputable def aP (l:MI) (ws:List (Nat×Nat)):List (Nat×Nat):=ws.filter λx=>decide (aa l x.1=0)
section
variable (w:E9) (it acc cl fr lc Lf ld le W wn:Nat) (lm:MI) (ws:List (Nat×Nat))
theorem uZ (I:ws.length<=900):∀(r:List (Nat×Nat)) (i a k:Nat) (f:Nat×Nat) (l:Nat) (b:List (Nat×Nat)),ws.drop i=r->b.length<=i->ab (env w) (dn w.params (fk w.params) it i acc a cl fr lc lc Lf ld le W wn (bP w.params k f) l lm ws b (b++aP lm r)):=by
 intro r
 induction r with
 | nil=>
  intro i a k f l b m p
  rw[show aP lm []=[]from rfl,FL]
  exact ct (λ_ j=>.seg 68736258049 λt=>.use _ (ch w it W i wn cv ws (aV m)) [0,4] [] λD h=>.seg 3 λu=>j (((k,f.1,f.2),a,l)) trivial [] [4,4,4,4,1] [])
 | cons x r q=>
  intro i a k f l b m p
  obtain⟨o,h⟩:=aQ m
  have J:i<ws.length:=(Fa.mp o).1
  have y:aa lm x.1=0->∀(a k l:Nat),ab (env w) (dn w.params (fk w.params) it (i+1) acc a cl fr lc lc Lf ld le W wn (bP w.params k x) l lm ws (b++[(x.1,x.2)]) (b++aP lm (x::r))):=λn a k l=>by
   have:=q (i+1) a k x l (b++[x]) h (by simp;omega)
   rw[Fp]at this
   simpa[aP,n]using this
  have A:¬aa lm x.1=0->∀(a k l:Nat),ab (env w) (dn w.params (fk w.params) it (i+1) acc a cl fr lc lc Lf ld le W wn (bP w.params k x) l lm ws b (b++aP lm (x::r))):=λn a k l=>by
   have:=q (i+1) a k x l b h (by omega)
   simpa[aP,n]using this
  exact av (have p:b.length<=1000:=(by omega);λ_ j=>.seg 68736258049 λt=>.use _ (cr w it W i wn cv ws x o) [0,4] [] λD h=>.seg 0x6001000000000006000006000000000006004005004004 λu=>.use _ (dF w Lf ld lm le (x.1) (x.2)) [5] [] λs H=>.seg 1 λO=>.or (aa lm x.1=0) (¬(aa lm x.1=0)) (FK _) (λe=>.use _ (g7 w (aa lm x.1) 0 s (O 0) e) [] [] λE B=>.seg 67112965 λv=>.use _ (dw w acc a b (x.1,x.2) (by omega)) [3] [] λd C=>.seg 0 λF=>.use _ (y e (a+1) k l) [2,0,2,2,0,0] [] λg G=>j (((g.1.1,g.1.2.1,g.1.2.2),g.2.1,g.2.2)) trivial [] [0,0,0,0,0] []) (λe=>.use _ (g8 w (aa lm x.1) 0 s (O 0) e) [] [] λE B=>.seg 0 λv=>.use _ (A e a k l) [1,2,2,2,0,0] [] λd C=>j (((d.1.1,d.1.2.1,d.1.2.2),d.2.1,d.2.2)) trivial [] [0,0,0,0,0] []))
theorem DC (j:ws.length<=900) (v:ws≠[]) (a l:Nat):ab (env w) (dn w.params (fk w.params) it 0 acc a cl fr lc lc Lf ld le W wn [] l lm ws [] (aP lm ws)):=by
 obtain⟨x,r,e⟩:=FC v
 obtain⟨s,h⟩:=aQ (l:=ws) (i:=0) (x:=x) (r:=r) e
 have p:aa lm x.1=0->∀(a k l:Nat),ab (env w) (dn w.params (fk w.params) it 1 acc a cl fr lc lc Lf ld le W wn (bP w.params k x) l lm ws ([]++[(x.1,x.2)]) (aP lm ws)):=λg a k l=>by
  have:=uZ w it acc cl fr lc Lf ld le W wn lm ws j r 1 a k x l [x] h (by simp)
  rw[e]
  rw[e]at this
  simpa[aP,g]using this
 have q:¬aa lm x.1=0->∀(a k l:Nat),ab (env w) (dn w.params (fk w.params) it 1 acc a cl fr lc lc Lf ld le W wn (bP w.params k x) l lm ws [] (aP lm ws)):=λg a k l=>by
  have:=uZ w it acc cl fr lc Lf ld le W wn lm ws j r 1 a k x l [] h (by simp)
  rw[e]
  rw[e]at this
  simpa[aP,g]using this
 exact av (have E:([]:List (Nat×Nat)).length<=1000:=(Gi _);λ_ n=>.seg 68736258049 λA=>.use _ (cr w it W 0 wn cv ws x s) [0,4] [] λF h=>.seg 0x6001000000000006000006000000000006004005004004 λO=>.use _ (dF w Lf ld lm le (x.1) (x.2)) [5] [] λm D=>.seg 1 λi=>.or (aa lm x.1=0) (¬(aa lm x.1=0)) (FK _) (λd=>.use _ (g7 w (aa lm x.1) 0 m (i 0) d) [] [] λy t=>.seg 67112965 λo=>.use _ (dw w acc a [] (x.1,x.2) (by omega)) [3] [] λb u=>.seg 0 λB=>.use _ (p d (a+1) (O 0) (l+1)) [2,0,2,2,0,0] [] λf C=>n (((f.1.1,f.1.2.1,f.1.2.2),f.2.1,f.2.2)) trivial [] [0,0,0,0,0] []) (λd=>.use _ (g8 w (aa lm x.1) 0 m (i 0) d) [] [] λy t=>.seg 0 λo=>.use _ (q d a (O 0) (l+1)) [1,2,2,2,0,0] [] λb u=>n (((b.1.1,b.1.2.1,b.1.2.2),b.2.1,b.2.2)) trivial [] [0,0,0,0,0] []))
theorem DA (h:ws.length<=900) (b:ws≠[]) (a l:Nat):ab (env w) {dn w.params (fk w.params) it 0 acc a cl fr lc lc Lf ld le W wn [] l lm ws [] (aP lm ws)with c:=bB (fk w.params) 0 it acc (b9 w.params fr lc) cl (ky lc)}:=
 dq gI (o:=aW "list_iterator" W 0) rfl (E2) (by kernel_rfl) (by kernel_rfl) rfl (DC w it acc cl fr lc Lf ld le W wn lm ws h b a l)
end
noncomputable def bA (l:MI) (ws:List (Nat×Nat)):List (Nat×Nat):=ws.filter λx=> !decide (aa l x.1=0)
section
variable (w:E9) (it acc cl fr lc Lf ld le W wn:Nat) (lm:MI) (ws:List (Nat×Nat))
theorem uY (I:ws.length<=900):∀(r:List (Nat×Nat)) (i a k:Nat) (f:Nat×Nat) (l:Nat) (b:List (Nat×Nat)),ws.drop i=r->b.length<=i->ab (env w) (dn w.params (eZ w.params) it i acc a cl fr lc lc Lf ld le W wn (bP w.params k f) l lm ws b (b++bA lm r)):=by
 intro r
 induction r with
 | nil=>
  intro i a k f l b m p
  rw[show bA lm []=[]from rfl,FL]
  exact ct (λ_ j=>.seg 68736258049 λt=>.use _ (ch w it W i wn cv ws (aV m)) [0,4] [] λD h=>.seg 3 λu=>j (((k,f.1,f.2),a,l)) trivial [] [4,4,4,4,1] [])
 | cons x r q=>
  intro i a k f l b m p
  obtain⟨o,h⟩:=aQ m
  have J:i<ws.length:=(Fa.mp o).1
  have y:¬aa lm x.1=0->∀(a k l:Nat),ab (env w) (dn w.params (eZ w.params) it (i+1) acc a cl fr lc lc Lf ld le W wn (bP w.params k x) l lm ws (b++[(x.1,x.2)]) (b++bA lm (x::r))):=λn a k l=>by
   have:=q (i+1) a k x l (b++[x]) h (by simp;omega)
   rw[Fp]at this
   simpa[bA,n]using this
  have A:aa lm x.1=0->∀(a k l:Nat),ab (env w) (dn w.params (eZ w.params) it (i+1) acc a cl fr lc lc Lf ld le W wn (bP w.params k x) l lm ws b (b++bA lm (x::r))):=λn a k l=>by
   have:=q (i+1) a k x l b h (by omega)
   simpa[bA,n]using this
  exact av (have p:b.length<=1000:=(by omega);λ_ j=>.seg 68736258049 λt=>.use _ (cr w it W i wn cv ws x o) [0,4] [] λD h=>.seg 0x6001000000000006000006000000000006004005004004 λu=>.use _ (dF w Lf ld lm le (x.1) (x.2)) [5] [] λs H=>.seg 1 λO=>.or (aa lm x.1=0) (¬(aa lm x.1=0)) (FK _) (λe=>.use _ (gn w (aa lm x.1) 0 s (O 0) e) [] [] λE B=>.seg 0 λv=>.use _ (A e a k l) [1,2,2,2,0,0] [] λd C=>j (((d.1.1,d.1.2.1,d.1.2.2),d.2.1,d.2.2)) trivial [] [0,0,0,0,0] []) (λe=>.use _ (us w (aa lm x.1) 0 s (O 0) e) [] [] λE B=>.seg 67112965 λv=>.use _ (dw w acc a b (x.1,x.2) (by omega)) [3] [] λd C=>.seg 0 λF=>.use _ (y e (a+1) k l) [2,0,2,2,0,0] [] λg G=>j (((g.1.1,g.1.2.1,g.1.2.2),g.2.1,g.2.2)) trivial [] [0,0,0,0,0] []))
theorem Dz (j:ws.length<=900) (v:ws≠[]) (a l:Nat):ab (env w) (dn w.params (eZ w.params) it 0 acc a cl fr lc lc Lf ld le W wn [] l lm ws [] (bA lm ws)):=by
 obtain⟨x,r,e⟩:=FC v
 obtain⟨s,h⟩:=aQ (l:=ws) (i:=0) (x:=x) (r:=r) e
 have p:¬aa lm x.1=0->∀(a k l:Nat),ab (env w) (dn w.params (eZ w.params) it 1 acc a cl fr lc lc Lf ld le W wn (bP w.params k x) l lm ws ([]++[(x.1,x.2)]) (bA lm ws)):=λg a k l=>by
  have:=uY w it acc cl fr lc Lf ld le W wn lm ws j r 1 a k x l [x] h (by simp)
  rw[e]
  rw[e]at this
  simpa[bA,g]using this
 have q:aa lm x.1=0->∀(a k l:Nat),ab (env w) (dn w.params (eZ w.params) it 1 acc a cl fr lc lc Lf ld le W wn (bP w.params k x) l lm ws [] (bA lm ws)):=λg a k l=>by
  have:=uY w it acc cl fr lc Lf ld le W wn lm ws j r 1 a k x l [] h (by simp)
  rw[e]
  rw[e]at this
  simpa[bA,g]using this
 exact av (have E:([]:List (Nat×Nat)).length<=1000:=(Gi _);λ_ n=>.seg 68736258049 λA=>.use _ (cr w it W 0 wn cv ws x s) [0,4] [] λF h=>.seg 0x6001000000000006000006000000000006004005004004 λO=>.use _ (dF w Lf ld lm le (x.1) (x.2)) [5] [] λm D=>.seg 1 λi=>.or (aa lm x.1=0) (¬(aa lm x.1=0)) (FK _) (λd=>.use _ (gn w (aa lm x.1) 0 m (i 0) d) [] [] λy t=>.seg 0 λo=>.use _ (q d a (O 0) (l+1)) [1,2,2,2,0,0] [] λb u=>n (((b.1.1,b.1.2.1,b.1.2.2),b.2.1,b.2.2)) trivial [] [0,0,0,0,0] []) (λd=>.use _ (us w (aa lm x.1) 0 m (i 0) d) [] [] λy t=>.seg 67112965 λo=>.use _ (dw w acc a [] (x.1,x.2) (by omega)) [3] [] λb u=>.seg 0 λB=>.use _ (p d (a+1) (O 0) (l+1)) [2,0,2,2,0,0] [] λf C=>n (((f.1.1,f.1.2.1,f.1.2.2),f.2.1,f.2.2)) trivial [] [0,0,0,0,0] []))
theorem Dx (h:ws.length<=900) (b:ws≠[]) (a l:Nat):ab (env w) {dn w.params (eZ w.params) it 0 acc a cl fr lc lc Lf ld le W wn [] l lm ws [] (bA lm ws)with c:=bB (eZ w.params) 0 it acc (b9 w.params fr lc) cl (ky lc)}:=
 dq gI (o:=aW "list_iterator" W 0) rfl (E2) (by kernel_rfl) (by kernel_rfl) rfl (Dz w it acc cl fr lc Lf ld le W wn lm ws h b a l)
end
noncomputable def aH (m:MI):List (Nat×Int):=m.map λx=>(x.1,x.2.2.1)
noncomputable def BF (P:E8):Stmt:=aA (aY (aA (aY (dS P)) 4)) 1
noncomputable def lW (P:E8) (k:Nat×Nat) (W V:Nat):List E6:=[es P [119,97,105,116,115] k.1 (.ref W),es P [108,101,118,101,108,115] k.2 (.ref V)]
noncomputable def tL (P:E8) (k:Nat×Nat) (st:Int×Nat) (O:Nat):List E6:=[es P [115,116,101,112] k.1 (iv st),es P [111,118,101,114] k.2 (.ref O)]
noncomputable def Bm (P:E8) (k:Nat) (Lv:Nat):List E6:=[es P [108,101,118,101,108] k (.ref Lv)]
noncomputable def oG (P:E8) (k:Nat×(Nat×Nat)×(Nat×Nat)×Nat) (x:Nat×Nat) (W V:Nat) (st:Int×Nat) (O Lv:Nat):List E6:=bP P k.1 x++(lW P k.2.1 W V++(tL P k.2.2.1 st O++Bm P k.2.2.2 Lv))
theorem uM {m:MI} {c:Nat} {v:Int×Nat} (h:look? m c=some v):aa m c=v.1:=by unfold aa;rw[h];rfl
theorem Dj {m:MI} {c:Nat} (h:c∉ak m):aa m c=0:=by
 have:look? m c=none:=tT λz a e=>h (Gl.mpr ⟨z,a,e⟩)
 unfold aa;rw[this];rfl
theorem zP {m:MI} {c t:Nat} {v:Int×Nat} (h:c∉ak m):aw m c t v=m++[(c,t,v)]:=lN λz a e=>h (Gl.mpr ⟨z,a,e⟩)
theorem EP {a b:MI} {c t:Nat} {v:Int×Nat} {d:MI} (h:ik [(c,t,v)] a b) (e:c∉ak a) (f:look? d c=some v):aH b=aH a++[(c,aa d c)]:=by
 obtain⟨u,h⟩:=h
 have h:b=aw a c t (v.1+aa a c,u):=h
 rw[h,zP e,Dj e,uM f]
 unfold aH
 simp
noncomputable def jW (P:E8) (f o j i:Nat) (k:Nat×Nat×Nat×Nat×Nat) (d:List Nat) (t nd g h S:Nat) (l:Nat×(Nat×Nat)×(Nat×Nat)×Nat) (u:Nat×Nat) (W V:Nat) (st:Int×Nat) (O Lv ld:Nat) (n:Nat) (s:SL) (ws:List (Nat×Nat)) (w m:Nat) (a:MI) (e:Nat) (r:List (Nat×Nat)) (b:MI) (q:Nat):af:={d:=50,α:=(MI×Nat)×(Nat×Nat)×Nat,c:=bR (BF P) (.ref j) (b9 P f o),need:=[(j,aW "list_iterator" W i),(f,eS P k d t nd g h S (oG P l u W V st O Lv) n s),(W,ae (ws.map cv) w),(Lv,cO P ld b q),(ld,oD [] m),(h,dO P (.type "dict") none iv a e)],new:=λx=>[(f,eS P k d t nd g h S (oG P l x.2.1 W V st O Lv) x.2.2 s),(W,ae (ws.map cv) w),(Lv,cO P ld x.1.1 x.1.2),(ld,oD [] m),(h,dO P (.type "dict") none iv a e)],post:=λx=>aH x.1.1=aH b++r.map (λp=>(p.1,aa a p.1))}
theorem oS (m:MI):ak m=(aH m).map (·.1):=by unfold ak aH;rw[GU];rfl
theorem oO (m:MI):m.length=(aH m).length:=by unfold aH;rw[Fq]
section
variable (w:E9) (fr lc it:Nat) (k:Nat×Nat×Nat×Nat×Nat) (cps:List Nat) (t nd hr ha S:Nat) (kA:Nat×(Nat×Nat)×(Nat×Nat)×Nat) (W V:Nat) (st:Int×Nat) (O Lv ld:Nat) (sl:SL) (ws:List (Nat×Nat)) (wn lde:Nat) (hm:MI) (eh:Nat)
theorem BD:∀(r:List (Nat×Nat)) (i:Nat) (d:Nat×Nat) (f:Nat) (a:MI) (l:Nat),ws.drop i=r->a≠[]->(ak a++r.map (·.1)).Nodup->a.length+r.length<=8->(∀p∈r,∃v,look? hm p.1=some v)->
 ab (env w) (jW w.params fr lc it i k cps t nd hr ha S kA d W V st O Lv ld f sl ws wn lde hm eh r a l):=by
 intro r
 induction r with
 | nil=>
  intro i d f a l j B g A m
  exact ct (have h:ws[i]? =none:=(aV j);λ_ q=>.seg 68736258049 λE=>.use _ (ch w it W i wn cv ws h) [0,1] [] λN u=>.seg 4099 λs=>q (((a,l),(d.1,d.2),f)) (show aH ((a,l),(d.1,d.2),f).1.1=aH a++Gx (λ(p:Nat×Nat)=>(p.1,aa hm p.1)) []from by simp) [] [4,1,3,3,3] [])
 | cons x r L=>
  intro i d f a l j B g A m
  obtain⟨F,u⟩:=aQ j
  obtain⟨v,C⟩:=m x E2
  obtain⟨n,J⟩:∃n,a.length=n+1:=⟨a.length-1,by have:=He.mpr B;omega⟩
  simp only[Fd]at A
  have hk:x.1∉ak a:=λz=>by
   rw[Fw,Gm]at g
   exact g.2.2 x.1 z x.1 E2 rfl
  exact av (have I:a.length<=8:=(by omega);have M:∀(f l:Nat) (e:MI),aH e=aH a++[(x.1,aa hm x.1)]->ab (env w) (jW w.params fr lc it (i+1) k cps t nd hr ha S kA x W V st O Lv ld f sl ws wn lde hm eh r e l):=(λf l e h=>L (i+1) x f e l u (λz=>by rw[z]at h;simp[aH]at h) (by
   rw[oS,h,Ff,<-oS,Fp]
   exact g) (by rw[oO e,h,FW,<-oO];simp only[Fd,Hh];omega) (λp hp=>m p (E4 _ hp)));λ_ q=>.seg 68736258049 λE=>.use _ (cr w it W i wn cv ws x F) [0,1] [] λN R=>.seg 0x7001007007007004004004005004000000000000004000000000004000000000004003003003 λs=>.use _ (cu w ha (Fz "dict") none eh (x.1) (x.2) hm v C) [6] [] λU T=>.seg 0x2002002002001001 λP=>.use _ (wY w Lv ld lde l (s 1) a ([(x.1,x.2,v)]) 1 n J I (by(simp;omega))) [5,5,1] [] λo G=>.seg 0 λQ=>have y:(aH o.1=aH a++[(x.1,aa hm x.1)]):=(EP G hk C); .use _ (M f (o.2) (o.1) y) [4,5,4,0,0,1] [] λb H=>q (((b.1.1,b.1.2),(b.2.1.1,b.2.1.2),b.2.2)) (show aH ((b.1.1,b.1.2),(b.2.1.1,b.2.1.2),b.2.2).1.1=aH a++Gx (λ(D:Nat×Nat)=>(D.1,aa hm D.1)) (x::r)from by rw[H,y,Fp];rfl) [] [0,0,0,0,0] [])
theorem BE (o:Nat×Nat) (f:Nat) (l:Nat) (B:ws≠[]) (j:(ws.map (·.1)).Nodup) (i:ws.length<=8) (d:∀p∈ws,∃v,look? hm p.1=some v):
 ab (env w) (jW w.params fr lc it 0 k cps t nd hr ha S kA o W V st O Lv ld f sl ws wn lde hm eh ws [] l):=by
 obtain⟨x,r,e⟩:=FC B
 obtain⟨u,y⟩:=aQ (l:=ws) (i:=0) (x:=x) (r:=r) e
 rw[e]at j i d
 obtain⟨v,m⟩:=d x E2
 simp only[Fd]at i
 have q:ab (env w) (jW w.params fr lc it 0 k cps t nd hr ha S kA o W V st O Lv ld f sl ws wn lde hm eh (x::r) [] l):=
  av (have C:∀(f l:Nat) (b:MI),aH b=aH []++[(x.1,aa hm x.1)]->ab (env w) (jW w.params fr lc it (0+1) k cps t nd hr ha S kA x W V st O Lv ld f sl ws wn lde hm eh r b l):=(λf l b h=>BD w fr lc it k cps t nd hr ha S kA W V st O Lv ld sl ws wn lde hm eh r 1 x f b l y (λz=>by rw[z]at h;simp[aH]at h) (by
   rw[oS,h,Ff]
   exact j) (by rw[oO b,h];simp[aH];omega) (λp hp=>d p (E4 _ hp)));λ_ E=>.seg 68736258049 λF=>.use _ (cr w it W 0 wn cv ws x u) [0,1] [] λM I=>.seg 0x7001007007007004004004005004000000000000004000000000004000000000004003003003 λs=>.use _ (cu w ha (Fz "dict") none eh (x.1) (x.2) hm v m) [6] [] λN J=>.seg 0x2002002002001001 λG=>.use _ (ql w Lv ld l (s 1) ([(x.1,x.2,v)]) 1 (by(simp;done)) (by simp[ak])) [5,1] [] λD L=>.seg 0 λH=>have g:(aH [(x.1,x.2,v)]=aH []++[(x.1,aa hm x.1)]):=(by rw[uM m];rfl); .use _ (C f D ([(x.1,x.2,v)]) g) [3,4,3,0,2,1] [] λa A=>E (((a.1.1,a.1.2),(a.2.1.1,a.2.1.2),a.2.2)) (show aH ((a.1.1,a.1.2),(a.2.1.1,a.2.1.2),a.2.2).1.1=aH []++Gx (λ(n:Nat×Nat)=>(n.1,aa hm n.1)) (x::r)from by rw[A,g,Fp];rfl) [] [0,0,0,0,0] [])
 rw[<-e]at q
 exact q
end
theorem DE {M:Model} {d:Ctx} (e:Env):∀(a b:List Stmt) {Q:Flow->Pos->Fe->Prop} {E:Fb->Pos->Fe->Prop} {p:Pos} {s:Fe},wp M d (Hd a e) (λf p s=>f=.next/\wp M d (Hd b e) Q E p s) E p s->wp M d (Hd (a++b) e) Q E p s
 | [],b,Q,E,p,s,h=>by
  have g:(Flow.next=.next)/\wp M d (Hd b e) Q E p s:=h
  exact g.2
 | x::a,b,Q,E,p,s,h=>by
  rw[H7,Ir,E7]
  rw[Ir,E7]at h
  refine Fu _ _ _ (λf p s h=>?_) (λ_ _ _ h=>h) _ _ h
  cases f with
  | next=>exact DE e a b h
  | _=>exact absurd (show _=Flow.next from(show(_=Flow.next)/\_ from h).1) (λz=>nomatch z)
noncomputable def gg (w:E9) (b:Ctx) (e:Env) (F:HI->Fe->Prop):Fb->Pos->Fe->Prop:=
 λx p s=>wp (FT pq w) b (do HU x e;Hf x) (λ_ p s=>F (.error x) s) (λa p s=>F (.error a) s) p s
theorem EF {w:E9} {T:af} {d:Nat} {b:Ctx} {p:Pos} {i s:Fe} {own:List Addr} {r:ao} {st:List Stmt} {e:Env} (h:ax (env w) T (Dn (.block st e))) (H:bt (env w) d b) (v:T.d<=d) (k:T.outer=none) (G:Go (env w).kt i own s (T.all++r)) {f0:Flow} (m:∀x,T.r x=.ok f0)
 {F:HI->Fe->Prop} {Q:Flow->Pos->Fe->Prop} (j:∀x a p,T.post x->Go (env w).kt i own a (T.res x++r)->Q f0 p a):wp (FT pq w) b (Hd st e) Q (gg w b e F) p s:=by
 have l:dQ T.d b:=⟨by have:=H.hl.cnt;omega,by have:=H.hl.units;omega⟩
 have q:=h b H.hh (λes z=>by rw[k]at z;cases z) l p s (λr a=>match r with|.ok f=>∀p,Q f p a |.error x=>F (.error x) a) G.sub.pre (λx a n A=>by
  rw[m]
  exactλp=>j x a p n (G.stepR A))
 have t:=l.cnt
 have u:=l.units
 have o:=mJ (jc w.params) (.block st e) b (by omega) (by omega) p s _ _ q
 have g:wp (FT pq w) b ((Hd st e).onRaise (λx=>do HU x e;Hf x)>>=λf=>pure (.done f)) (finPost (FT pq w) b λr a=>match r with|.ok f=>∀p,Q f p a |.error x=>F (.error x) a) (λx _ a=>F (.error x) a) p s:=o
 rw[E7,Gu]at g
 exact Fu _ _ _ (λf p s h=>h p) (λx p s h=>h) _ _ g
theorem zJ {w:E9} {kt:Nat->Option Obj} {d:Type} {n:String} {f:Unit->Sem d}:Q2 w kt (f ()) (cRoom n>>=f):=λe a b p s Q E g=>by
 rw[E7,Sem.wp_cRoom]
 exact⟨lp b,Fu _ _ _ (λ_ _ _ h=>h.2) (λ_ _ _ h=>h.2) _ _ g⟩
theorem zL {w:E9} {kt:Nat->Option Obj} {f:Type} {vs:List Fb} {d t:Sem f} (h:Q2 w kt d t):Q2 w kt d (holding vs t):=λe a b p s Q E g=>by
 rw[HQ]
 exact h e a b p s Q E g
noncomputable def lK (o:CmpOp) (x:Nat) (b:Fb):Qk (richCompare o (.ref x) b):=by
 delta richCompare
 exact⟨_,λw kt k=>zL (zJ (n:="comparison") (f:=_))⟩
noncomputable def py (w:E9) (d:Ctx) (l r:Expr) (o:CmpOp) (f:Env) (K:Fb->Pos->Fe->Prop) (E:Fb->Pos->Fe->Prop) (p:Pos) (s:Fe):Prop:=
 wp (FT pq w) d (eval l f) (λa p s=>∃x,a=.ref x/\wp (FT pq w) d (eval r f) (λb p s=>∀p,wp (FT pq w) d (lK o x b).val (λc p s=>ca (kt w.params) s.heap/\K c p s) (λe p s=>ca (kt w.params) s.heap/\E e p s) p s) E p s) E p s
theorem Er {w:E9} {g:Ctx} {d:Nat} (H:bt (env w) d g) {l r:Expr} {o:CmpOp} {j:Pos} {f:Env} {X:Sem Fb} (m:behindInMarks o r=false) (n:∀a b,compareOp o a b=richCompare o a b) {p:Pos} {s:Fe} {Q:Bool->Pos->Fe->Prop} {E:Fb->Pos->Fe->Prop}
 (h:py w g l r o f (λc p s=>∃i,c=.bool i/\Q i p s) E p s):
 wp (FT pq w) g (isTrue (.Compare l [o] [r] j) f X) Q E p s:=by
 have t:=H.hl.cnt
 have u:=H.hl.units
 show wp _ _ (eval l f>>=λa=>testChain j a [o] [H4 o r (eval r f)]) _ _ p s
 rw[E7]
 refine Fu _ _ _ (λa p s h=>?_) (λ_ _ _ h=>h) _ _ h
 obtain⟨x,rfl,h⟩:=h
 have e:H4 o r (eval r f)=eval r f:=by unfold H4;rw[m]
 rw[e]
 unfold testChain
 rw[E7,HQ]
 refine Fu _ _ _ (λb p s h=>?_) (λ_ _ _ h=>h) _ _ h
 rw[E7]
 refine aL (GB λp=>?_)
 rw[E7,Sem.wp_operate,n]
 refine(lK o x b).ok w (kt w.params) (jc w.params) g (by omega) (by omega) p s _ _ ?_
 refine Fu _ _ _ (λc p s h=>?_) (λ_ _ _ h=>h) _ _ (h p)
 obtain⟨k,i,rfl,q⟩:=h
 refine⟨k, ?_⟩
 rw[HQ]
 exact q
noncomputable def bg (C:ao):List ao:=C.map λc=>[c]
theorem jo:∀C:ao,(bg C).flatten=C
 | []=>rfl
 | c::C=>by show[c]++(bg C).flatten=_;rw[jo C];rfl
noncomputable def bp (T:af) (x:T.α) (r:List ao):List ao:=bg ((T.need.map (·.1)).zip (T.put x)++T.new x)++((T.putB x++T.newB x)++r)
theorem gS {i:List Nat} {A:List ao} {T:af} {r:List ao} (h:take i (bg T.need++T.needB) A (· =r)):A.flatten.Perm (T.all++r.flatten):=by
 obtain⟨a,p,rfl⟩:=bW h
 refine p.flatten.trans (.of_eq ?_)
 rw[Gf,Gf,jo]
 rfl
theorem eK {T:af} (x:T.α) (r:List ao):T.res x++r.flatten=(bp T x r).flatten:=by
 unfold bp af.res
 simp only[Gf,jo,Fp]
section
variable {w:E9} {T:af} {d:Nat} {Γ:Ctx} {p:Pos} {s0 s:Fe} {own:List Addr} {A r:List ao}
theorem ma (l:List Nat) {t:Sem Fb} (h:ax (env w) T (tV t)) (H:bt (env w) d Γ) (f:T.d<=d) (g:T.outer=none) (G:Go (env w).kt s0 own s A.flatten) (j:take l (bg T.need++T.needB) A (· =r)) {v0:T.α->Fb} (i:∀x,T.r x=.ok (.ret (v0 x)))
 {Q:Fb->Pos->Fe->Prop} {E:Fb->Pos->Fe->Prop} (e:∀x a p,T.post x->Go (env w).kt s0 own a (bp T x r).flatten->Q (v0 x) p a):wp (FT pq w) Γ t Q E p s:=
 j3 h H f g (r:=r.flatten) (G.perm (gS j)) i λx a p k b=>e x a p k (Go.eq b (eK x r))
theorem Dh (l:List Nat) {t:Sem Flow} (h:ax (env w) T (tF t)) (H:bt (env w) d Γ) (f:T.d<=d) (g:T.outer=none) (G:Go (env w).kt s0 own s A.flatten) (j:take l (bg T.need++T.needB) A (· =r)) {f0:Flow} (i:∀x,T.r x=.ok f0)
 {Q:Flow->Pos->Fe->Prop} {E:Fb->Pos->Fe->Prop} (e:∀x a p,T.post x->Go (env w).kt s0 own a (bp T x r).flatten->Q f0 p a):wp (FT pq w) Γ t Q E p s:=
 iR h H f g (r:=r.flatten) (G.perm (gS j)) i λx a p k b=>e x a p k (Go.eq b (eK x r))
theorem uL (l:List Nat) {t:Sem Flow} (h:ax (env w) T (tF t)) (H:bt (env w) d Γ) (m:T.d<=d) (k:T.outer=none) (G:Go (env w).kt s0 own s A.flatten) (g:take l (bg T.need++T.needB) A (· =r)) {v0:T.α->Flow} (e:∀x,T.r x=.ok (v0 x))
 {Q:Flow->Pos->Fe->Prop} {E:Fb->Pos->Fe->Prop} (j:∀x b p,T.post x->Go (env w).kt s0 own b (bp T x r).flatten->Q (v0 x) p b):wp (FT pq w) Γ t Q E p s:=
 h.flow Γ H.hh (λes z=>by rw[k]at z;cases z) ⟨by have:=H.hl.cnt;omega,by have:=H.hl.units;omega⟩ p s (G.perm (gS g)).sub.pre
  (λx b p f i A a=>by rw[e]at a;cases a;exact j x b p i (Go.eq ((G.perm (gS g)).stepR A) (eK x r))) (λx b p v i A a=>by rw[e]at a;cases a)
theorem Di (m:List Nat) {st:List Stmt} {e:Env} (h:ax (env w) T (Dn (.block st e))) (H:bt (env w) d Γ) (g:T.d<=d) (i:T.outer=none) (G:Go (env w).kt s0 own s A.flatten) (k:take m (bg T.need++T.needB) A (· =r)) {f0:Flow} (j:∀x,T.r x=.ok f0)
 {F:HI->Fe->Prop} {Q:Flow->Pos->Fe->Prop} (f:∀x a p,T.post x->Go (env w).kt s0 own a (bp T x r).flatten->Q f0 p a):wp (FT pq w) Γ (Hd st e) Q (gg w Γ e F) p s:=
 EF h H g i (r:=r.flatten) (G.perm (gS k)) j λx a p l b=>f x a p l (Go.eq b (eK x r))
end
noncomputable def zi (P:E8) (S s:Nat) (k:Nat×Nat×Nat×Nat) (n r d:Nat) (p a:Int×Nat) (e:List (Nat×Nat)) (b:Bool):af:={d:=20,α:=Unit,c:=.call (.ref 1182) ⟨[.ref S],[]⟩,need:=[(S,bd s),(s,be P k n (.ref r) p a),(r,ae (e.map cv) d)],r:=λ_=>.ok (.ret (.bool b)),put:=λx=>[bd s,be P k n (.ref r) p a,ae (e.map cv) d]}
theorem v6 (w:E9) (S j:Nat) (k:Nat×Nat×Nat×Nat) (f r g:Nat) (d n:Int×Nat) (a:List (Nat×Nat)) (b:Bool) (o:(decide (n.1<d.1) || !a.isEmpty)=b) (y:a.length<=100000):ab (env w) (zi w.params S j k f r g d n a b):=by
 intro B t u l v p s F P m
 refine ET w S j k f r g d n a y B t u l v p s F P λx i h A=>?_
 have h:x=(decide (n.1<d.1) || !a.isEmpty):=h
 have q:=m () i trivial A
 have e:x=b:=h.trans o
 show F (.ok (.ret (.bool x))) i
 rw[e];exact q
structure Lv where
 a:Nat
 dd:Nat
 m:MI
 ep:Nat
 de:Nat
noncomputable def Lv.cells (P:E8) (l:Lv):ao:=[(l.a,cO P l.dd l.m l.ep),(l.dd,oD [] l.de)]
noncomputable def bq (P:E8) (L:List Lv):ao:=L.flatMap (Lv.cells P)
noncomputable def aD (L:List Lv):List Nat:=L.map (·.a)
theorem BC (P:E8) (L:List Lv) (l:Lv):(l.cells P++bq P L).Perm (bq P (L++[l])):=by
 unfold bq
 rw[HL]
 simp only[GP,List.flatMap_nil,FL]
 exact FG
theorem BG (L:List Lv) (l:Lv) (n:Nat):ae ((aD L++[l.a]).map .ref) n=ae ((aD (L++[l])).map .ref) n:=by unfold aD;simp
noncomputable def db (r:List (Nat×Nat)) (I:List ai):List ai:=r.foldl (λI p=>aJ p.1 (aO (-1) 1766) I) I
theorem vc:∀{b:List (Nat×Nat)} {I a:List ai} {r d:List (Nat×Nat)},ec b I r a d->ay a=ay I
 | [],_,_,_,_,h=>by rw[h.1]
 | p::b,I,a,r,d,⟨u,g,i,e,f⟩=>(vc f).trans ((cI.keeps e).1.trans (jh (bX _ _) I))
theorem DB (w:E9) (i a b f l L ld g W j:Nat) (d:MI) (ws res:List (Nat×Nat)) (n:aP d ws=res) (k:ws.length<=900) (m:ws≠[]) (e h:Nat):ab (env w) {dn w.params (fk w.params) i 0 a e b f l l L ld g W j [] h d ws [] res with c:=bB (fk w.params) 0 i a (b9 w.params f l) b (ky l)}:=by
 subst n;exact DA w i a b f l L ld g W j d ws k m e h
theorem Dy (w:E9) (i a b f l L ld g W j:Nat) (d:MI) (ws res:List (Nat×Nat)) (n:bA d ws=res) (k:ws.length<=900) (m:ws≠[]) (e h:Nat):ab (env w) {dn w.params (eZ w.params) i 0 a e b f l l L ld g W j [] h d ws [] res with c:=bB (eZ w.params) 0 i a (b9 w.params f l) b (ky l)}:=by
 subst n;exact Dx w i a b f l L ld g W j d ws k m e h
noncomputable abbrev KA:=Nat×(Nat×Nat)×(Nat×Nat)×Nat
noncomputable def tK (P:E8) (k:KA) (x:Nat×Nat) (W V:Nat) (q:Option ((Int×Nat)×Nat×Option Nat)):List E6:=match q with
 | none=>bP P k.1 x++lW P k.2.1 W V
 | some (st,O,none)=>bP P k.1 x++(lW P k.2.1 W V++tL P k.2.2.1 st O)
 | some (st,O,some Lv)=>oG P k x W V st O Lv
noncomputable def iL (w:E9) (f l i:Nat) (v A:Int) (H J M:Nat) (k:Nat×Nat×Nat×Nat×Nat) (d:List Nat) (t nd m h S s n:Nat) (p:Nat×Nat×Nat×Nat) (r F:Nat) (D C:Int×Nat) (o:KA) (P:Nat×Nat) (W O V N:Nat) (q:Option ((Int×Nat)×Nat×Option Nat)) (j:Nat) (G:SL) (a ld y u:Nat) (B b:MI) (e:Nat) (ws E:List (Nat×Nat)) (I:List ai) (g:Nat) (L:List Lv) (Q:List Lv->Prop):af:={d:=75,α:=List Lv×Nat,c:=bR (dS w.params) (.ref i) (b9 w.params f l),need:=[(i,bG v A 1 H J M),(f,eS w.params k d t nd m h S (tK w.params o P W V q) j G),(S,bd s),(s,be w.params p n (.ref r) D C),(n,dO w.params (.type "dict") none .ref (ay I) g),(r,ae (E.map cv) F),(l,aj a),(a,cO w.params ld B y),(ld,oD [] u),(W,ae (ws.map cv) O),(V,ae ((aD L).map .ref) N),(h,dO w.params (.type "dict") none iv b e)],r:=λx=>.ok (.ret (.ref V)),new:=λx=>[(V,ae ((aD x.1).map .ref) x.2),(h,dO w.params (.type "dict") none iv b e)],post:=λx=>Q x.1,needB:=[aB I,bq w.params L],putB:=λx=>[bq w.params x.1]}
noncomputable def oE (P:E8) (k:KA) (x:Nat×Nat) (W V:Nat) (a:Nat) (st:Int×Nat):List E6:=bP P k.1 x++(lW P k.2.1 W V++[es P [115,116,101,112] a (iv st)])
noncomputable def dz (P:E8) (k:Nat×Nat×Nat×Nat×Nat) (a:List Nat) (t nd b h S:Nat) (d:KA) (x:Nat×Nat) (W V:Nat) (q:Option ((Int×Nat)×Nat×Option Nat)) (f:Nat) (s:SL):Obj:=eS P k a t nd b h S (tK P d x W V q) f s
noncomputable def b1 (P:E8):List Stmt:=(aY (dS P)).take 4
noncomputable def s4 (P:E8):Stmt:=aA (aY (dS P)) 4
noncomputable def b3 (P:E8):List Stmt:=(aY (dS P)).drop 5
noncomputable def fR (e:Expr):Expr:=(eP e).1
noncomputable def dM (e:Expr):Expr:=(eP e).2.1
noncomputable def yy (i:Nat) (v l:Int) (a b t:Nat):af:={d:=5,α:=Nat,need:=[(i,bG v l 1 a b t)],r:=λu=>.ok (.ret (.int v u)),put:=λu=>[bG (v+1) (l-1) 1 0 0 t]}
noncomputable def zg (P:E8) (e:Nat) (k:Nat×Nat×Nat×Nat×Nat) (a:List Nat) (t nd b h S:Nat) (d:KA) (x:Nat×Nat) (W V:Nat) (f:Nat) (s:SL) (v:Int×Nat):af:={d:=5,α:=Nat×Nat,need:=[(e,dz P k a t nd b h S d x W V none f s)],put:=λu=>[eS P k a t nd b h S (oE P d x W V u.1 v) u.2 s]}
noncomputable def sF (P:E8) (e:Nat) (k:Nat×Nat×Nat×Nat×Nat) (a:List Nat) (t nd b h S:Nat) (d:KA) (x:Nat×Nat) (W V:Nat) (st:Int×Nat) (O:Nat) (l:Option Nat) (f:Nat) (s:SL) (v:Int×Nat):af:={d:=5,α:=Nat,need:=[(e,dz P k a t nd b h S d x W V (some (st,O,l)) f s)],put:=λu=>[dz P k a t nd b h S d x W V (some (v,O,l)) u s]}
noncomputable def te (w:E9) (b:Nat) (l:Nat) (k:Nat×Nat×Nat×Nat×Nat) (a:List Nat) (t nd d h S:Nat) (e:KA) (x:Nat×Nat) (W V:Nat) (f:Nat) (s:SL) (v:Int×Nat):PP (env w) (zg w.params b k a t nd d h S e x W V f s v):=λ_ g=>
 .seg 4097 λO=>
 g (O 0,f+1) trivial [0] [] []
noncomputable def td (w:E9) (b:Nat) (l:Nat) (k:Nat×Nat×Nat×Nat×Nat) (a:List Nat) (t nd d h S:Nat) (e:KA) (x:Nat×Nat) (W V:Nat) (st:Int×Nat) (O:Nat) (f:Nat) (s:SL) (v:Int×Nat):PP (env w) (sF w.params b k a t nd d h S e x W V st O none f s v):=λ_ g=>
 .seg 4097 λi=>
 g (f) trivial [0] [] []
noncomputable def tc (w:E9) (b:Nat) (l:Nat) (k:Nat×Nat×Nat×Nat×Nat) (a:List Nat) (t nd d h S:Nat) (e:KA) (x:Nat×Nat) (W V:Nat) (st:Int×Nat) (O:Nat) (L:Nat) (f:Nat) (s:SL) (v:Int×Nat):PP (env w) (sF w.params b k a t nd d h S e x W V st O (some L) f s v):=λ_ g=>
 .seg 4097 λi=>
 g (f) trivial [0] [] []
noncomputable def lJ (C:ao) (f:Flow):af:={d:=30,α:=Unit,need:=C,r:=λ_=>.ok f,put:=λ_=>C.map (·.2)}
noncomputable def sE (P:E8) (h m:Nat) (F:Obj) (k:Nat×Nat×Nat×Nat×Nat) (g:List Nat) (t nd j i S:Nat) (y:Nat×Nat) (W V:Nat) (o:Option Nat) (st:Int×Nat) (u:SL) (s n:Nat) (b:Nat×Nat×Nat×Nat) (a q:Nat) (p f:Int×Nat) (w L ld l:Nat) (d:MI) (ws r os v:List (Nat×Nat)) (I:List ai) (e:Nat):af:={d:=42,α:=(Nat×Nat×Nat×Nat)×(Nat×Nat)×KA×Nat,need:=[(h,F),(S,bd s),(s,be P b n (.ref a) p f),(n,dO P (.type "dict") none .ref (ay I) e),(a,ae (r.map cv) q),(m,aj L),(L,cO P ld d l),(W,ae (ws.map cv) w)],put:=λx=>[dz P k g t nd j i S x.2.2.1 y x.1.1 V (some (st,x.1.2.2.1,o)) x.2.2.2 u,bd s,be P b n (.ref a) (p.1+r.length,x.2.1.1) f,dO P (.type "dict") none .ref (ay (db r I)) e,ae [] x.2.1.2,aj L,cO P ld d l],new:=λx=>[(x.1.1,ae (v.map cv) x.1.2.1),(x.1.2.2.1,ae (os.map cv) x.1.2.2.2)],needB:=[aB I],putB:=λ_=>[aB (db r I)]}
noncomputable def rF:af:={d:=5,α:=Nat,need:=[],r:=λz=>.ok (.ret (.ref z)),new:=λz=>[(z,ae [] 0)]}
noncomputable def sD (P:E8) (i m:Nat) (F:Obj) (k:Nat×Nat×Nat×Nat×Nat) (g:List Nat) (t nd j b S:Nat) (W V:Nat) (st:Int×Nat) (O:Nat) (s:SL) (f v a ld n l:Nat) (d h:MI) (e:Nat) (w:List (Nat×Nat)) (L:List Lv):af:={d:=65,α:=(Lv×Nat×MI×Nat)×(KA×(Nat×Nat)×Nat),need:=[(i,F),(W,ae (w.map cv) f),(V,ae ((aD L).map .ref) v),(m,aj a),(a,cO P ld d n),(ld,oD [] l),(b,dO P (.type "dict") none iv h e)],put:=λx=>[dz P k g t nd j b S x.2.1 x.2.2.1 W V (some (st,O,some x.1.1.a)) x.2.2.2 s,ae (w.map cv) f,ae ((aD (L++[x.1.1])).map .ref) x.1.2.1,aj a,cO P ld x.1.2.2.1 x.1.2.2.2,oD [] l,dO P (.type "dict") none iv h e],post:=λx=>aH x.1.1.m=w.map (λp=>(p.1,aa h p.1))/\jz w d x.1.2.2.1,needB:=[bq P L],putB:=λx=>[bq P (L++[x.1.1])]}
noncomputable def sC (P:E8) (f:Nat) (F:Obj) (S s n:Nat) (k:Nat×Nat×Nat×Nat) (r b:Nat) (p a:Int×Nat) (O o:Nat) (os:List (Nat×Nat)) (I:List ai) (e:Nat):af:={d:=40,α:=List ai×List (Nat×Nat)×(Int×Nat)×Nat,need:=[(f,F),(S,bd s),(s,be P k n (.ref r) p a),(n,dO P (.type "dict") none .ref (ay I) e),(r,ae [] b),(O,ae (os.map cv) o)],put:=λx=>[F,bd s,be P k n (.ref r) p x.2.2.1,dO P (.type "dict") none .ref (ay x.1) e,ae (x.2.1.map cv) x.2.2.2,ae (os.map cv) o],post:=λx=>ec os I [] x.1 x.2.1/\x.2.2.1.1=a.1+os.length,needB:=[aB I],putB:=λx=>[aB x.1]}
noncomputable def sZ (s:Stmt):Pos:=(sP s).2.2.2.2.2.1
noncomputable def pv (e:Expr):Pos:=(eP e).2.2.1
theorem mM {M:Model} {a:Ctx} {b:Type}:∀(t:Sem b) (p:Pos) (s:Fe),¬wp M a t (λ_ _ _=>False) (λ_ _ _=>False) p s:=by
 intro t
 induction t<;>intro p s h<;>rw[Sem.wp]at h
 all_goals first
  | exact h
  | (rename_i i;exact i _ _ _ h)
  | (rename_i i;obtain⟨_,_,h⟩:=h;exact i _ _ _ h)
  | (rename_i i;obtain⟨_,h⟩:=h;exact i _ _ _ h)
  | (rename_i i;obtain⟨_,_,_,h⟩:=h;exact i _ _ _ h)
theorem Et {w:E9} {g:Ctx} {d:Nat} (H:bt (env w) d g) {l r:Expr} {o:CmpOp} {i m:Pos} {f:Env} (j:behindInMarks o r=false) (k:∀a b,compareOp o a b=richCompare o a b) {p:Pos} {s:Fe} {Q:Flow->Pos->Fe->Prop} {E:Fb->Pos->Fe->Prop}
 (h:∀p,py w g l r o f (λc=>Q (.ret c)) E p s):
 wp (FT pq w) g (exec (.Return (some (.Compare l [o] [r] i)) m) f) Q E p s:=by
 have n:=H.hl.cnt
 have q:=H.hl.units
 rw[arm_exec_Return,E7]
 refine aL (GB λp=>?_)
 show wp _ _ (eval (.Compare l [o] [r] i) f>>=λv=>pure (Flow.ret v)) _ _ p s
 rw[E7,arm_eval_Compare]
 show wp _ _ (eval l f>>=λa=>compareChain i a [o] [H4 o r (eval r f)]) _ _ p s
 rw[E7]
 refine Fu _ _ _ (λa p s h=>?_) (λ_ _ _ h=>h) _ _ (h p)
 obtain⟨x,rfl,h⟩:=h
 have e:H4 o r (eval r f)=eval r f:=by unfold H4;rw[j]
 rw[e]
 unfold compareChain
 rw[E7,HQ]
 refine Fu _ _ _ (λb p s h=>?_) (λ_ _ _ h=>h) _ _ h
 rw[E7]
 refine aL (GB λp=>?_)
 rw[Sem.wp_operate,k]
 refine(lK o x b).ok w (kt w.params) (jc w.params) g (by omega) (by omega) p s _ _ ?_
 exact Fu _ _ _ (λc p s h=>h) (λ_ _ _ h=>h) _ _ (h p)
noncomputable def fy (e:bu) (T:af) (d:Code) (t:Sem Gq):Prop:=
 ∀(b:Ctx),b.code=d->b.handled=none->(∀es,T.outer=some es->envsOf b.below=es)->dQ T.d b->∀(p:Pos) (s:Fe) (F:HI->Fe->Prop),d4 e.kt T.all s->
  (∀x a,T.post x->ap s a T.own (T.res x)->F (T.r x) a)->
  wp (FT pq e.w) b t (λfin p a=>ca e.kt a.heap/\finPost (FT pq e.w) b F fin p a) (λv _ a=>ca e.kt a.heap/\F (.error v) a) p s
theorem pg (e:Env):∀(a b:List Stmt),Hd (a++b) e=(Hd a e>>=λf=>match f with|.next=>Hd b e | f=>pure f)
 | [],b=>rfl
 | x::a,b=>by
  rw[H7,Ir,Ir,bind_assoc]
  congr 1
  funext f
  cases f with
  | next=>exact pg e a b
  | _=>rfl
inductive Ps where
 | run (l:List Stmt)
 | done (f:Flow)
inductive Pc (w:E9) (ev:Env) (c0:Code) (T:af):Type 1
 | fin (x:T.α) (h:T.post x) (n:Nat) (is:List Nat)
 | blk (ρ:af) (a:List Stmt) (h:fy (env w) ρ c0 (Dn (.block a ev))) (f:Flow) (n:Nat) (is:List Nat) (k:(x:ρ.α)->ρ.post x->Pc w ev c0 T)
 | cmp (V1 V2:af) (V3:V1.α->V2.α->af) (o:CmpOp) (e:Expr) (v1:V1.α->Nat) (v2:V2.α->Nat) (r bb:Bool) (i1 i2 i3:List Nat)
  (h1:ax (env w) V1 (tV (eval (fR e) ev))) (h2:ax (env w) V2 (tV (eval (dM e) ev))) (ho:∀a b,compareOp o a b=richCompare o a b)
  (h3:∀x y,V1.post x->V2.post y->ax (env w) (V3 x y) (tV (lK o (v1 x) (.ref (v2 y))).val))
  (k:(x:V1.α)->(y:V2.α)->(z:(V3 x y).α)->V1.post x->V2.post y->(V3 x y).post z->Pc w ev c0 T)
 | or (A B:Prop) (h:A\/B) (l:A->Pc w ev c0 T) (r:B->Pc w ev c0 T)
 | pick (β:Type) (f:β->Prop) (h:∃b,f b) (k:(b:β)->f b->Pc w ev c0 T)
noncomputable def ew (b:Bool):Prop:=match b with| true=>True | false=>False
noncomputable def n6 (e x:Option (List Env)):Prop:=match x with| none=>True | some es=>e=some es
noncomputable def qz (x:Option (List Env)):Prop:=match x with| none=>True | some es=>some es=some es
noncomputable def gE (b:Bool):Prop:=match b with| true=>True | false=>True
noncomputable def vK (b:Bool) (c d:List Stmt):List Stmt:=match b with
 | true=>c
 | false=>d
noncomputable def pF (r:Bool) (e:Expr) (s:Stmt):Prop:=match r with
 | true=>s=.If e (aY s) (cw s) (nW s)
 | false=>s=.Return (some e) (sZ s)
noncomputable def EE (r:Bool) (s:Stmt):Prop:=match r with
 | true=>s=s
 | false=>s=s
noncomputable def mB (r a:Bool) (s:Stmt) (b:List Stmt):Ps:=match r with
 | true=>.run (vK a (aY s) (cw s)++b)
 | false=>.done (.ret (.bool a))
noncomputable def oo (f:Flow) (l:List Stmt):Ps:=match f with
 |.next=>.run l
 | f=>.done f
noncomputable def u7 (r:HI) (st:Ps):Prop:=match st with
 |.run l=>l=[]/\r=.ok .next
 |.done f=>r=.ok f
noncomputable def DI (r:HI) (st:Ps):Prop:=match st with
 |.run l=>l=l/\r=r
 |.done _=>r=r
section
variable {w:E9} {ev:Env} {c0:Code} {T:af}
noncomputable def gz (u:Option (List Env)) (Z:List ao) (D:Nat) (J:Pc w ev c0 T):Ps->List ao->Prop:=Pc.rec (motive:=λ_=>Ps->List ao->Prop)
 (λx _ n k st A=>u7 (T.r x) st/\take k (bp T x []) A (λR=>R.drop n=Z))
 (λi a _ f n k _ j st A=>match st with
  |.run l=>l.take n=a/\n6 u i.outer/\ew (G9 i.d D)/\take k (bg i.need++i.needB) A (λR=>∀x h,i.r x=.ok f/\j x h (oo f (l.drop n)) (bp i x R))
  |.done _=>False)
 (λV d g o e H I r m E F G _ _ _ _ _ j st A=>match st with
  |.run l=>match l with
   | []=>False
   | s::b=>pF r e s/\e=.Compare (fR e) [o] [dM e] (pv e)/\behindInMarks o (dM e)=false/\V.outer=none/\d.outer=none/\ew (G9 V.d D)/\ew (G9 d.d D)/\
    take E (bg V.need++V.needB) A (λp=>∀x v,V.r x=.ok (.ret (.ref (H x)))/\take F (bg d.need++d.needB) (bp V x p) (λq=>∀y B,d.r y=.ok (.ret (.ref (I y)))/\(g x y).outer=none/\ew (G9 (g x y).d D)/\
     take G (bg (g x y).need++(g x y).needB) (bp d y q) (λt=>∀z C,(g x y).r z=.ok (.ret (.bool m))/\j x y z v B C (mB r m s b) (bp (g x y) z t))))
  |.done _=>False)
 (λ_ _ _ _ _ l r st A=>(∀a,l a st A)/\(∀b,r b st A))
 (λ_ _ _ _ j st A=>∀b h,j b h st A) J
noncomputable def mX (Z:List ao) (D:Nat) (G:Pc w ev c0 T):Ps->List ao->Prop:=Pc.rec (motive:=λ_=>Ps->List ao->Prop)
 (λx _ n k st A=>DI (T.r x) st/\cp k (bp T x []) A (λR=>Z=Z))
 (λi a _ f n k _ j st A=>match st with
  |.run l=>a=a/\qz i.outer/\gE (G9 i.d D)/\cp k (bg i.need++i.needB) A (λR=>∀x h,i.r x=i.r x/\j x h (oo f (l.drop n)) (bp i x R))
  |.done _=>True)
 (λV d g o e H I r t C E F _ _ _ _ _ j st A=>match st with
  |.run l=>match l with
   | []=>True
   | s::b=>EE r s/\e=e/\false=false/\V.outer=V.outer/\d.outer=d.outer/\gE (G9 V.d D)/\gE (G9 d.d D)/\
    cp C (bg V.need++V.needB) A (λm=>∀x u,V.r x=V.r x/\cp E (bg d.need++d.needB) (bp V x m) (λp=>∀y v,d.r y=d.r y/\(g x y).outer=(g x y).outer/\gE (G9 (g x y).d D)/\
     cp F (bg (g x y).need++(g x y).needB) (bp d y p) (λq=>∀z B,(g x y).r z=(g x y).r z/\j x y z u v B (mB r t s b) (bp (g x y) z q))))
  |.done _=>True)
 (λ_ _ _ _ _ l r st A=>(∀a,l a st A)/\(∀b,r b st A))
 (λ_ _ _ _ j st A=>∀b h,j b h st A) G
theorem ix (b:Bool):gE b:=by cases b<;>trivial
theorem xj (x:Option (List Env)):qz x:=by cases x<;>first| rfl | trivial
theorem qq (Z:List ao) (D:Nat) (g:Pc w ev c0 T):∀st A,mX Z D g st A:=by
 induction g with
 | fin x h n u=>
  intro st A
  refine⟨?_,dt _ _ _ _ λR=>?_⟩
  .cases st<;>first| rfl | exact⟨rfl,rfl⟩
  .rfl
 | blk W a h f n u k i=>
  intro st A
  cases st with
  | run l=>exact⟨rfl,xj _,ix _,dt _ _ _ _ λR x h=>⟨rfl,i x h _ _⟩⟩
  | done _=>trivial
 | cmp V F G o e Q S r H N O P I J M L k i=>
  intro st A
  cases st with
  | run l=>
   cases l with
   | nil=>trivial
   | cons s b=>
    exact⟨by cases r<;>rfl,rfl,rfl,rfl,rfl,ix _,ix _,dt _ _ _ _ λv x p=>⟨rfl,dt _ _ _ _ λC y q=>⟨rfl,rfl,ix _,dt _ _ _ _ λE z t=>⟨rfl,i x y z p q t _ _⟩⟩⟩⟩
  | done _=>trivial
 | or A B h l r j m=>exactλst d=>⟨λa=>j a st d,λb=>m b st d⟩
 | pick U f h k i=>exactλst d b h=>i b h st d
noncomputable def Pm (w:E9) (ev:Env) (a:Ctx) (Q:Flow->Pos->Fe->Prop) (E:Fb->Pos->Fe->Prop) (p:Pos) (s:Fe):Ps->Prop
 |.run l=>wp (FT pq w) a (Hd l ev) Q E p s
 |.done f=>Q f p s
theorem n7 {a b:Nat} (h:ew (G9 a b)):a<=b:=GW (by revert h;cases G9 a b<;>intro h<;>first| rfl | exact h.elim)
theorem iW {A:List ao} {T:af} {r:List ao} (p:A.Perm ((bg T.need++T.needB)++r)):A.flatten.Perm (T.all++r.flatten):=by
 refine p.flatten.trans (.of_eq ?_)
 rw[Gf,Gf,jo]
 rfl
theorem EG {w:E9} {T:af} {d:Nat} {b:Ctx} {p:Pos} {i s:Fe} {own:List Addr} {r:List ao} {st:List Stmt} {ev:Env} {c0:Code} (h:fy (env w) T c0 (Dn (.block st ev))) (m:b.code=c0) (j:∀es,T.outer=some es->envsOf b.below=es) (H:bt (env w) d b) (v:T.d<=d) (G:Go (env w).kt i own s (T.all++r.flatten)) {f0:Flow} (n:∀x,T.post x->T.r x=.ok f0)
 {Q:Flow->Pos->Fe->Prop} {E:Fb->Pos->Fe->Prop} (k:∀x a p,T.post x->Go (env w).kt i own a (bp T x r).flatten->Q f0 p a):wp (FT pq w) b (Hd st ev) Q E p s:=by
 have l:dQ T.d b:=⟨by have:=H.hl.cnt;omega,by have:=H.hl.units;omega⟩
 have q:=h b m H.hh j l p s (λr a=>match r with|.ok f=>∀p,Q f p a |.error x=>False) G.sub.pre (λx a e A=>by
  rw[n x e]
  exactλp=>k x a p e (Go.eq (G.stepR A) (eK x r)))
 have t:=l.cnt
 have u:=l.units
 have o:=mJ (jc w.params) (.block st ev) b (by omega) (by omega) p s _ _ q
 have g:wp (FT pq w) b ((Hd st ev).onRaise (λx=>do HU x ev;Hf x)>>=λf=>pure (.done f)) (finPost (FT pq w) b λr a=>match r with|.ok f=>∀p,Q f p a |.error x=>False) (λx _ a=>False) p s:=o
 rw[E7,Gu]at g
 refine Fu _ _ _ (λf p s h=>h p) (λx p s h=>?_) _ _ g
 exact(mM _ p s (Fu _ _ _ (λ_ _ _ h=>h) (λ_ _ _ h=>h) _ _ h)).elim
theorem mP {w:E9} {T:af} {d:Nat} {j:Ctx} {p:Pos} {l s:Fe} {own:List Addr} {r:List ao} {t:Sem Fb} (h:ax (env w) T (tV t)) (H:bt (env w) d j) (o:T.d<=d) (n:T.outer=none) (G:Go (env w).kt l own s (T.all++r.flatten)) {b:T.α->Fb} (k:∀x,T.post x->T.r x=.ok (.ret (b x)))
 {Q:Fb->Pos->Fe->Prop} {E:Fb->Pos->Fe->Prop} (m:∀x a p,T.post x->Go (env w).kt l own a (bp T x r).flatten->Q (b x) p a):wp (FT pq w) j t Q E p s:=by
 have q:=ax.flow (t:=t>>=λv=>pure (.ret v)) h j H.hh (λes z=>by rw[n]at z;cases z) ⟨by have:=H.hl.cnt;omega,by have:=H.hl.units;omega⟩ p s (Q:=λf p a=>∃x,T.post x/\f=.ret (b x)/\Q (b x) p a) (E:=λ_ _ _=>False) G.sub.pre
  (λx a p f i A g=>by rw[k x i]at g;cases g;exact⟨x,i,rfl,m x a p i (Go.eq (G.stepR A) (eK x r))⟩) (λx a p v i A g=>by rw[k x i]at g;cases g)
 rw[E7]at q
 refine Fu _ _ _ (λv p s h=>?_) (λ_ _ _ h=>h.elim) _ _ q
 obtain⟨x,_,e,h⟩:∃x,T.post x/\Flow.ret v=.ret (b x)/\Q (b x) p s:=h
 injection e with e
 rw[e];exact h
theorem Es {d:Nat} {g:Ctx} (H:bt (env w) d g) {r f:Bool} {st:Stmt} {b:List Stmt} {e:Expr} {o:CmpOp} {Q:Flow->Pos->Fe->Prop} {E:Fb->Pos->Fe->Prop} {p:Pos} {s:Fe} (l:pF r e st) (i:e=.Compare (fR e) [o] [dM e] (pv e)) (j:behindInMarks o (dM e)=false) (k:∀a b,compareOp o a b=richCompare o a b)
 (go:∀{K:Fb->Pos->Fe->Prop},(∀p s,(∀p,Pm w ev g Q E p s (mB r f st b))->K (.bool f) p s)->∀p,py w g (fR e) (dM e) o ev K E p s):wp (FT pq w) g (Hd (st::b) ev) Q E p s:=by
 rw[Ir,E7]
 cases r with
 | true=>
  rw[show st=.If e (aY st) (cw st) (nW st)from l,arm_exec_If,E7]
  refine aL (GB λp=>?_)
  rw[E7]
  show wp _ _ (isTrue e ev (eval e ev)) _ _ p s
  rw[i]
  refine Er H j k (go (λp s h=>⟨f,rfl, ?_⟩) p)
  have h:wp (FT pq w) g (Hd (vK f (aY st) (cw st)++b) ev) Q E p s:=h p
  rw[pg,E7]at h
  cases f<;>exact h
 | false=>
  rw[show st=.Return (some e) (sZ st)from l,i]
  exact Et H j k (go λp s h=>h p)
theorem s9 {d D:Nat} {C:Ctx} (H:bt (env w) d C) (hD:D<=d) (hc:C.code=c0) {es0:Option (List Env)} (hE:∀es,es0=some es->envsOf C.below=es) {s0:Fe} {own:List Addr} {Z:List ao} {Q:Flow->Pos->Fe->Prop} {io:Fb->Pos->Fe->Prop}
 (X:∀x f I p Z',T.post x->T.r x=.ok f->Go (env w).kt s0 own I (bp T x []++(Z'++Z)).flatten->Q f p I) (π:Pc w ev c0 T):
 ∀(st:Ps) (A:List ao) (p:Pos) (s:Fe),Go (env w).kt s0 own s A.flatten->gz es0 Z D π st A->Pm w ev C Q io p s st:=by
 have Iv:∀{T:af},n6 es0 T.outer->∀es,T.outer=some es->envsOf C.below=es:=λ{T} h es he=>by
  rw[he]at h
  exact hE es h
 have F:∀{a},ew (G9 a D)->a<=d:=λh=>F2 (n7 h) hD
 induction π with
 | fin x h n J=>
  intro st A p s G hk
  have hk:u7 (T.r x) st/\take J (bp T x []) A (λR=>R.drop n=Z):=hk
  obtain⟨R,L,E⟩:=bW hk.2
  have u:=G.perm L.flatten
  rw[<-List.take_append_drop n R,E]at u
  cases st with
  | run l=>exact(show l=[]from hk.1.1)▸X x _ s p _ h hk.1.2 u
  | done f=>exact X x _ s p _ h hk.1 u
 | blk t a h f n J k v=>
  intro st A p s G hk
  cases st with
  | done f=>exact hk.elim
  | run l=>
   have hk:l.take n=a/\n6 es0 t.outer/\ew (G9 t.d D)/\take J (bg t.need++t.needB) A (λR=>∀x h,t.r x=.ok f/\gz es0 Z D (k x h) (oo f (l.drop n)) (bp t x R)):=hk
   refine(bW hk.2.2.2).elim λR q=>?_
   have L:=q.1
   have E:=q.2
   show wp _ _ (Hd l ev) _ _ p s
   rw[<-List.take_append_drop n l,hk.1,pg,E7]
   exact EG h hc (Iv hk.2.1) H (F hk.2.2.1) (G.perm (iW L)) (λx g=>(E x g).1) λx I p g G'=>by
    have q:=v x g _ _ p I G' (E x g).2
    cases f<;>exact q
 | cmp V j m gt e v1 v2 r W i1 i2 i3 h1 h2 ho h3 k v=>
  intro st A p s G hk
  cases st with
  | done f=>exact hk.elim
  | run l=>
   cases l with
   | nil=>exact hk.elim
   | cons st b=>
    have hk:pF r e st/\e=.Compare (fR e) [gt] [dM e] (pv e)/\behindInMarks gt (dM e)=false/\V.outer=none/\j.outer=none/\ew (G9 V.d D)/\ew (G9 j.d D)/\
    take i1 (bg V.need++V.needB) A (λP=>∀x g,V.r x=.ok (.ret (.ref (v1 x)))/\take i2 (bg j.need++j.needB) (bp V x P) (λS=>∀y i,j.r y=.ok (.ret (.ref (v2 y)))/\(m x y).outer=none/\ew (G9 (m x y).d D)/\
     take i3 (bg (m x y).need++(m x y).needB) (bp j y S) (λU=>∀z o,(m x y).r z=.ok (.ret (.bool W))/\gz es0 Z D (k x y z g i o) (mB r W st b) (bp (m x y) z U)))):=hk
    exact Es H hk.1 hk.2.1 hk.2.2.1 ho λhK p=>(bW hk.2.2.2.2.2.2.2).elim λP M=>
     mP h1 H (F hk.2.2.2.2.2.1) hk.2.2.2.1 (G.perm (iW M.1)) (λx g=>(M.2 x g).1) λx s1 p g u=>⟨_,rfl,(bW (M.2 x g).2).elim λS B=>
      mP h2 H (F hk.2.2.2.2.2.2.1) hk.2.2.2.2.1 (u.perm (iW B.1)) (λy i=>(B.2 y i).1) λy s2 p i G2 p=>(bW (B.2 y i).2.2.2).elim λU N=>
       mP (h3 x y g i) H (F (B.2 y i).2.2.1) (B.2 y i).2.1 (G2.perm (iW N.1)) (λz o=>(N.2 z o).1) λz s3 p o O=>⟨O.inv.base,hK p s3 λp=>v x y z g i o _ _ p s3 O (N.2 z o).2⟩⟩
 | or A Iw h l r hl hr=>
  intro st A p s G hk
  have hk:(∀a,gz es0 Z D (l a) st A)/\(∀b,gz es0 Z D (r b) st A):=hk
  exact h.elim (λa=>hl a st A p s G (hk.1 a)) (λb=>hr b st A p s G (hk.2 b))
 | pick β f h k v=>
  intro st A p s G hk
  exact h.elim λb Y=>v b Y st A p s G (hk b Y)
theorem ic (T:af):T.all=(bg T.need++T.needB).flatten:=by
 rw[Gf,jo];rfl
noncomputable def mq {a:Type} (T:af) (N:a->af) (P:a->Prop):af:={d:=0,α:=a⊕T.α,need:=[],r:=λb=>match b with|.inl _=>.ok .next |.inr x=>T.r x,new:=λb=>match b with|.inl b=>(N b).need |.inr x=>(T.need.map (·.1)).zip (T.put x)++T.new x,post:=λb=>match b with|.inl b=>P b |.inr x=>T.post x/\∃v,T.r x=.ok (.ret v),newB:=λb=>match b with|.inl b=>(N b).needB |.inr x=>T.putB x++T.newB x}
theorem DK {T:af} {a:Type} (N:a->af) (P:a->Prop) (b:a) (R:List ao):(bp (mq T N P) (.inl b) []++(R++[])).flatten=(N b).all++R.flatten:=by
 rw[ic,Gf,FL]
 congr 2
 show bg ([]++(N b).need)++(([]++(N b).needB)++[])=_
 rw[HB,HB,FL]
theorem DJ {T:af} {a:Type} (N:a->af) (P:a->Prop) (x:T.α) (R:List ao):(bp (mq T N P) (.inr x) []++(R++[])).flatten=T.res x++R.flatten:=by
 rw[Gf,FL]
 congr 1
 show(bg ([]++((T.need.map (λc:dR=>c.1)).zip (T.put x)++T.new x))++(([]++(T.putB x++T.newB x))++[])).flatten=_
 rw[HB,HB,FL,Gf,jo,Fp]
 rfl
noncomputable def vD {c0:Code} {T:af} (d:Option (List Env)) (A:List ao) (D:Nat) (e:List Stmt) (V:af) (a:V.α->af) (v:V.α->Fb) (i g:List Nat) (j:(x:V.α)->(y:(a x).α)->V.post x->(a x).post y->Pc w ev c0 T):Prop:=
 V.outer=none/\ew (G9 V.d D)/\take i (bg V.need++V.needB) A (λR=>∀x h,V.r x=.ok (.ret (v x))/\(a x).outer=none/\ew (G9 (a x).d D)/\take g (bg (a x).need++(a x).needB) (bp V x R) (λb=>∀y f,(a x).r y=.ok .next/\gz d [] D (j x y h f) (.run e) (bp (a x) y b)))
noncomputable def qp {c0:Code} {T:af} (A:List ao) (D:Nat) (d:List Stmt) (V:af) (a:V.α->af) (v:V.α->Fb) (i f:List Nat) (g:(x:V.α)->(y:(a x).α)->V.post x->(a x).post y->Pc w ev c0 T):Prop:=
 V.outer=V.outer/\gE (G9 V.d D)/\cp i (bg V.need++V.needB) A (λR=>∀x h,V.r x=V.r x/\(a x).outer=(a x).outer/\gE (G9 (a x).d D)/\cp f (bg (a x).need++(a x).needB) (bp V x R) (λb=>∀y e,(a x).r y=(a x).r y/\mX [] D (g x y h e) (.run d) (bp (a x) y b)))
theorem uT {w:E9} {T:af} {d:Nat} {g:Ctx} {p:Pos} {j s:Fe} {own:List Addr} {r:List ao} {t:Sem Flow} (h:ax (env w) T (tF t)) (H:bt (env w) d g) (n:T.d<=d) (m:T.outer=none) (G:Go (env w).kt j own s (T.all++r.flatten)) {k:T.α->Flow} (i:∀x,T.post x->T.r x=.ok (k x))
 {Q:Flow->Pos->Fe->Prop} {E:Fb->Pos->Fe->Prop} (l:∀x b p,T.post x->Go (env w).kt j own b (bp T x r).flatten->Q (k x) p b):wp (FT pq w) g t Q E p s:=
 ax.flow h g H.hh (λes z=>by rw[m]at z;cases z) ⟨by have:=H.hl.cnt;omega,by have:=H.hl.units;omega⟩ p s G.sub.pre
  (λx b p f e A a=>by rw[i x e]at a;cases a;exact l x b p e (Go.eq (G.stepR A) (eK x r))) (λx b p v e A a=>by rw[i x e]at a;cases a)
theorem w9 {c0:Code} {T:af} (A:List ao) (D:Nat) (b:List Stmt) (V:af) (a:V.α->af) (v:V.α->Fb) (i d:List Nat) (e:(x:V.α)->(y:(a x).α)->V.post x->(a x).post y->Pc w ev c0 T):qp A D b V a v i d e:=
 ⟨rfl,ix _,dt _ _ _ _ λR x h=>⟨rfl,rfl,ix _,dt _ _ _ _ λf y g=>⟨rfl,qq ..⟩⟩⟩
theorem gC {T:af} {i:Nat} {t:Expr} {a m:List Stmt} (S:T.c=.forLoop t (.ref i) a m ev) (Iv:∀i v,Gr t i v=pure ())
 {V:af} {g:V.α->af} {v1:V.α->Fb} (h1:ax (env w) V (tF (tN i))) (h2:∀x,V.post x->ax (env w) (g x) (tF (assign t ev (v1 x)>>=λ_=>pure .next)))
 {Y:Type} {N:Y->af} {P:Y->Prop} (hN:∀b,P b->ab (env w) (N b)) (hA:T.anyH=false) (he:∀b y,(N b).post y->∃z,T.post z/\T.r z=(N b).r y/\T.res z=(N b).res y)
 (u:∀b,(N b).c=T.c/\(N b).outer=none/\(N b).d=T.d) (B C:List Nat) (r:(x:V.α)->(y:(g x).α)->V.post x->(g x).post y->Pc w ev T.c (mq T N P))
 (hk:vD T.outer (bg T.need++T.needB) T.d a V g v1 B C r=qp (bg T.need++T.needB) T.d a V g v1 B C r):ab (env w) T:=by
 intro e Q n hE A p s F P0 O
 have n:e.handled=none:=n.resolve_left (λz=>by rw[(show T.anyH=false from hA)]at z;cases z)
 have H:bt (env w) T.d e:=⟨n,A⟩
 have gt:=Go.eq (Go.start P0) (ic _)
 have q:vD T.outer (bg T.need++T.needB) T.d a V g v1 B C r:=hk.mpr (w9 ..)
 have cd:=Q.trans S
 rw[F3,cd]
 show wp _ _ ((forTurn t (.ref i) a m ev).onRaise (λx=>do HU x ev;Hf x)) _ _ p s
 rw[Gu]
 unfold forTurn
 rw[E7]
 refine aL (GB λp=>?_)
 rw[E7,Gu]
 refine(bW q.2.2).elim λR D=>?_
 have J:=uT (p:=p) (Q:=λf p o=>∃x,V.post x/\f=.ret (v1 x)/\Go (env w).kt s (keys T.all) o (bp V x R).flatten) (E:=λ_ _ _=>False) h1 H (n7 q.2.1) q.1 (gt.perm (iW D.1)) (λx d=>(D.2 x d).1) λx o p d G'=>⟨x,d,rfl,G'⟩
 unfold tN at J
 rw[E7]at J
 refine Fu _ _ _ (λIw p X U=>?_) (λ_ _ _ h=>h.elim) _ _ J
 cases Iw with
 | none=>exact(show∃x,V.post x/\Flow.brk=.ret (v1 x)/\_ from U).elim λx h=>nomatch h.2.1
 | some v=>
  refine(show∃x,V.post x/\Flow.ret v=.ret (v1 x)/\Go (env w).kt s (keys T.all) X (bp V x R).flatten from U).elim λx h=>?_
  have d:=h.1
  have io:v=v1 x:=Flow.ret.inj h.2.1
  have I:=(D.2 x d).2
  subst io
  show wp _ _ (Gr t (.ref i) (v1 x)>>=λ_=>assign t ev (v1 x)>>=λ_=>Hd a ev>>=_) _ _ p X
  rw[Iv,E7]
  refine aL (E5 λp=>?_)
  rw[E7]
  refine(bW I.2.2).elim λR2 E=>?_
  have W:=uT (p:=p) (E:=gg w e ev F) (h2 x d) H (n7 I.2.1) I.1 (h.2.2.perm (iW E.1)) (λy j=>(E.2 y j).1) (Q:=λ_ p o=>wp (FT pq w) e (Hd a ev) (λf p s=>(f=.next/\finPost (FT pq w) e F (.again (.forLoop t (.ref i) a m ev)) p s)\/∃v,f=.ret v/\F (.ok (.ret v)) s) (gg w e ev F) p o) λy s2 p j G2=>
   s9 H (FO _) Q hE (λb f L p Z k l G=>by
    cases b with
    | inr z=>
     have k:T.post z/\∃v,T.r z=.ok (.ret v):=k
     have l:T.r z=.ok f:=l
     have M:=O z L k.1 (Go.eq G (DJ N P z Z)).sub.after
     obtain⟨v,hv⟩:=k.2
     rw[hv]at l M
     cases l
     exact .inr ⟨v,rfl,M⟩
    | inl b=>
     have G:=Go.eq G (DK N P b Z)
     exact .inl ⟨by cases l;rfl,rfl,hN b k (e.goto (.forLoop t (.ref i) a m ev)) (S▸(u b).1).symm (.inr n) (λes z=>by rw[(u b).2.1]at z;cases z) (by rw[(u b).2.2];exact⟨A.cnt,A.units⟩) p L F G.sub.pre λy s4 j A4=>(he b y j).elim λz h=>by
      rw[<-h.2.1]
      exact O z s4 h.1 (h.2.2▸(G.stepR A4).sub.after)⟩) (r x y d j) (.run a) _ p s2 G2 (E.2 y j).2
  rw[E7]at W
  refine Fu _ _ _ (λIx p L h=>?_) (λ_ _ _ h=>h) _ _ W
  rw[E7]
  refine Fu _ _ _ (λf p s h=>?_) (λ_ _ _ h=>h) _ _ h
  rcases h with⟨rfl,h⟩ | ⟨v,rfl,h⟩<;>exact h
end
theorem iE (P:E8) (i f l:Nat):bR (dS P) (.ref i) (b9 P f l)=.forLoop (ej (dS P)) (.ref i) (aY (dS P)) (cw (dS P)) (b9 P f l):=by kernel_rfl
theorem iD (P:E8) (i v:Fb):Gr (ej (dS P)) i v=pure ():=l7 (by kernel_rfl) i v
noncomputable def pR (os w:List (Nat×Nat)) (b h:MI) (L:List Lv) (e:List ai) (d:MI) (a:List Lv) (I:List ai) (r:List (Nat×Nat)):Prop:=
 ((os=[]/\(∃l:Lv,aH l.m=w.map (λp=>(p.1,aa h p.1))/\a=L++[l])/\jz w b d)\/(os≠[]/\a=L/\d=b))/\ec os e [] I r
theorem nX {A B:List ao} (i:List Nat) (h:take i B A (· =[])):A.Perm B:=by
 obtain⟨r,p,rfl⟩:=bW h
 rw[FL]at p;exact p
structure v7 (lm hm:MI) (ws rd:List (Nat×Nat)) (I:List ai) (LV:List Lv):Prop where
 hz:rd.length<=6
 ne:ws++rd≠[]
 len:(ws++rd).length<=8
 nd:((ws++rd).map (·.1)).Nodup
 ndI:(am I).Nodup
 memI:∀p∈rd,p.1∈am I
 done:dI (ay (db rd I)) (aP lm (ws++rd)) (db rd I) []
 few:(aP lm (ws++rd)).length<=5
 hand:∀p∈ws++rd,∃v,look? hm p.1=some v
 lmL:lm.length<=800
 lvL:LV.length<=900
theorem uX {l:MI} {ws:List (Nat×Nat)} (h:aP l ws=[]):bA l ws=ws:=by
 unfold aP at h
 unfold bA
 rw[List.filter_eq_self]
 intro x a
 rw[List.filter_eq_nil_iff]at h
 simpa using h x a
noncomputable def oN {d:Type} (o:Option Nat) (a b:d):d:=match o with| none=>a | some _=>b
section
variable {w:E9} {fr lc:Nat} {k:Nat×Nat×Nat×Nat×Nat} {cps:List Nat} {t nd hr ha S:Nat} {sl:SL} {V:Nat}
noncomputable def nZ {F:Obj} {D:Option Nat} {H:Nat×Nat} {W:Nat} {st:Int×Nat} {s f:Nat} {d:Nat×Nat×Nat×Nat} {h i:Nat} {b n:Int×Nat} {u L ld e:Nat} {l:MI} {ws r os j:List (Nat×Nat)} {I:List ai} {m:Nat} (g:Nat->KA×Nat) (y:aP l (ws++r)=os) (A:bA l (ws++r)=j) (B:(decide (n.1<b.1) || !r.isEmpty)=true) (C:r.length<=6) (q:ws++r≠[]) (o:(ws++r).length<=900) (gt:ws.length+r.length<=900) (G:(am I).Nodup) (E:∀p∈r,p.1∈am I):PP (env w) (sE w.params fr lc F k cps t nd hr ha S H W V D st sl s f d h i b n u L ld e l ws r os j I m):=λ_ N=>
 .seg 0x3002000000000000002000000000002000000000002001 λP=>.use _ (v6 w S s d f h i b n r HN B (by omega)) [1,1,2] [] λx2 X=>.seg 0x2001000000000000001000000000001000000000001004008008008008004 λR=>.use _ (zB w S s d f h i b n m r I C G E) [0,0,0,1] [0] λx Y=>.seg 36865 λT=>.use _ (BN cv w W u (x.1.1) (x.2.2) ws r (by omega)) [8,4] [] λv Z=>.seg 0x1001001001001001007 λa=>.use _ (DB w (a 0) (a 1) (a 2) fr lc L ld e W v l (ws++r) os y o q 0 0) [2,1,0,7,7,0] [] λM h8=>.seg 0x100100500100500500b00200200200b00b λO=>.use _ (Dy w (O 1) (O 2) (O 3) fr lc L ld e W v l (ws++r) j A o q 0 0) [2,1,0,2,2,2] [] λJ U=>.seg 563087425982477 λQ=>N ((O 2,J.2.1,a 1,M.2.1),(x.1.2,x.2.1),(g (O 0)).1,(g (O 0)).2) trivial [12,8,8,9,8,2,2] [0,2] [0]
noncomputable def z9 {l:Option Nat} {b:KA} {s:Nat×Nat} {W:Nat} {st:Int×Nat} {O h m f n ld r q:Nat} {j i:MI} {o:Nat} {d:List (Nat×Nat)} {L:List Lv} (y:d≠[]) (A:(d.map (λx:Nat×Nat=>x.1)).Nodup) (B:d.length<=8) (C:∀p∈d,∃v,look? i p.1=some v) (D:j.length+d.length<=900) (N:(aD L).length<=1000):PP (env w) (sD w.params fr lc (dz w.params k cps t nd hr ha S b s W V (some (st,O,l)) h sl) k cps t nd hr ha S W V st O sl m f n ld r q j i o d L):=λ_ G=>
 .seg 0 λH=>.use _ (jx w) [] [] λa P=>.seg 0x1001004001004004003003003 λg=>.use _ (BE w fr lc (g 1) k cps t nd hr ha S (b.1,b.2.1,b.2.2.1,oN l (g 0) b.2.2.2) W V st O (a.1) (a.2.1) sl d m (a.2.2) i o s (oN l (h+1) h) 0 y A B C) [0,2,2,0,0,4] [] λe E=>.seg 0x6001001006006006006001 λI=>.use _ (oM w V f (aD L) (a.1) (by omega)) [5] [] λR Q=>.seg 0x2009008000000000000008000000000008000000000008007 λJ=>.use _ (xB w n ld q r W m j d D) [7,7,2] [] λu F=>.seg 0 λM=>.view [3] [] _ _ _ _ ((bC (a:=V) (BG L ⟨a.1,a.2.1,e.1.1,e.1.2,a.2.2⟩ (f+1)))) (.view [5,5] [0] _ _ _ _ ((aX (BC w.params L ⟨a.1,a.2.1,e.1.1,e.1.2,a.2.2⟩))) (G (((⟨a.1,a.2.1,e.1.1,e.1.2,a.2.2⟩,f+1,u.1,u.2),(b.1,b.2.1,b.2.2.1,oN l (g 0) b.2.2.2),e.2.1,e.2.2)) ⟨by rw[E];rfl,F⟩ [4,3,0,3,0,0,0] [] [0]))
theorem vL {os:List (Nat×Nat)} {lv:Option Nat} {kA:KA} {x0:Nat×Nat} {W:Nat} {st:Int×Nat} {O fe sd n2i:Nat} {ks:Nat×Nat×Nat×Nat} {rl rn:Nat} {po nf:Int×Nat} {on:Nat} {I:List ai} {ep:Nat} (h:dI (ay I) os I []) (f:os.length<=5) (g:os=[]->lv≠none):ax (env w) (sC w.params fr (dz w.params k cps t nd hr ha S kA x0 W V (some (st,O,lv)) fe sl) S sd n2i ks rl rn po nf O on os I ep) (Dn (.block (b3 w.params) (b9 w.params fr lc))):=by
 let p:∀{w:E9} {os:List (Nat×Nat)} {lv:Option Nat} {fr:Nat} {k:Nat×Nat×Nat×Nat×Nat} {cps:List Nat} {t nd hr ha S:Nat} {kA:KA} {x0:Nat×Nat} {W V:Nat} {st:Int×Nat} {O:Nat} {fe:Nat} {sl:SL} {sd n2i:Nat} {ks:Nat×Nat×Nat×Nat} {rl rn:Nat} {po nf:Int×Nat} {on:Nat} {I:List ai} {ep:Nat} (h:dI (ay I) os I []) (e:os.length<=6),PP (env w) (sC w.params fr (dz w.params k cps t nd hr ha S kA x0 W V (some (st,O,lv)) fe sl) S sd n2i ks rl rn po nf O on os I ep):= @λw os lv fr k cps t nd hr ha S kA x0 W V st O fe sl sd n2i ks rl rn po nf on I ep h e _ i=>
  .seg 0x1007002001000001000000000003000002002000000000000000000002001000000000002001 λb=>
  .use _ (l5 cv w (b 2) 0 O on (os) (by omega)) [0,6] [] λq n=>
  .seg 844493649620993 λj=>
  .use _ (DN w S sd ks n2i rl rn po nf (ay I) ep (os) ([]) I h (by omega)) [4,4,4,4] [0] λx a=>have d:ec os I [] x.1.1 x.1.2.1:=(Fx a);have o:x.2.1=nf.1+(↑(Fo os):Int):=(Fg a);
  .seg 0 λl=>
  .view [2] [] _ _ _ _ ((bC (a:=n2i) (congrArg (λm=>dO w.params (.type "dict") none .ref m ep) (vc d).symm)))
  (i ((x.1.1,x.1.2.1,(x.2.1,x.2.2),x.1.2.2)) a [7,1,1,0,0,1] [] [0])
 rcases lv with _ | L<;>rcases os with _ | ⟨_,_ | ⟨_,_ | ⟨_,_ | ⟨_,_ | ⟨_,_ | ⟨_,_⟩⟩⟩⟩⟩⟩<;>first| exact absurd rfl (g rfl) | (exfalso;simp at f;done) | exact aG _ (p h (by simp))
end
structure v8 where
 (kA:KA) (x0:Nat×Nat) (W wn rn pu vn le fe O u:Nat) (lv:Option Nat) (nf:Int×Nat) (lm:MI) (LV:List Lv) (I:List ai) (rd:List (Nat×Nat))
theorem ax.c {e:bu} {T:af} {t:Sem Gq} (h:ax e T t) (a:Code):fy e T a t:=λb _=>h b
section
variable (w:E9) (fr lc it:Nat) (k:Nat×Nat×Nat×Nat×Nat) (cps:List Nat) (t nd hr ha S sd n2i:Nat) (ks:Nat×Nat×Nat×Nat) (V:Nat) (sl:SL) (Lf ld lde eh:Nat) (hm:MI) (Qf:List Lv->Prop)
noncomputable def tv (v l:Int) (a r:Nat) (p:Int×Nat) (d:List (Nat×Nat)) (n e:Nat) (b:v8):af:=iL w fr lc it (v+1) (l-1) 0 0 a k cps t nd hr ha S sd n2i ks r b.rn (p.1+n,b.pu) b.nf b.kA b.x0 b.W b.wn V b.vn (some ((v,b.u),b.O,b.lv)) b.fe sl Lf ld b.le lde b.lm hm eh d b.rd b.I e b.LV Qf
noncomputable def wb (n:Int×Nat) (l:MI) (L:List Lv) (I:List ai) (os a:List (Nat×Nat)) (b:v8):Prop:=pR os a l hm L I b.lm b.LV b.I b.rd/\b.nf.1=n.1+os.length
theorem i4 {v l:Int} {t1 t2 t3:Nat} (h:0<l):ax (env w) (yy it v l t1 t2 t3) (tF (tN it)):=tk _ (λ_ a=>.seg 16781313 λO=>.use _ (bY w it v l 1 t1 t2 t3 (v+1) (l-1) h rfl rfl) [0] [] λx d=>.seg 0 λb=>a (x) trivial [0] [] [])
theorem xO (Iz:Option ((Int×Nat)×Nat×Option Nat)) {v E:Int} {N P s q M:Nat} {p n:Int×Nat} {a:KA} {d:Nat×Nat} {W Q F A B m:Nat} {l:MI} {ws r:List (Nat×Nat)} {I:List ai} {L:List Lv}
 (C:v7 l hm ws r I L) (X:(decide (n.1<p.1) || !r.isEmpty)=true) (T:0<E)
 (Y:∀(a:KA) (d:Nat×Nat) (W Q M pu F B A O u:Nat) (e:Option Nat) (Iy:Int×Nat) (Ix:MI) (Iv:List Lv) (I':List ai) (IA:List (Nat×Nat)),pR (aP l (ws++r)) (bA l (ws++r)) l hm L (db r I) Ix Iv I' IA->Iy.1=n.1+(aP l (ws++r)).length->
  ab (env w) (iL w fr lc it (v+1) (E-1) 0 0 s k cps t nd hr ha S sd n2i ks q M (p.1+r.length,pu) Iy a d W Q V F (some ((v,u),O,e)) A sl Lf ld B lde Ix hm eh (bA l (ws++r)) IA I' m Iv Qf)):
 ab (env w) (iL w fr lc it v E N P s k cps t nd hr ha S sd n2i ks q M p n a d W Q V F Iz A sl Lf ld B lde l hm eh ws r I m L Qf):=by
 generalize i:aP l (ws++r)=os at Y
 generalize H:bA l (ws++r)=f at Y
 have U:∀b,wb hm n l L (db r I) os f b->ab (env w) (tv w fr lc it k cps t nd hr ha S sd n2i ks V sl Lf ld lde eh hm Qf v E s q p f r.length m b):=λb h=>Y _ _ _ _ _ _ _ _ _ _ _ _ _ _ _ _ _ h.1 h.2
 have J:(ws++r).length<=900:=by have:=C.len;omega
 have Z:ws.length+r.length<=900:=by rw[<-FW];exact J
 let io:∀(Iw:af) (u:Nat) (F':Obj) (e:Option Nat),ax (env w) (sE w.params fr lc F' k cps t nd hr ha S d W V e (v,u) sl sd n2i ks q M p n Q Lf ld B l ws r os f I m) (Dn (.block (b1 w.params) (b9 w.params fr lc)))->Pc w (b9 w.params fr lc) (bR (dS w.params) (.ref it) (b9 w.params fr lc)) (mq Iw (tv w fr lc it k cps t nd hr ha S sd n2i ks V sl Lf ld lde eh hm Qf v E s q p f r.length m) (wb hm n l L (db r I) os f)):=λIw u F' e IC=>
  .blk _ _ (IC.c _) .next 4 [0,1,1,1,1,1,1,2,4] λx _=>
  .or (os=[]) (os≠[]) (FK _)
   (λo=>have G:f=ws++r:=by rw[<-H];exact uX (i.trans o)
    .cmp (bl [(fr,dz w.params k cps t nd hr ha S x.2.2.1 d x.1.1 V (some ((v,u),x.1.2.2.1,e)) x.2.2.2 sl)] (.ret (.ref x.1.2.2.1))) rF (λ_ z=>bl [(x.1.2.2.1,ae (os.map cv) x.1.2.2.2),(z,ae [] 0)] (.ret (.bool true))) .Eq (bI (s4 w.params)) (λ_=>x.1.2.2.1) (λz=>z) true true [0] [] [9,0]
    (by cases e<;>exact tk _ (λ_ g=>.seg 1 λj=>g () trivial [0] [] [])) (tk _ (λ_ g=>.seg 0 λj=>g (j 0) trivial [] [0] [])) (λ_ _=>rfl)
    (λ_ z _ _=>by rw[o];exact aG _ (λ_ g=>.seg 0x2001002001001002001002001001001001002001 λj=>g () trivial [0,0] [] [])) λ_ _ _ _ _ _=>
    .blk _ (aY (s4 w.params)) ((show ax (env w) (sD w.params fr lc (dz w.params k cps t nd hr ha S x.2.2.1 d x.1.1 V (some ((v,u),x.1.2.2.1,e)) x.2.2.2 sl) k cps t nd hr ha S x.1.1 V (v,u) x.1.2.2.1 sl x.1.2.1 F Lf ld B lde l hm eh f L) _ by
     have a1:f≠[]:=by rw[G];exact C.ne
     have a2:(f.map (λx:Nat×Nat=>x.1)).Nodup:=by rw[G];exact C.nd
     have a3:f.length<=8:=by rw[G];exact C.len
     have a4:∀ID∈f,∃v,look? hm ID.1=some v:=by rw[G];exact C.hand
     have a5:l.length+f.length<=900:=by have:=C.lmL;omega
     have a6:(aD L).length<=1000:=by unfold aD;rw[Fq];have:=C.lvL;omega
     cases e<;>exact aG _ (z9 a1 a2 a3 a4 a5 a6)).c _) .next 4 [2,8,11,6,6,8,8,8] λy hy=>
    .blk _ _ ((vL (w:=w) (fr:=fr) (lc:=lc) (k:=k) (cps:=cps) (t:=t) (nd:=nd) (hr:=hr) (ha:=ha) (S:=S) (sl:=sl) (V:=V) (lv:=some y.1.1.a) (kA:=y.2.1) (x0:=y.2.2.1) (W:=x.1.1) (st:=(v,u)) (O:=x.1.2.2.1) (fe:=y.2.2.2) (sd:=sd) (n2i:=n2i) (ks:=ks) (rl:=q) (rn:=x.2.1.2) (po:=(p.1+r.length,x.2.1.1)) (nf:=n) (on:=x.1.2.2.2) (ep:=m) (i▸C.done) (i▸C.few) (λ_ z=>nomatch z)).c _) .next 9 [0,9,9,9,9,7,8] λz D=>
    .fin (.inl ⟨y.2.1,y.2.2.1,x.1.1,x.1.2.1,z.2.2.2,x.2.1.1,y.1.2.1,y.1.2.2.2,y.2.2.2,x.1.2.2.1,u,some y.1.1.a,z.2.2.1,y.1.2.2.1,L++[y.1.1],z.1,z.2.1⟩) ⟨⟨.inl ⟨o,⟨_,hy.1,rfl⟩,hy.2⟩,D.1⟩,D.2⟩ 2 [15,0,0,0,0,0,4,4,4,2,2,2,1,1])
   (λo=>
    .cmp (bl [(fr,dz w.params k cps t nd hr ha S x.2.2.1 d x.1.1 V (some ((v,u),x.1.2.2.1,e)) x.2.2.2 sl)] (.ret (.ref x.1.2.2.1))) rF (λ_ z=>bl [(x.1.2.2.1,ae (os.map cv) x.1.2.2.2),(z,ae [] 0)] (.ret (.bool false))) .Eq (bI (s4 w.params)) (λ_=>x.1.2.2.1) (λz=>z) true false [0] [] [9,0]
    (by cases e<;>exact tk _ (λ_ g=>.seg 1 λj=>g () trivial [0] [] [])) (tk _ (λ_ g=>.seg 0 λj=>g (j 0) trivial [] [0] [])) (λ_ _=>rfl)
    (λ_ z _ _=>by
     obtain⟨IE,IF,IB⟩:=FC o
     rw[IB];exact aG _ (λ_ g=>.seg 0x2001002001001001001002001 λj=>g () trivial [0,0] [] [])) λ_ _ _ _ _ _=>
    .blk _ _ ((vL (w:=w) (fr:=fr) (lc:=lc) (k:=k) (cps:=cps) (t:=t) (nd:=nd) (hr:=hr) (ha:=ha) (S:=S) (sl:=sl) (V:=V) (lv:=e) (kA:=x.2.2.1) (x0:=d) (W:=x.1.1) (st:=(v,u)) (O:=x.1.2.2.1) (fe:=x.2.2.2) (sd:=sd) (n2i:=n2i) (ks:=ks) (rl:=q) (rn:=x.2.1.2) (po:=(p.1+r.length,x.2.1.1)) (nf:=n) (on:=x.1.2.2.2) (ep:=m) (i▸C.done) (i▸C.few) (λz=>absurd z o)).c _) .next 9 [2,2,2,2,2,0,4] λz D=>
    .fin (.inl ⟨x.2.2.1,d,x.1.1,x.1.2.1,z.2.2.2,x.2.1.1,F,B,x.2.2.2,x.1.2.2.1,u,e,z.2.2.1,l,L,z.1,z.2.1⟩) ⟨⟨.inr ⟨o,rfl,rfl⟩,D.1⟩,D.2⟩ 2 [11,0,0,0,0,0,3,3,4,3,3,3,1,2])
 rcases Iz with _ | ⟨st,O,_ | R⟩
 .exact gC (iE w.params it fr lc) (iD w.params) (v1:=λu=>.int v u) (i4 w it (v:=v) (t1:=N) (t2:=P) (t3:=s) T) (λu _=>tk _ (te w fr lc k cps t nd hr ha S a d W V A sl (v,u))) U rfl (λb y h=>⟨y,h,rfl,rfl⟩) (λb=>⟨rfl,rfl,rfl⟩) [0] [1] (λu z _ _=>io _ u (eS w.params k cps t nd hr ha S (oE w.params a d W V z.1 (v,u)) z.2 sl) none (aG _ (nZ (λgt=>((a.1,a.2.1,(z.1,gt),0),z.2+1)) i H X C.hz C.ne J Z C.ndI C.memI))) (by kernel_rfl)
 .exact gC (iE w.params it fr lc) (iD w.params) (v1:=λu=>.int v u) (i4 w it (v:=v) (t1:=N) (t2:=P) (t3:=s) T) (λu _=>tk _ (td w fr lc k cps t nd hr ha S a d W V st O A sl (v,u))) U rfl (λb y h=>⟨y,h,rfl,rfl⟩) (λb=>⟨rfl,rfl,rfl⟩) [0] [1] (λu z _ _=>io _ u (dz w.params k cps t nd hr ha S a d W V (some ((v,u),O,none)) z sl) none (aG _ (nZ (λgt=>((a.1,a.2.1,a.2.2.1,0),z)) i H X C.hz C.ne J Z C.ndI C.memI))) (by kernel_rfl)
 .exact gC (iE w.params it fr lc) (iD w.params) (v1:=λu=>.int v u) (i4 w it (v:=v) (t1:=N) (t2:=P) (t3:=s) T) (λu _=>tk _ (tc w fr lc k cps t nd hr ha S a d W V st O R A sl (v,u))) U rfl (λb y h=>⟨y,h,rfl,rfl⟩) (λb=>⟨rfl,rfl,rfl⟩) [0] [1] (λu z _ _=>io _ u (dz w.params k cps t nd hr ha S a d W V (some ((v,u),O,some R)) z sl) (some R) (aG _ (nZ (λgt=>(a,z)) i H X C.hz C.ne J Z C.ndI C.memI))) (by kernel_rfl)
end
section
variable (w:E9) (fr lc it:Nat) (k:Nat×Nat×Nat×Nat×Nat) (cps:List Nat) (t nd hr ha S sd n2i:Nat) (ks:Nat×Nat×Nat×Nat) (V:Nat) (sl:SL) (Lf ld lde eh:Nat) (hm:MI) (Qf:List Lv->Prop)
noncomputable def nY {w:E9} {fr S sd n2i:Nat} {ks:Nat×Nat×Nat×Nat} {V a b:Nat} {p n:Int×Nat} {r:List (Nat×Nat)} {F:Obj} (h:(decide (n.1<p.1) || !r.isEmpty)=false) (g:r.length<=6):PP (env w) (lJ [(fr,F),(S,bd sd),(sd,be w.params ks n2i (.ref a) p n),(a,ae (r.map cv) b)] (.ret (.ref V))):=λ_ d=>
 .seg 0x3002000000000000002000000000002000000000002001 λO=>.use _ (v6 w S sd ks n2i a b p n r Bool.false h (by omega)) [1,1,1] [] λx f=>.seg 4 λe=>d () trivial [3,0,0,0] [] []
theorem q8 (q:Option ((Int×Nat)×Nat×Option Nat)) {v A:Int} {g h i r e:Nat} {p n:Int×Nat} {a:KA} {x:Nat×Nat} {W E j f C B:Nat} {D:MI} {ws d:List (Nat×Nat)} {I:List ai} {L:List Lv}
 (s:d.length<=6) (o:(decide (n.1<p.1) || !d.isEmpty)=false) (l:0<A) (m:Qf L):
 ab (env w) (iL w fr lc it v A g h i k cps t nd hr ha S sd n2i ks r e p n a x W E V j q f sl Lf ld C lde D hm eh ws d I B L Qf):=by
 rcases q with _ | ⟨st,O,_ | y⟩
 .exact gC (iE w.params it fr lc) (iD w.params) (v1:=λu=>.int v u) (i4 w it (v:=v) (t1:=g) (t2:=h) (t3:=i) l) (λu _=>tk _ (te w fr lc k cps t nd hr ha S a x W V f sl (v,u))) (N:=λb:Empty=>nomatch b) (P:=λ_=>True) (λb _=>nomatch b) rfl (λb=>nomatch b) (λb=>nomatch b) [0] [1] (λu z _ _=>.blk _ (b1 w.params) ((show ax (env w) (lJ [(fr,eS w.params k cps t nd hr ha S (oE w.params a x W V z.1 (v,u)) z.2 sl),(S,bd sd),(sd,be w.params ks n2i (.ref r) p n),(r,ae (d.map cv) e)] (.ret (.ref V))) _ from aG _ (nY o s)).c _) (.ret (.ref V)) 4 [0,1,1,2] λ_ _=>.fin (.inr (L,j)) ⟨m,_,rfl⟩ 11 [10,10,11]) (by kernel_rfl)
 .exact gC (iE w.params it fr lc) (iD w.params) (v1:=λu=>.int v u) (i4 w it (v:=v) (t1:=g) (t2:=h) (t3:=i) l) (λu _=>tk _ (td w fr lc k cps t nd hr ha S a x W V st O f sl (v,u))) (N:=λb:Empty=>nomatch b) (P:=λ_=>True) (λb _=>nomatch b) rfl (λb=>nomatch b) (λb=>nomatch b) [0] [1] (λu z _ _=>.blk _ (b1 w.params) ((show ax (env w) (lJ [(fr,dz w.params k cps t nd hr ha S a x W V (some ((v,u),O,none)) z sl),(S,bd sd),(sd,be w.params ks n2i (.ref r) p n),(r,ae (d.map cv) e)] (.ret (.ref V))) _ from aG _ (nY o s)).c _) (.ret (.ref V)) 4 [0,1,1,2] λ_ _=>.fin (.inr (L,j)) ⟨m,_,rfl⟩ 11 [10,10,11]) (by kernel_rfl)
 .exact gC (iE w.params it fr lc) (iD w.params) (v1:=λu=>.int v u) (i4 w it (v:=v) (t1:=g) (t2:=h) (t3:=i) l) (λu _=>tk _ (tc w fr lc k cps t nd hr ha S a x W V st O y f sl (v,u))) (N:=λb:Empty=>nomatch b) (P:=λ_=>True) (λb _=>nomatch b) rfl (λb=>nomatch b) (λb=>nomatch b) [0] [1] (λu z _ _=>.blk _ (b1 w.params) ((show ax (env w) (lJ [(fr,dz w.params k cps t nd hr ha S a x W V (some ((v,u),O,some y)) z sl),(S,bd sd),(sd,be w.params ks n2i (.ref r) p n),(r,ae (d.map cv) e)] (.ret (.ref V))) _ from aG _ (nY o s)).c _) (.ret (.ref V)) 4 [0,1,1,2] λ_ _=>.fin (.inr (L,j)) ⟨m,_,rfl⟩ 11 [10,10,11]) (by kernel_rfl)
end
noncomputable def ad (l:List (Nat×Nat)):List Nat:=l.map (·.1)
theorem ou {I:List ai} {c:Nat} {v:Int} {u:Nat} (d:(am I).Nodup) (b:c∈am I):az (aJ c (aO v u) I) c=v:=by
 obtain⟨g,i,j,rfl,e,h,a⟩:=jO d b
 rw[lj h e a]
 unfold az
 rw[HD,List.find?_eq_none.mpr (λy f=>by simpa using h y f),List.find?_cons_of_pos (by simpa[aO]using e)]
 rfl
theorem vq:∀{b:List (Nat×Nat)} {I X:List ai} {r i:List (Nat×Nat)},cI b I r X i->(am I).Nodup->(∀s∈b,s.1∈am I)->(∀c∈ad b,((ad b).count c:Int)<=az I c)->
 (∀c,az X c=az I c-((ad b).count c:Nat))/\∃n,i=r++n/\(ad n).Nodup/\∀c,c∈ad n<->c∈ad b/\az I c=((ad b).count c:Nat)
 | [],I,X,r,i,⟨f,y⟩,m,hk,k=>by
  subst f;subst y
  exact⟨λc=>by simp[ad],[],by simp,Gv,λc=>by simp[ad]⟩
 | s::b,I,X,r,i,⟨u,h⟩,m,hk,k=>by
  have F:=hk s E2
  have C:(am (aJ s.1 (aO (az I s.1-1) u) I)).Nodup:=by rw[dg (bX _ _)];exact m
  have j:az (aJ s.1 (aO (az I s.1-1) u) I) s.1=az I s.1-1:=ou m F
  have d:∀c,s.1≠c->az (aJ s.1 (aO (az I s.1-1) u) I) c=az I c:=λc D=>lV (bX _ _) D
  have ct:∀c,(ad (s::b)).count c=(ad b).count c+if s.1=c then 1 else 0:=λc=>by
   unfold ad
   rw[Fw,List.count_cons]
   simp
  have A:∀c∈ad b,((ad b).count c:Int)<=az (aJ s.1 (aO (az I s.1-1) u) I) c:=λc B=>by
   have:=k c (E4 _ B)
   rw[ct]at this
   by_cases q:s.1=c
   .subst q
    rw[j]
    simp at this
    omega
   .rw [d c q]
    simp[q]at this
    omega
  obtain⟨a,n,g,p,l⟩:=vq h C (λx G=>by rw[dg (bX _ _)];exact hk x (E4 _ G)) A
  have t:∀c,az X c=az I c-((ad (s::b)).count c:Nat):=λc=>by
   rw[a c,ct]
   by_cases q:s.1=c
   .subst q
    rw[j]
    simp
    omega
   .rw [d c q]
    simp[q]
  have f:=k s.1 E2
  rw[ct]at f
  simp at f
  by_cases v:az I s.1-1=0
  .rw [if_pos v]at g
   have w:(ad b).count s.1=0:=by omega
   have E:s.1∉ad b:=Hn.mp w
   refine⟨t,s::n,by rw[g];simp, ?_,λc=>?_⟩
   .show (s.1::ad n).Nodup
    rw[GQ]
    exact⟨λz=>E ((l s.1).mp z).1,p⟩
   .show c∈s.1::ad n<->c∈s.1::ad b/\_
    rw[ct,GR,GR,l c]
    by_cases q:s.1=c
    .subst q
     simp
     omega
    .have o:¬c=s.1:=λz=>q z.symm
     simp only[o,q,false_or,if_false,Nat.add_zero,d c q]
  .rw [if_neg v]at g
   refine⟨t,n,g,p,λc=>?_⟩
   show c∈ad n<->c∈s.1::ad b/\_
   rw[ct,GR,l c]
   by_cases q:s.1=c
   .subst q
    rw[j]
    simp only[if_true,true_or,true_and]
    constructor
    .rintro ⟨_,e⟩;omega
    .intro e
     have hp:0<(ad b).count s.1:=by omega
     exact⟨H1.mp hp,by omega⟩
   .have o:¬c=s.1:=λz=>q z.symm
    simp only[o,q,false_or,if_false,Nat.add_zero,d c q]
noncomputable def ba (s:Nat->List Nat):List Nat->Nat->Nat
 | [],_=>0
 | p::a,c=>(s p).count c+ba s a c
theorem xJ {I:List ai} {s:Nat->List Nat} (b:(am I).Nodup) (d:∀i∈I,ad i.su=s i.node.1) {c:Nat} (a:c∈am I):ad (bj I c)=s c:=by
 obtain⟨i,h,e⟩:=Gl.mp a
 have:=jL b h
 rw[e]at this
 rw[this,d i h,e]
theorem qS {I X:List ai} {s:Nat->List Nat} (hk:am X=am I) (j:X.map (·.su)=I.map (·.su)) (g:∀i∈I,ad i.su=s i.node.1):∀i∈X,ad i.su=s i.node.1:=by
 intro i f
 obtain⟨n,a,e⟩:=Iu.mp f
 have d:X.length=I.length:=by have:=congrArg Fo hk;simpa[am]using this
 have h:(am X)[n]? =(am I)[n]? :=by rw[hk]
 have b:(X.map (·.su))[n]? =(I.map (·.su))[n]? :=by rw[j]
 unfold am at h
 rw[Fl,Fl,Fh a,Fh (d▸a),e]at h
 rw[Fl,Fl,Fh a,Fh (d▸a),e]at b
 simp only[GD,Option.some.injEq]at h b
 rw[h,b]
 exact g _ (List.getElem_mem _)
theorem vb {s:Nat->List Nat}:∀{a:List (Nat×Nat)} {I f:List ai} {H J:List (Nat×Nat)},ec a I H f J->(am I).Nodup->(∀i∈I,ad i.su=s i.node.1)->(∀p∈ad a,p∈am I)->(ad a).Nodup->(∀p∈ad a,∀c∈s p,c∈am I/\c∉ad a)->
 (∀c,c∉ad a->0<ba s (ad a) c->(ba s (ad a) c:Int)<=az I c)->
 am f=am I/\(∀i∈f,ad i.su=s i.node.1)/\(∀c∈am I,az f c=if c∈ad a then-2 else az I c-(ba s (ad a) c:Nat))/\∃P,J=H++P/\(ad P).Nodup/\∀c,c∈ad P<->0<ba s (ad a) c/\az I c=(ba s (ad a) c:Nat)
 | [],I,f,H,J,⟨r,M⟩,k,A,hk,hp,m,t=>by
  subst r;subst M
  exact⟨rfl,A,λc _=>by simp[ad,ba],[],by simp,Gv,λc=>by simp[ad,ba]⟩
 | p::a,I,f,H,J,⟨u,Q,ID,r,M⟩,k,A,hk,hp,m,t=>by
  have Ix:p.1∉ad a/\(ad a).Nodup:=GQ.mp hp
  have W:=hk p.1 E2
  have n:=xJ k A W
  have D:am (aJ p.1 (aO (-2) u) I)=am I:=dg (bX _ _) I
  have G:∀c,p.1≠c->az (aJ p.1 (aO (-2) u) I) c=az I c:=λc w=>lV (bX _ _) w
  have Z:az (aJ p.1 (aO (-2) u) I) p.1= -2:=ou k W
  have B:∀c∈s p.1,c∈am I/\c∉ad (p::a):=m p.1 E2
  have w:∀c∈s p.1,p.1≠c:=λc h z=>(B c h).2 (by rw[<-z];exact E2)
  obtain⟨gt,E,Iy,U,S⟩:=vq r (by rw[D];exact k) (λx b=>by rw[D];exact(B x.1 (n▸Fc b)).1) (λc h=>by
   rw[n]at h⊢
   rw[G c (w c h)]
   have:=t c (B c h).2 (by show 0<(s p.1).count c+ba s (ad a) c;have:=H1.mpr h;omega)
   have e:ba s (ad (p::a)) c=(s p.1).count c+ba s (ad a) c:=rfl
   rw[e]at this
   omega)
  obtain⟨_,Y,ks,_,_⟩:=cI.keeps r
  have q:am Q=am I:=Y.trans D
  have IA:∀i∈aJ p.1 (aO (-2) u) I,ad i.su=s i.node.1:=qS D (by
   unfold aJ
   rw[GU]
   refine Gz λi _=>?_
   show(if i.node.1=p.1 then _ else i).su=i.su
   split<;>rfl) A
  have IB:=qS Y ks IA
  have g:∀c,az Q c=az (aJ p.1 (aO (-2) u) I) c-((s p.1).count c:Nat):=λc=>by rw[gt c,n]
  obtain⟨b1,b2,b3,F,Iz,V,T⟩:=vb M (by rw[q];exact k) IB (λx b=>by rw[q];exact hk x (E4 _ b)) Ix.2 (λx b c h=>by
   rw[q]
   have:=m x (E4 _ b) c h
   exact⟨this.1,λz=>this.2 (E4 _ z)⟩) (λc Iv C=>by
   have d:p.1≠c:=λz=>by
    have:∀(l:List Nat),(∀x∈l,x∈ad a)->ba s l c=0:=by
     intro l j
     induction l with
     | nil=>rfl
     | cons x l O=>
      have L:(s x).count c=0:=Hn.mpr λh=>(m x (E4 _ (j x E2)) c h).2 (by rw[<-z];exact E2)
      show(s x).count c+ba s l c=0
      rw[L,O λy o=>j y (E4 _ o)]
    rw[this _ λx b=>b]at C
    omega
   rw[g c,G c d]
   have:=t c (λz=>by
    rcases GR.mp z with z | z
    .exact d z.symm
    .exact Iv z) (by show 0<(s p.1).count c+ba s (ad a) c;omega)
   have e:ba s (ad (p::a)) c=(s p.1).count c+ba s (ad a) c:=rfl
   rw[e]at this
   omega)
  have N:(s p.1).count p.1=0:=Hn.mpr λh=>w p.1 h rfl
  have X:ba s (ad a) p.1=0:=by
   have:∀(l:List Nat),(∀x∈l,x∈ad a)->ba s l p.1=0:=by
    intro l j
    induction l with
    | nil=>rfl
    | cons x l O=>
     have L:(s x).count p.1=0:=Hn.mpr λh=>(m x (E4 _ (j x E2)) p.1 h).2 E2
     show(s x).count p.1+ba s l p.1=0
     rw[L,O λy o=>j y (E4 _ o)]
   exact this _ λx b=>b
  refine⟨b1.trans q,b2,λc io=>?_,E++F,by rw[Iz,Iy,Fp], ?_,λc=>?_⟩
  .rw [b3 c (by rw[q];exact io)]
   show(if c∈ad a then(-2:Int)else _)=if c∈p.1::ad a then-2 else az I c-((s p.1).count c+ba s (ad a) c:Nat)
   by_cases v:c∈ad a
   .rw [if_pos v,if_pos (E4 _ v)]
   .rw [if_neg v]
    by_cases d:p.1=c
    .subst d
     rw[if_pos E2,g,Z,N,X]
     simp
    .rw [if_neg (λz=>(GR.mp z).elim (λz=>d z.symm) v),g c,G c d]
     omega
  .unfold ad at U V⊢
   rw[Ff,Gm]
   refine⟨U,V,λx b y o z=>?_⟩
   subst z
   have R:=(S x).mp b
   have g2:=(T x).mp o
   rw[n]at R
   rw[g x,R.2]at g2
   omega
  .show c∈ad (E++F)<->0<(s p.1).count c+ba s (ad a) c/\az I c=((s p.1).count c+ba s (ad a) c:Nat)
   have Iw:c∈ad (E++F)<->c∈ad E\/c∈ad F:=by unfold ad;rw[Ff,GE]
   rw[Iw,S c,T c,n,g c]
   by_cases d:p.1=c
   .subst d
    rw[Z,N,X]
    constructor
    .rintro (⟨h,_⟩ | ⟨h,_⟩)
     .exact absurd h (Hn.mp N)
     .omega
    .rintro ⟨h,_⟩;omega
   .rw [G c d]
    constructor
    .rintro (⟨h,e⟩ | ⟨h,e⟩)
     .have IC:=H1.mpr h
      refine⟨by omega, ?_⟩
      by_cases C:0<ba s (ad a) c
      .have:=t c (B c h).2 (by show 0<(s p.1).count c+ba s (ad a) c;omega)
       have e':ba s (ad (p::a)) c=(s p.1).count c+ba s (ad a) c:=rfl
       rw[e']at this
       omega
      .omega
     .exact ⟨by omega,by omega⟩
    .rintro ⟨h,e⟩
     by_cases C:0<ba s (ad a) c
     .exact .inr ⟨C,by omega⟩
     .exact .inl ⟨H1.mp (by omega),by omega⟩
noncomputable def mx (l:List Int):Int:=l.foldr max 0
theorem gV:∀l:List Int,0<=mx l
 | []=>Int.le_refl _
 | x::l=>by have:=gV l;show 0<=max x (mx l);omega
theorem gh:∀{l:List Int} {x:Int},x∈l->x<=mx l
 | y::l,x,h=>by
  show x<=max y (mx l)
  rcases GR.mp h with rfl | h
  .omega
  .have:=gh h;omega
theorem fQ:∀{l:List Int} {b:Int},(∀x∈l,x<=b)->0<=b->mx l<=b
 | [],b,_,h=>h
 | y::l,b,h,a=>by
  show max y (mx l)<=b
  have:=fQ (l:=l) (λx d=>h x (E4 _ d)) a
  have:=h y E2
  omega
theorem i5:∀{l:List Int},mx l=0\/mx l∈l
 | []=>.inl rfl
 | y::l=>by
  show max y (mx l)=0\/max y (mx l)∈y::l
  by_cases a:y<=mx l
  .rw [show max y (mx l)=mx l by omega]
   rcases i5 (l:=l)with h | h
   .exact .inl h
   .exact .inr (E4 _ h)
  .rw [show max y (mx l)=y by omega]
   exact .inr E2
noncomputable def ft (pre:Nat->List Nat) (h:Nat->Int):Nat->Nat->Int
 | 0,_=>0
 | n+1,c=>h c+mx ((pre c).map (ft pre h n))
noncomputable def Fn (a:List Nat) (pre:Nat->List Nat) (h:Nat->Int) (c:Nat):Int:=ft pre h (a.length+1) c
noncomputable def An (a:List Nat) (pre:Nat->List Nat) (h:Nat->Int) (c:Nat):Int:=mx ((pre c).map (Fn a pre h))
structure cH (cps:List Nat) (pre:Nat->List Nat) (h:Nat->Int):Prop where
 nd:cps.Nodup
 pos:∀c∈cps,0<=h c
 ord:∀c∈cps,∀p∈pre c,p∈cps/\cps.idxOf p<cps.idxOf c
section
variable {cps:List Nat} {pre:Nat->List Nat} {h:Nat->Int}
theorem uV (g:cH cps pre h):∀(n:Nat) (c:Nat),c∈cps->cps.idxOf c<n->ft pre h n c=ft pre h (n+1) c
 | 0,c,_,a=>absurd a (Nat.not_lt_zero _)
 | n+1,c,d,a=>by
  show h c+mx ((pre c).map (ft pre h n))=h c+mx ((pre c).map (ft pre h (n+1)))
  have:(pre c).map (ft pre h n)=(pre c).map (ft pre h (n+1)):=Gz λp hp=>by
   obtain⟨b,e⟩:=g.ord c d p hp
   exact uV g n p b (by omega)
  rw[this]
theorem d9 (g:cH cps pre h) {c:Nat} (b:c∈cps):Fn cps pre h c=h c+An cps pre h c:=by
 show h c+mx ((pre c).map (ft pre h cps.length))=h c+mx ((pre c).map (Fn cps pre h))
 have:(pre c).map (ft pre h cps.length)=(pre c).map (Fn cps pre h):=Gz λp hp=>by
  obtain⟨a,d⟩:=g.ord c b p hp
  have:=Gt a
  exact uV g _ p a this
 rw[this]
theorem fW (c:Nat):0<=An cps pre h c:=gV _
theorem EV (g:cH cps pre h) {c:Nat} (a:c∈cps):An cps pre h c<=Fn cps pre h c:=by
 have:=d9 g a
 have:=g.pos c a
 omega
theorem kX (c:Nat) {p:Nat} (hp:p∈pre c):Fn cps pre h p<=An cps pre h c:=gh (Fc hp)
theorem iT (g:cH cps pre h) {P:Nat->Prop} (e:∀c∈cps,(∀p∈pre c,P p)->P c):∀c∈cps,P c:=by
 have k:∀(n:Nat) (c:Nat),c∈cps->cps.idxOf c<n->P c:=by
  intro n
  induction n with
  | zero=>intro c _ b;exact absurd b (Nat.not_lt_zero _)
  | succ n i=>
   intro c a b
   refine e c a λp hp=>?_
   obtain⟨d,f⟩:=g.ord c a p hp
   exact i p d (by omega)
 exactλc a=>k (cps.idxOf c+1) c a (Nat.lt_succ_self _)
end
noncomputable def bc (a:List Nat) (pre:Nat->List Nat) (p:Nat):List Nat:=a.flatMap λx=>FX ((pre x).count p) x
theorem nr (pre:Nat->List Nat) (p c:Nat):∀{a:List Nat},a.Nodup->(bc a pre p).count c=if c∈a then(pre c).count p else 0
 | [],_=>rfl
 | x::a,h=>by
  rw[GQ]at h
  have i:=nr pre p c h.2
  unfold bc at i⊢
  rw[GP,List.count_append,i,List.count_replicate]
  by_cases q:x=c
  .subst q
   simp[h.1]
  .have b:¬c=x:=λz=>q z.symm
   simp[q,b]
theorem iG {a:List Nat} {pre:Nat->List Nat} {p c:Nat}:c∈bc a pre p<->c∈a/\p∈pre c:=by
 unfold bc
 rw[List.mem_flatMap]
 constructor
 .rintro ⟨x,b,h⟩
  rw[List.mem_replicate]at h
  obtain⟨d,rfl⟩:=h
  exact⟨b,H1.mp (by omega)⟩
 .rintro ⟨h,hp⟩
  exact⟨c,h,List.mem_replicate.mpr ⟨by have:=H1.mpr hp;omega,rfl⟩⟩
noncomputable def cC (pre:Nat->List Nat) (D:List Nat) (c:Nat):Nat:=((pre c).filter λp=>decide (p∉D)).length
theorem jF {pre:Nat->List Nat} {D:List Nat} {c:Nat}:cC pre D c=0<->∀p∈pre c,p∈D:=by
 unfold cC
 rw[GL,List.filter_eq_nil_iff]
 simp
theorem uW (D:List Nat) (p:Nat) (hp:p∉D):∀l:List Nat,(l.filter λx=>decide (x∉D)).length=(l.filter λx=>decide (x∉p::D)).length+l.count p
 | []=>rfl
 | x::l=>by
  have i:=uW D p hp l
  rw[GK,GK,List.count_cons]
  by_cases q:x=p
  .subst q
   simp[hp]
   simp at i
   omega
  .by_cases h:x∈D
   .simp [h,q]
    simpa using i
   .simp [h,q]
    have:(l.filter λa=>decide (a∉D)).length=_:=i
    simp at this
    omega
theorem qk {a:List Nat} {pre:Nat->List Nat} (f:a.Nodup) {c:Nat} (d:c∈a):∀{os D:List Nat},os.Nodup->(∀p∈os,p∉D)->cC pre D c=cC pre (os++D) c+ba (bc a pre) os c
 | [],D,_,_=>by simp[ba]
 | p::os,D,b,e=>by
  rw[GQ]at b
  have l:=qk (pre:=pre) f d (os:=os) (D:=p::D) b.2 λq g z=>by
   rcases GR.mp z with z | z
   .exact b.1 (z▸g)
   .exact e q (E4 _ g) z
  have i:cC pre D c=cC pre (p::D) c+(pre c).count p:=uW D p (e p E2) (pre c)
  have j:ba (bc a pre) (p::os) c=(pre c).count p+ba (bc a pre) os c:=by
   show(bc a pre p).count c+_=_
   rw[nr pre p c f,if_pos d]
  have k:cC pre (p::os++D) c=cC pre (os++p::D) c:=by
   unfold cC
   refine congrArg Fo (List.filter_congr λx _=>?_)
   simp only[GE,GR,H7]
   rw[decide_eq_decide]
   constructor<;>intro h z<;>apply h
   .rcases z with z | z | z
    .exact .inr (.inl z)
    .exact .inl z
    .exact .inr (.inr z)
   .rcases z with z | z | z
    .exact .inr (.inl z)
    .exact .inl z
    .exact .inr (.inr z)
  omega
theorem mY {cps:List Nat} {pre:Nat->List Nat} {c:Nat}:∀{os:List Nat},0<ba (bc cps pre) os c<->c∈cps/\∃p∈os,p∈pre c
 | []=>by simp[ba]
 | p::os=>by
  have i:=mY (cps:=cps) (pre:=pre) (c:=c) (os:=os)
  have e:ba (bc cps pre) (p::os) c=(bc cps pre p).count c+ba (bc cps pre) os c:=rfl
  rw[e]
  constructor
  .intro h
   by_cases q:0<(bc cps pre p).count c
   .have:=iG.mp (H1.mp q)
    exact⟨this.1,p,E2,this.2⟩
   .obtain ⟨d,x,a,f⟩:=i.mp (by omega)
    exact⟨d,x,E4 _ a,f⟩
  .rintro ⟨b,x,a,hp⟩
   rcases GR.mp a with rfl | a
   .have:=H1.mpr (iG.mpr ⟨b,hp⟩)
    omega
   .have:=i.mpr ⟨b,x,a,hp⟩
    omega
theorem mj {m:MI} {c d t:Nat} {v:Int×Nat}:aa (aw m c t v) d=if c=d then v.1 else aa m d:=by
 have l:look? (aw m c t v) d=if c=d then some v else look? m d:=by
  induction m with
  | nil=>unfold aw look?;split<;>rfl
  | cons x m i=>
   obtain⟨k,u,y⟩:=x
   unfold aw
   by_cases hk:k=c
   .rw [if_pos hk]
    subst hk
    unfold look?
    split<;>rfl
   .rw [if_neg hk,look?,look?,i]
    by_cases h:k=d
    .rw [if_pos h,if_pos h,if_neg (λz=>hk (h.trans z.symm))]
    .rw [if_neg h,if_neg h]
 unfold aa
 rw[l]
 split<;>rfl
theorem oT {m:MI} {c t:Nat} {v:Int×Nat} (h:c∈ak m):ak (aw m c t v)=ak m:=by
 induction m with
 | nil=>cases h
 | cons x m i=>
  obtain⟨k,u,y⟩:=x
  unfold aw
  by_cases hk:k=c
  .rw [if_pos hk];rfl
  .rw [if_neg hk]
   have a:c∈ak m:=(GR.mp h).resolve_left (λz=>hk z.symm)
   show k::ak (aw m c t v)=k::ak m
   rw[i a]
theorem qR:∀{ws:List (Nat×Nat)} {m d:MI},jz ws m d->(ad ws).Nodup->(∀c∈ad ws,c∈ak m)->ak d=ak m/\∀c,aa d c=if c∈ad ws then aa m c-1 else aa m c
 | [],m,d,h,_,_=>by
  have h:d=m:=h
  subst h
  exact⟨rfl,λc=>by simp[ad]⟩
 | x::ws,m,d,⟨u,h⟩,g,hk=>by
  have e:x.1∉ad ws/\(ad ws).Nodup:=GQ.mp g
  have k:=oT (t:=x.2) (v:=(aa m x.1-1,u)) (hk x.1 E2)
  obtain⟨a,b⟩:=qR h e.2 λc f=>by rw[k];exact hk c (E4 _ f)
  refine⟨a.trans k,λc=>?_⟩
  rw[b c,mj]
  show _=if c∈x.1::ad ws then _ else _
  by_cases q:x.1=c
  .subst q
   rw[if_neg e.1,if_pos rfl,if_pos E2]
  .have i:¬c=x.1:=λz=>q z.symm
   rw[if_neg q]
   simp only[GR,i,false_or]
theorem BH {I:List ai} (d:(am I).Nodup):fC (ay I) I:=λi h=>by
 obtain⟨j,R,k,e,l,_,_⟩:=fX d (Fc (f:=λi:ai=>i.node.1) h)
 rw[l]
 obtain⟨m,x,n,rfl,o,a,b⟩:=jO d (Fc (f:=λi:ai=>i.node.1) h)
 have f:j=x:=by
  rcases GE.mp k with q | q
  .exact absurd e (a j q)
  .rcases GR.mp q with q | q
   .exact q
   .exact absurd e (b j q)
 have g:i=x:=by
  rcases GE.mp h with q | q
  .exact absurd rfl (a i q)
  .rcases GR.mp q with q | q
   .exact q
   .exact absurd rfl (b i q)
 rw[f,g]
theorem jf:∀(r:List (Nat×Nat)) (I:List ai),am (db r I)=am I
 | [],_=>rfl
 | p::r,I=>(jf r _).trans (dg (bX _ _) I)
theorem m9 {s:Nat->List Nat}:∀(r:List (Nat×Nat)) (I:List ai),(∀i∈I,ad i.su=s i.node.1)->∀i∈db r I,ad i.su=s i.node.1
 | [],_,h=>h
 | p::r,I,h=>m9 r _ (by
  intro i a
  obtain⟨j,b,rfl⟩:=Gl.mp a
  have:=h j b
  split
  .exact this
  .exact this)
theorem tz:∀(r:List (Nat×Nat)) (I:List ai),(am I).Nodup->(∀p∈ad r,p∈am I)->∀c,az (db r I) c=if c∈ad r then-1 else az I c
 | [],I,_,_,c=>by simp[ad,db]
 | p::r,I,a,h,c=>by
  have i:=tz r (aJ p.1 (aO (-1) 1766) I) (by rw[dg (bX _ _)];exact a) (λq b=>by rw[dg (bX _ _)];exact h q (E4 _ b)) c
  show az (db r (aJ p.1 (aO (-1) 1766) I)) c=if c∈p.1::ad r then-1 else az I c
  rw[i]
  by_cases q:c∈ad r
  .rw [if_pos q,if_pos (E4 _ q)]
  .rw [if_neg q]
   by_cases e:p.1=c
   .subst e
    rw[if_pos E2]
    exact ou a (h p.1 E2)
   .rw [if_neg (λz=>(GR.mp z).elim (λz=>e z.symm) q)]
    exact lV (bX _ _) e
theorem dc {b:MI} {l:List (Nat×Nat)} {c:Nat}:c∈ad (aP b l)<->c∈ad l/\aa b c=0:=by
 unfold ad aP
 constructor
 .intro h
  obtain⟨x,a,rfl⟩:=Gl.mp h
  obtain⟨e,f⟩:=Ic.mp a
  exact⟨Fc e,by simpa using f⟩
 .rintro ⟨h,d⟩
  obtain⟨x,a,rfl⟩:=Gl.mp h
  exact Fc (Ic.mpr ⟨a,by simpa using d⟩)
theorem gY {b:MI} {l:List (Nat×Nat)} {c:Nat}:c∈ad (bA b l)<->c∈ad l/\aa b c≠0:=by
 unfold ad bA
 constructor
 .intro h
  obtain⟨x,a,rfl⟩:=Gl.mp h
  obtain⟨e,f⟩:=Ic.mp a
  exact⟨Fc e,by simpa using f⟩
 .rintro ⟨h,d⟩
  obtain⟨x,a,rfl⟩:=Gl.mp h
  exact Fc (Ic.mpr ⟨a,by simpa using d⟩)
theorem tI {a:MI} {l:List (Nat×Nat)} (h:(ad l).Nodup):(ad (aP a l)).Nodup:=h.sublist (List.filter_sublist.map _)
theorem Bj {a:MI} {l:List (Nat×Nat)} (h:(ad l).Nodup):(ad (bA a l)).Nodup:=h.sublist (List.filter_sublist.map _)
theorem oQ (a:MI):∀l:List (Nat×Nat),(aP a l).length+(bA a l).length=l.length
 | []=>rfl
 | x::l=>by
  have i:=oQ a l
  unfold aP bA at i⊢
  rw[GK,GK]
  by_cases q:aa a x.1=0
  .simp [q]at i⊢;omega
  .simp [q]at i⊢;omega
theorem eV (l:List (Nat×Nat)):(ad l).length=l.length:=Fq ..
theorem iA:∀{l m:List Nat},l.Nodup->(∀c∈l,c∈m)->l.length<=m.length
 | [],_,_,_=>Gi _
 | x::l,m,h,b=>by
  rw[GQ]at h
  have d:=b x E2
  have i:=iA (m:=m.erase x) h.2 λc a=>(List.mem_erase_of_ne (λz:c=x=>h.1 (z▸a))).mpr (b c (E4 _ a))
  rw[List.length_erase_of_mem d]at i
  have:=List.length_pos_of_mem d
  rw[Fd]
  omega
theorem ru {pre:Nat->List Nat} {p:Nat}:∀{cps:List Nat},(∀c∈cps,(pre c).count p<=2)->(bc cps pre p).length<=2*cps.length
 | [],_=>Gi _
 | x::cps,h=>by
  have i:=ru (cps:=cps) λc a=>h c (E4 _ a)
  have:=h x E2
  unfold bc at i⊢
  rw[GP,FW,HZ,Fd]
  omega
noncomputable def EU (a:List Nat) (pre:Nat->List Nat) (h:Nat->Int) (d:MI) (j:Nat) (l:Lv):Prop:=
 ∃b:List Nat,b.Nodup/\aH l.m=b.map (λc=>(c,aa d c))/\∀c,c∈b<->c∈a/\An a pre h c<=j/\(j:Int)<Fn a pre h c
noncomputable def pV (a:List Nat) (pre:Nat->List Nat) (h:Nat->Int) (b:MI) (L:List Lv):Prop:=∀j l,L[j]? =some l->EU a pre h b j l
structure eX (cps:List Nat) (pre:Nat->List Nat) (h:Nat->Int) (hm:MI):Prop where
 g:cH cps pre h
 five:cps.length<=5
 two:∀c∈cps,∀p,(pre c).count p<=2
 hk:∀c∈cps,∃v,look? hm c=some v
 top:∀c∈cps,Fn cps pre h c<=20
structure bL (cps:List Nat) (pre:Nat->List Nat) (h:Nat->Int) (hm lm:MI) (ws rd:List (Nat×Nat)) (I:List ai) (LV:List Lv) (D:List Nat) (po nf:Int):Prop where
 key:am I=cps
 su:∀i∈I,ad i.su=bc cps pre i.node.1
 dsub:∀c∈D,c∈cps
 dnd:D.Nodup
 wsub:∀c∈ad ws,c∈cps/\c∉D
 nd:(ad (ws++rd)).Nodup
 rdy:∀c,c∈ad rd<->c∈cps/\c∉D/\c∉ad ws/\cC pre D c=0
 npx:∀c∈cps,az I c=if c∈D then-2 else if c∈ad ws then-1 else(cC pre D c:Int)
 dok:∀d∈D,(∀p∈pre d,p∈D)/\Fn cps pre h d<=LV.length
 wok:∀c∈ad ws,(∀p∈pre c,p∈D)/\An cps pre h c<=LV.length/\(LV.length:Int)<=Fn cps pre h c/\aa lm c=Fn cps pre h c-LV.length
 rok:∀c∈ad rd,An cps pre h c=LV.length
 lok:∀c∈cps,c∉D->c∉ad ws->aa lm c=h c
 pn:po-nf=ws.length
 lvs:pV cps pre h hm LV
 top:LV.length=0\/∃c∈cps,(LV.length:Int)<=Fn cps pre h c
 lkey:∀c∈cps,c∈ak lm
 llen:lm.length<=8
section
variable {cps:List Nat} {pre:Nat->List Nat} {h:Nat->Int} {hm lm:MI} {ws rd:List (Nat×Nat)} {I:List ai} {LV:List Lv} {D:List Nat} {po nf:Int}
theorem gZ {c:Nat}:c∈ad (ws++rd)<->c∈ad ws\/c∈ad rd:=by unfold ad;rw[Ff,GE]
theorem bL.both (C:eX cps pre h hm) (S:bL cps pre h hm lm ws rd I LV D po nf) {c:Nat} (f:c∈ad (ws++rd)):c∈cps/\c∉D/\(∀p∈pre c,p∈D)/\An cps pre h c<=LV.length/\(LV.length:Int)<=Fn cps pre h c/\aa lm c=Fn cps pre h c-LV.length:=by
 rcases gZ.mp f with q | q
 .have a:=S.wsub c q
  have b:=S.wok c q
  exact⟨a.1,a.2,b.1,b.2.1,b.2.2.1,b.2.2.2⟩
 .obtain ⟨a,b,d,e⟩:=(S.rdy c).mp q
  have g:=S.rok c q
  have i:=S.lok c a b d
  have j:=d9 C.g a
  have k:=C.g.pos c a
  exact⟨a,b,jF.mp e,by omega,by omega,by omega⟩
theorem bL.disj (S:bL cps pre h hm lm ws rd I LV D po nf) {c:Nat} (e:c∈cps) (f:c∉D) (a:c∉ad (ws++rd)):c∉ad ws/\c∉ad rd/\cC pre D c≠0:=by
 rw[gZ]at a
 have b:c∉ad ws:=λz=>a (.inl z)
 have d:c∉ad rd:=λz=>a (.inr z)
 exact⟨b,d,λz=>d ((S.rdy c).mpr ⟨e,f,b,z⟩)⟩
theorem bL.few (C:eX cps pre h hm) (S:bL cps pre h hm lm ws rd I LV D po nf):(ws++rd).length<=5:=by
 rw[<-eV]
 exact F2 (iA S.nd λc a=>(S.both C a).1) C.five
theorem bL.rdsub (S:bL cps pre h hm lm ws rd I LV D po nf):∀p∈ad rd,p∈am I:=λp hp=>by rw[S.key];exact((S.rdy p).mp hp).1
theorem bL.npr (C:eX cps pre h hm) (S:bL cps pre h hm lm ws rd I LV D po nf) {c:Nat} (a:c∈cps):az (db rd I) c=if c∈D then-2 else if c∈ad (ws++rd)then-1 else(cC pre D c:Int):=by
 rw[tz rd I (by rw[S.key];exact C.g.nd) S.rdsub c,S.npx c a]
 by_cases q:c∈ad rd
 .rw [if_pos q,if_neg ((S.rdy c).mp q).2.1,if_pos (gZ.mpr (.inr q))]
 .rw [if_neg q]
  by_cases e:c∈ad ws
  .rw [if_pos e,if_pos (gZ.mpr (.inl e))]
  .rw [if_neg e,if_neg (λz=>(gZ.mp z).elim e q)]
theorem bL.nextOut (C:eX cps pre h hm) (S:bL cps pre h hm lm ws rd I LV D po nf) {s p:Nat} (hp:p∈ad (aP lm (ws++rd))) (e:s∈bc cps pre p):s∈cps/\s∉ad (aP lm (ws++rd))/\s∉ad (ws++rd)/\s∉D:=by
 obtain⟨d,a⟩:=iG.mp e
 have b:=S.both C (dc.mp hp).1
 have n:s∉ad (ws++rd):=λz=>b.2.1 ((S.both C z).2.2.1 p a)
 exact⟨d,λz=>n (dc.mp z).1,n,λz=>b.2.1 ((S.dok s z).1 p a)⟩
theorem bL.stepC (C:eX cps pre h hm) (S:bL cps pre h hm lm ws rd I LV D po nf) (k:ws++rd≠[]):v7 lm hm ws rd I LV:=by
 have few:=S.few C
 have n:(am I).Nodup:=by rw[S.key];exact C.g.nd
 have e:(am (db rd I)).Nodup:=by rw[jf];exact n
 have l:=oQ lm (ws++rd)
 have f:=m9 rd I S.su
 refine⟨?_,k,by omega,S.nd,n,λp hp=>S.rdsub p.1 (Fc hp),⟨e,BH e, ?_,tI S.nd, ?_, ?_, ?_, ?_⟩,by omega, ?_, ?_, ?_⟩
 .rw [FW]at few;omega
 .intro p hp
  rw[jf,S.key]
  exact(S.both C (dc.mp (Fc (f:=(·.1)) hp)).1).1
 .intro p hp
  have hm:=(dc.mp (Fc (f:=(·.1)) hp:p.1∈ad (aP lm (ws++rd)))).1
  have b:=S.both C hm
  rw[S.npr C b.1,if_neg b.2.1,if_pos hm]
 .intro i d hp s g
  have:=f i d
  have j:s.1∈bc cps pre i.node.1:=by rw[<-this];exact Fc g
  have q:=S.nextOut C hp j
  rw[jf,S.key]
  exact⟨q.1,q.2.1⟩
 .intro i d
  have:=f i d
  rw[<-eV,this]
  have:=ru (cps:=cps) (pre:=pre) (p:=i.node.1) λc a=>C.two c a _
  have:=C.five
  omega
 .simp;omega
 .intro p hp
  exact C.hk p.1 (S.both C (Fc hp)).1
 .have:=S.llen;omega
 .rcases S.top with q | ⟨c,a,q⟩
  .omega
  .have:=C.top c a;omega
theorem bL.ended (C:eX cps pre h hm) (S:bL cps pre h hm lm ws rd I LV D po nf) (e:aP lm (ws++rd)=[]):∀c∈cps,Fn cps pre h c<=LV.length->c∈D:=
 iT C.g λc a i g=>by
  have f:=EV C.g a
  have hp:∀p∈pre c,p∈D:=λp hp=>i p hp (by have:=kX (cps:=cps) (pre:=pre) (h:=h) c hp;omega)
  by_cases q:c∈D
  .exact q
  .exfalso
   have d:c∈ad (ws++rd):=by
    by_cases z:c∈ad (ws++rd)
    .exact z
    .exact absurd (jF.mpr hp) (S.disj a q z).2.2
   have b:=S.both C d
   have:c∈ad (aP lm (ws++rd)):=dc.mpr ⟨d,by omega⟩
   rw[e]at this
   cases this
theorem bL.doneOut (C:eX cps pre h hm) (S:bL cps pre h hm lm ws rd I LV D po nf) (d:ws=[]) (b:rd=[]):∀c∈cps,c∈D:=
 iT C.g λc a hp=>by
  by_cases q:c∈D
  .exact q
  .subst d;subst b
   exact absurd (jF.mpr hp) (S.disj a q (by simp[ad])).2.2
theorem bL.fin (C:eX cps pre h hm) (S:bL cps pre h hm lm ws rd I LV D po nf) (e:ws=[]) (d:rd=[]):(LV.length:Int)=mx (cps.map (Fn cps pre h)):=by
 have b:=S.doneOut C e d
 have g:mx (cps.map (Fn cps pre h))<=LV.length:=fQ (λx f=>by
  obtain⟨c,a,rfl⟩:=Gl.mp f
  exact(S.dok c (b c a)).2) (by omega)
 have i:(LV.length:Int)<=mx (cps.map (Fn cps pre h)):=by
  rcases S.top with q | ⟨c,a,q⟩
  .have:=gV (cps.map (Fn cps pre h));omega
  .have:=gh (Fc (f:=Fn cps pre h) a);omega
 omega
theorem bL.next (C:eX cps pre h hm) (S:bL cps pre h hm lm ws rd I LV D po nf) {A:MI} {L:List Lv} {E:List ai} {u:List (Nat×Nat)} (ne:ws++rd≠[])
 (Iz:pR (aP lm (ws++rd)) (bA lm (ws++rd)) lm hm LV (db rd I) A L E u):
 bL cps pre h hm A (bA lm (ws++rd)) u E L (ad (aP lm (ws++rd))++D) (po+rd.length) (nf+(aP lm (ws++rd)).length)/\
  ((aP lm (ws++rd)=[]/\L.length=LV.length+1)\/(aP lm (ws++rd)≠[]/\L.length=LV.length)):=by
 obtain⟨IG,H⟩:=Iz
 have IJ:(am I).Nodup:=by rw[S.key];exact C.g.nd
 have IK:(am (db rd I)).Nodup:=by rw[jf];exact IJ
 have IM:=m9 rd I S.su
 have t:am (db rd I)=cps:=(jf rd I).trans S.key
 have Iw:∀p∈ad (aP lm (ws++rd)),p∉D:=λp hp=>(S.both C (dc.mp hp).1).2.1
 have IB:=oQ lm (ws++rd)
 have O:(ad (aP lm (ws++rd))).Nodup:=tI S.nd
 have B:∀c∈cps,cC pre D c=cC pre (ad (aP lm (ws++rd))++D) c+ba (bc cps pre) (ad (aP lm (ws++rd))) c:=λc g=>qk C.g.nd g O Iw
 have v:∀c,0<ba (bc cps pre) (ad (aP lm (ws++rd))) c->c∈cps/\c∉D/\c∉ad (ws++rd):=λc r=>by
  obtain⟨i,p,hp,k⟩:=mY.mp r
  have:=S.nextOut C hp (iG.mpr ⟨i,k⟩)
  exact⟨i,this.2.2.2,this.2.2.1⟩
 obtain⟨P,Q,d3,IN,Y,IL,X⟩:=vb H IK IM (λp hp=>by rw[t];exact(S.both C (dc.mp hp).1).1) O (λp hp c g=>by
  have:=S.nextOut C hp g
  rw[t];exact⟨this.1,this.2.1⟩) (λc _ r=>by
  have b:=v c r
  rw[S.npr C b.1,if_neg b.2.1,if_neg b.2.2]
  have:=B c b.1
  omega)
 rw[HB]at Y
 subst Y
 have w:∀c,c∈ad u<->c∈cps/\c∉ad (aP lm (ws++rd))++D/\c∉ad (bA lm (ws++rd))/\cC pre (ad (aP lm (ws++rd))++D) c=0:=λc=>by
  rw[X c]
  constructor
  .rintro ⟨r,e⟩
   have b:=v c r
   rw[S.npr C b.1,if_neg b.2.1,if_neg b.2.2]at e
   have:=B c b.1
   refine⟨b.1,λz=>?_,λz=>b.2.2 (gY.mp z).1,by omega⟩
   rcases GE.mp z with z | z
   .exact b.2.2 (dc.mp z).1
   .exact b.2.1 z
  .rintro ⟨i,k,F,U⟩
   rw[GE,not_or]at k
   have V:c∉ad (ws++rd):=λz=>by
    by_cases q:aa lm c=0
    .exact k.1 (dc.mpr ⟨z,q⟩)
    .exact F (gY.mpr ⟨z,q⟩)
   have h6:=(S.disj i k.2 V).2.2
   have:=B c i
   rw[S.npr C i,if_neg k.2,if_neg V]
   exact⟨by omega,by omega⟩
 have Iv:∀c∈cps,az E c=if c∈ad (aP lm (ws++rd))++D then-2 else if c∈ad (bA lm (ws++rd))then-1 else(cC pre (ad (aP lm (ws++rd))++D) c:Int):=λc g=>by
  rw[d3 c (by rw[t];exact g)]
  have hu:=B c g
  by_cases q:c∈ad (aP lm (ws++rd))
  .rw [if_pos q,if_pos (F5 _ q)]
  .rw [if_neg q,S.npr C g]
   by_cases e:c∈D
   .rw [if_pos e,if_pos (FH _ e)]
    have:ba (bc cps pre) (ad (aP lm (ws++rd))) c=0:=by
     rcases Nat.eq_zero_or_pos (ba (bc cps pre) (ad (aP lm (ws++rd))) c)with z | z
     .exact z
     .exact absurd e (v c z).2.1
    omega
   .rw [if_neg e,if_neg (c:=c∈ad (aP lm (ws++rd))++D) (λz=>(GE.mp z).elim q e)]
    by_cases f:c∈ad (ws++rd)
    .rw [if_pos f,if_pos (gY.mpr ⟨f,λz=>q (dc.mpr ⟨f,z⟩)⟩)]
     have:ba (bc cps pre) (ad (aP lm (ws++rd))) c=0:=by
      rcases Nat.eq_zero_or_pos (ba (bc cps pre) (ad (aP lm (ws++rd))) c)with z | z
      .exact z
      .exact absurd f (v c z).2.2
     omega
    .rw [if_neg f,if_neg (λz=>f (gY.mp z).1)]
     omega
 have io:(ad (bA lm (ws++rd)++u)).Nodup:=by
  unfold ad
  rw[Ff,Gm]
  exact⟨Bj S.nd,IL,λm l y N z=>by subst z;exact((w m).mp N).2.2.1 l⟩
 have R:(ad (aP lm (ws++rd))++D).Nodup:=by
  rw[Gm]
  exact⟨O,S.dnd,λm l y N z=>by subst z;exact Iw m l N⟩
 have T:∀c∈ad (aP lm (ws++rd))++D,c∈cps:=λc g=>by
  rcases GE.mp g with q | q
  .exact (S.both C (dc.mp q).1).1
  .exact S.dsub c q
 have Iy:∀c∈ad (bA lm (ws++rd)),c∈cps/\c∉ad (aP lm (ws++rd))++D:=λc g=>by
  have q:=gY.mp g
  have b:=S.both C q.1
  exact⟨b.1,λz=>(GE.mp z).elim (λz=>q.2 (dc.mp z).2) b.2.1⟩
 have Ix:po+rd.length-(nf+(aP lm (ws++rd)).length)=(bA lm (ws++rd)).length:=by
  have:=S.pn
  rw[FW]at IB
  omega
 rcases IG with⟨o,⟨II,W,G⟩,Z⟩ | ⟨o,G,IC⟩
 .--a level
  subst G
  have M:bA lm (ws++rd)=ws++rd:=uX o
  have IF:u=[]:=by
   rw[o]at H
   exact H.2
  subst IF
  have hL:((LV++[II]).length:Int)=LV.length+1:=by simp
  rw[M]at Z W
  have J:∀c∈ad (ws++rd),(LV.length:Int)<Fn cps pre h c:=λc g=>by
   have b:=S.both C g
   have:c∉ad (aP lm (ws++rd)):=by rw[o];simp[ad]
   have:¬aa lm c=0:=λz=>this (dc.mpr ⟨g,z⟩)
   omega
  obtain⟨k1,k2⟩:=qR Z S.nd λc g=>S.lkey c (S.both C g).1
  have ID:∀c,c∈ad (ws++rd)<->c∈cps/\An cps pre h c<=LV.length/\(LV.length:Int)<Fn cps pre h c:=λc=>by
   constructor
   .intro g
    have b:=S.both C g
    exact⟨b.1,b.2.2.2.1,J c g⟩
   .rintro ⟨i,k,F⟩
    by_cases z:c∈ad (ws++rd)
    .exact z
    .exfalso
     have hD:c∉D:=λy=>by have:=(S.dok c y).2;omega
     refine(S.disj i hD z).2.2 (jF.mpr λp hp=>?_)
     have:=kX (cps:=cps) (pre:=pre) (h:=h) c hp
     exact S.ended C o p (C.g.ord c i p hp).1 (by omega)
  refine⟨⟨P.trans t,Q,T,R,Iy,io,w,Iv, ?_, ?_,(λc g=>nomatch g), ?_,Ix, ?_, ?_, ?_, ?_⟩,.inl ⟨o,by simp⟩⟩
  .intro d s
   rw[o]at s
   have s:d∈D:=s
   have:=S.dok d s
   refine⟨λp hp=>FH _ (this.1 p hp),by omega⟩
  .intro c g
   rw[M]at g
   have b:=S.both C g
   have:=J c g
   refine⟨λp hp=>FH _ (b.2.2.1 p hp),by omega,by omega, ?_⟩
   rw[k2 c,if_pos g]
   omega
  .intro c g i k
   rw[M]at k
   rw[k2 c,if_neg k]
   rw[gZ,not_or]at k
   exact S.lok c g (λz=>i (FH _ z)) k.1
  .intro j m l
   by_cases hj:j<LV.length
   .rw [List.getElem?_append_left hj]at l
    exact S.lvs j m l
   .rw [List.getElem?_append_right (by omega)]at l
    have IA:j=LV.length:=by
     have:=(Fa.mp l).1
     simp at this
     omega
    subst IA
    simp at l
    subst l
    exact⟨ad (ws++rd),S.nd,by rw[W];unfold ad;rw[GU];rfl,ID⟩
  .right
   obtain⟨m,l⟩:=List.exists_mem_of_ne_nil _ ne
   have gt:m.1∈ad (ws++rd):=Fc l
   have:=J _ gt
   exact⟨m.1,(S.both C gt).1,by omega⟩
  .intro c g;rw[k1];exact S.lkey c g
  .have:(ak A).length=(ak lm).length:=by rw[k1]
   unfold ak at this
   simp at this
   have:=S.llen
   omega
 .subst G;subst IC
  refine⟨⟨P.trans t,Q,T,R,Iy,io,w,Iv, ?_, ?_, ?_, ?_,Ix,S.lvs,S.top,S.lkey,S.llen⟩,.inr ⟨o,rfl⟩⟩
  .intro d s
   rcases GE.mp s with q | q
   .obtain ⟨q1,q2⟩:=dc.mp q
    have b:=S.both C q1
    exact⟨λp hp=>FH _ (b.2.2.1 p hp),by omega⟩
   .have:=S.dok d q
    exact⟨λp hp=>FH _ (this.1 p hp),this.2⟩
  .intro c g
   have b:=S.both C (gY.mp g).1
   exact⟨λp hp=>FH _ (b.2.2.1 p hp),b.2.2.2⟩
  .intro c g
   obtain⟨i,k,F,U⟩:=(w c).mp g
   have r:=((X c).mp g).1
   obtain⟨_,p,hp,IE⟩:=mY.mp r
   have b:=dc.mp hp
   have b':=S.both C b.1
   have l1:=kX (cps:=cps) (pre:=pre) (h:=h) c IE
   have l2:An cps pre h c<=L.length:=fQ (λm l=>by
    obtain⟨q,hq,rfl⟩:=Gl.mp l
    have:=jF.mp U q hq
    rcases GE.mp this with z | z
    .obtain ⟨z1,z2⟩:=dc.mp z
     have:=S.both C z1
     omega
    .exact (S.dok q z).2) (by omega)
   omega
  .intro c g i k
   rw[GE,not_or]at i
   refine S.lok c g i.2 λz=>?_
   have z':=gZ (rd:=rd).mpr (.inl z)
   by_cases q:aa A c=0
   .exact i.1 (dc.mpr ⟨z',q⟩)
   .exact k (gY.mpr ⟨z',q⟩)
end
noncomputable def cA (a:List Nat) (pre:Nat->List Nat) (h:Nat->Int) (b:MI) (L:List Lv):Prop:=(L.length:Int)=mx (a.map (Fn a pre h))/\pV a pre h b L
section
variable (w:E9) (fr lc it:Nat) (k:Nat×Nat×Nat×Nat×Nat) (cps:List Nat) (t nd hr ha S sd n2i:Nat) (ks:Nat×Nat×Nat×Nat) (V:Nat) (sl:SL) (Lf ld lde eh:Nat) (hm:MI) (pre:Nat->List Nat) (h:Nat->Int)
theorem bL.kM {l:MI} {ws r:List (Nat×Nat)} {I:List ai} {L:List Lv} {D:List Nat} {p n:Int} (S:bL cps pre h hm l ws r I L D p n):(L.length:Int)<=mx (cps.map (Fn cps pre h)):=by
 rcases S.top with q | ⟨c,a,q⟩
 .have:=gV (cps.map (Fn cps pre h));omega
 .have:=gh (Fc (f:=Fn cps pre h) a);omega
theorem tD {d:Type} {l:List d} {a b:Int} (h:a-b=(l.length:Int)) (k:a<=b):l=[]:=GL.mp (by omega)
theorem tC {a b:Int} (h:a-b=0) (k:b<a):False:=by omega
theorem xP (C:eX cps pre h hm):∀(n:Nat) (q:Option ((Int×Nat)×Nat×Option Nat)) (v j:Int) (M N O J s:Nat) (p d:Int×Nat) (i:KA) (A:Nat×Nat) (W y u g l B:Nat) (m:MI) (ws r:List (Nat×Nat)) (I:List ai) (L:List Lv) (D:List Nat),
 bL cps pre h hm m ws r I L D p.1 d.1->(mx (cps.map (Fn cps pre h))-L.length).toNat+(cps.length-D.length)<=n->(n:Int)<j->
 ab (env w) (iL w fr lc it v j M N O k cps t nd hr ha S sd n2i ks J s p d i A W y V u q g sl Lf ld l lde m hm eh ws r I B L (cA cps pre h hm)):=by
 intro n
 induction n with
 | zero=>
  intro q v j M N O J s p d i A W y u g l B m ws r I L D Z X U
  have few:=Z.few C
  have hk:=Z.kM
  have H:r.length<=6:=by rw[FW]at few;omega
  cases a:(decide (d.1<p.1) || !r.isEmpty)with
  | false=>
   refine q8 w fr lc it k cps t nd hr ha S sd n2i ks V sl Lf ld lde eh hm _ q H a (by omega) ?_
   rw[Bool.or_eq_false_iff]at a
   have hr:r=[]:=by simpa using a.2
   have G:ws=[]:=by
    have f:=a.1
    have b:=Z.pn
    simp at f
    exact tD b f
   exact⟨Z.fin C G hr,Z.lvs⟩
  | true=>
   exfalso
   have o:ws++r≠[]:=λz=>by
    obtain⟨rfl,rfl⟩:=List.append_eq_nil_iff.mp z
    have b:=Z.pn
    simp at a b
    exact tC b a
   obtain⟨x,hx⟩:=List.exists_mem_of_ne_nil _ o
   have P:=Z.both C (Fc (f:=(·.1)) hx:x.1∈ad (ws++r))
   have gt:∀c∈x.1::D,c∈cps:=λc E=>by
    rcases GR.mp E with rfl | E
    .exact P.1
    .exact Z.dsub c E
   have:=iA (GQ.mpr ⟨P.2.1,Z.dnd⟩) gt
   rw[Fd]at this
   omega
 | succ n ih=>
  intro q v j M N O J s p d i A W y u g l B m ws r I L D Z X U
  have few:=Z.few C
  have hk:=Z.kM
  have H:r.length<=6:=by rw[FW]at few;omega
  cases a:(decide (d.1<p.1) || !r.isEmpty)with
  | false=>
   refine q8 w fr lc it k cps t nd hr ha S sd n2i ks V sl Lf ld lde eh hm _ q H a (by omega) ?_
   rw[Bool.or_eq_false_iff]at a
   have hr:r=[]:=by simpa using a.2
   have G:ws=[]:=by
    have f:=a.1
    have b:=Z.pn
    simp at f
    exact tD b f
   exact⟨Z.fin C G hr,Z.lvs⟩
  | true=>
   have o:ws++r≠[]:=λz=>by
    obtain⟨rfl,rfl⟩:=List.append_eq_nil_iff.mp z
    have b:=Z.pn
    simp at a b
    exact tC b a
   refine xO w fr lc it k cps t nd hr ha S sd n2i ks V sl Lf ld lde eh hm _ q (Z.stepC C o) a (by omega) λi A W y s pu u l g Iv IA lv Iy Ix io I' Iz T Y=>?_
   obtain⟨e,F⟩:=Z.next C o T
   rw[<-Y]at e
   have Iw:=e.kM
   have Q:=iA e.dnd e.dsub
   refine ih _ _ _ _ _ _ _ _ _ _ _ _ _ _ _ _ _ _ _ _ _ _ _ _ e ?_ (by omega)
   rw[FW]at Q⊢
   rw[eV]at Q⊢
   rcases F with⟨R,F⟩ | ⟨R,F⟩
   .omega
   .have:=He.mpr R
    omega
end
theorem uU {I:List ai} {c p:Nat} {f:ai->ai} (h:ie f):(aJ c f I).find? (λi=>i.node.1==p)=(I.find? λi=>i.node.1==p).map λi=>if i.node.1=c then f i else i:=by
 unfold aJ
 rw[List.find?_map]
 have hp:((λi:ai=>i.node.1==p)∘λi=>if i.node.1=c then f i else i)=λi=>i.node.1==p:=by
  funext i
  show((if i.node.1=c then f i else i).node.1==p)=_
  split
  .rw [(h i).2]
  .rfl
 rw[hp]
theorem Dq {I:List ai} {p:Nat} (h:p∈am I):∃i,(I.find? λi=>i.node.1==p)=some i/\i.node.1=p:=by
 obtain⟨i,b,e⟩:=Gl.mp h
 cases a:I.find? λi=>i.node.1==p with
 | none=>
  have:=List.find?_eq_none.mp a i b
  simp at this
  exact absurd e this
 | some j=>exact⟨j,rfl,by simpa using List.find?_some a⟩
theorem Dp {I:List ai} {p:Nat} (h:p∉am I):(I.find? λi=>i.node.1==p)=none:=
 List.find?_eq_none.mpr λi a z=>h (Gl.mpr ⟨i,a,by simpa using z⟩)
theorem xH {x:Nat×Nat} {I:List ai} {q p:Nat} (d:q∈am I):bj (aJ q (dr x) I) p=if q=p then bj I p++[x]else bj I p:=by
 unfold bj
 rw[uU (gB x)]
 by_cases e:q=p
 .subst e
  obtain⟨i,a,h⟩:=Dq d
  rw[a,if_pos rfl,GD,if_pos h]
  rfl
 .rw [if_neg e]
  cases b:I.find? λi=>i.node.1==p with
  | none=>rfl
  | some i=>
   have h:i.node.1=p:=by simpa using List.find?_some b
   rw[GD,if_neg (λz=>e (z.symm.trans h))]
theorem A9 {x:Nat×Nat} {I:List ai} {q p:Nat}:az (aJ q (dr x) I) p=az I p:=by
 unfold az
 rw[uU (gB x)]
 cases h:I.find? λi=>i.node.1==p with
 | none=>rfl
 | some i=>
  rw[GD]
  show(if i.node.1=q then dr x i else i).np.1=i.np.1
  split<;>rfl
theorem qT (x:Nat×Nat) (p:Nat):∀(a:List (Nat×Nat)) (I:List ai),(∀q∈a,q.1∈am I)->ad (bj (cm x a I) p)=ad (bj I p)++FX ((ad a).count p) x.1
 | [],I,_=>by simp[cm,ad]
 | q::a,I,h=>by
  have i:=qT x p a (aJ q.1 (dr x) I) λr b=>by rw[dg (gB x)];exact h r (E4 _ b)
  show ad (bj (cm x a (aJ q.1 (dr x) I)) p)=ad (bj I p)++FX ((q.1::ad a).count p) x.1
  rw[i,xH (h q E2),List.count_cons]
  by_cases e:q.1=p
  .rw [if_pos e]
   simp[e,ad,List.replicate_succ]
  .rw [if_neg e]
   simp[e]
theorem tw (x:Nat×Nat) (p:Nat):∀(a:List (Nat×Nat)) (I:List ai),az (cm x a I) p=az I p
 | [],I=>rfl
 | q::a,I=>(tw x p a _).trans A9
theorem xI {I:List ai} {n:ai} (h:n.su=[]) (p:Nat):bj (I++[n]) p=bj I p:=by
 unfold bj
 rw[HD]
 cases b:I.find? λi=>i.node.1==p with
 | some i=>rfl
 | none=>
  rw[Option.none_or,List.find?_cons]
  cases a:(n.node.1==p)with
  | true=>simp[h]
  | false=>simp
theorem Ba {I:List ai} {n:ai} {p:Nat} (h:n.node.1∉am I):az (I++[n]) p=if n.node.1=p then n.np.1 else az I p:=by
 unfold az
 rw[HD]
 by_cases e:n.node.1=p
 .rw [Dp (e▸h),Option.none_or]
  simp[e]
 .rw [if_neg e]
  cases a:I.find? λi=>i.node.1==p with
  | some i=>rfl
  | none=>simp[e]
theorem vW {N:List NL}:∀{a:List Nat} {I b:List ai},d8 N a I->ed N a I b->
 am b=am I++a/\(∀p,az b p=if p∈a then((au N p).length:Int)else az I p)/\∀p,ad (bj b p)=ad (bj I p)++bc a (λc=>ad (au N c)) p
 | [],I,b,C,h=>by
  have h:b=I:=h
  subst h
  exact⟨by simp,λp=>by simp,λp=>by simp[bc]⟩
 | c::a,I,b,C,⟨t,s,u,d,f,n,i,h⟩=>by
  obtain⟨j,hk⟩:=C.next d f i
  obtain⟨k,l,m⟩:=vW j h
  have r:∀q∈au N c,q.1∈am I:=λq g=>(C.pre [] c a rfl q g).resolve_right (λz=>nomatch z)
  have o:s.node.1∉am I:=by rw[f];exact C.dis c E2
  have v:=GQ.mp C.ndr
  refine⟨by rw[k,hk,Fp];rfl,λp=>?_,λp=>?_⟩
  .rw [l p]
   by_cases q:p∈a
   .rw [if_pos q,if_pos (E4 _ q)]
   .rw [if_neg q,d,tw,Ba o,f]
    by_cases e:c=p
    .subst e
     rw[if_pos rfl,if_pos E2,n]
    .rw [if_neg (c:=(c,t).1=p) e,if_neg (λz=>(GR.mp z).elim (λz=>e z.symm) q)]
  .rw [m p,d,qT _ _ _ _ (λq g=>by
    unfold am
    rw[Ff]
    exact F5 _ (r q g)),xI i,Fp]
   rfl
structure bE (N:List NL) (cps:List Nat) (mh hm:MI):Prop where
 gc:eX cps (λc=>ad (au N c)) (aa mh) hm
 ne:cps≠[]
 mem:∀c∈cps,c∈aU N
 ndN:(aU N).Nodup
 few:∀x∈N,x.ps.length<=8
 mhl:mh.length<=8
 mhn:(ak mh).Nodup
 mhk:∀c∈cps,c∈ak mh
section
variable {N:List NL} {cps:List Nat} {mh hm:MI}
theorem bE.la (C:bE N cps mh hm):d8 N cps []:=by
 refine⟨Gv,C.gc.g.nd,(λ_ _ z=>nomatch z),C.mem,C.ndN,(λa c b e p hp=>.inr ?_),C.few, ?_,(λ_ z=>nomatch z)⟩
 .have f:c∈cps:=by rw[e];simp
  obtain⟨i,h⟩:=C.gc.g.ord c f p.1 (Fc hp)
  have d:=C.gc.g.nd
  rw[e]at h d
  by_cases q:p.1∈a
  .exact q
  .exfalso
   have g:c∉a:=λz=>(Gm.mp d).2.2 c z c E2 rfl
   rw[List.idxOf_append,List.idxOf_append,if_neg q,if_neg g,List.idxOf_cons_self]at h
   omega
 .have:=C.gc.five
  simp;omega
theorem bE.facts (C:bE N cps mh hm) {I:List ai} (h:ed N cps [] I):am I=cps/\(∀c∈cps,az I c=(au N c).length)/\∀i∈I,ad i.su=bc cps (λc=>ad (au N c)) i.node.1:=by
 obtain⟨a,b,c⟩:=vW C.la h
 have hk:am I=cps:=a
 refine⟨hk,λp hp=>by rw[b p,if_pos hp],λi d=>?_⟩
 have:=c i.node.1
 rw[jL (by rw[hk];exact C.gc.g.nd) d]at this
 exact this
theorem bE.acy (C:bE N cps mh hm) {I:List ai} (h:ed N cps [] I):fH (λc=>cps.idxOf c) I:=by
 obtain⟨a,b,c⟩:=C.facts h
 intro i g s j
 have e:s.1∈bc cps (λc=>ad (au N c)) i.node.1:=by rw[<-c i g];exact Fc j
 obtain⟨d,f⟩:=iG.mp e
 exact⟨(C.gc.g.ord s.1 d i.node.1 f).2,by rw[a];exact d⟩
theorem bE.nd (C:bE N cps mh hm) {I:List ai} (h:ed N cps [] I):(am I).Nodup:=by rw[(C.facts h).1];exact C.gc.g.nd
theorem bE.len (C:bE N cps mh hm) {I:List ai} (h:ed N cps [] I):I.length<=800:=by
 have a:=congrArg Fo (C.facts h).1
 have b:=C.gc.five
 unfold am at a
 rw[Fq]at a
 omega
theorem bE.nil (C:bE N cps mh hm) {I:List ai} (h:ed N cps [] I):I≠[]:=λz=>by
 have a:=(C.facts h).1
 rw[z]at a
 exact C.ne a.symm
theorem bE.zero (C:bE N cps mh hm) {I:List ai} (h:ed N cps [] I):(∀c,c∈ad (co I)<->c∈cps/\au N c=[])/\(ad (co I)).Nodup:=by
 obtain⟨a,b,_⟩:=C.facts h
 have j:=C.nd h
 unfold ad co
 rw[GU]
 constructor
 .intro c
  constructor
  .intro m
   obtain⟨i,f,rfl⟩:=Gl.mp m
   obtain⟨d,g⟩:=Ic.mp f
   have k:i.node.1∈cps:=by rw[<-a];exact Fc (f:=λi:ai=>i.node.1) d
   have e:=b i.node.1 k
   rw[kr j d,show i.np.1=0 by simpa using g]at e
   have l:(au N i.node.1).length=0:=by omega
   exact⟨k,GL.mp l⟩
  .rintro ⟨d,g⟩
   rw[<-a]at d
   obtain⟨i,f,rfl⟩:=Gl.mp d
   have e:=b i.node.1 (a▸d)
   rw[kr j f,g]at e
   exact Gl.mpr ⟨i,Ic.mpr ⟨f,by simpa using e⟩,rfl⟩
 .exact j.sublist (List.filter_sublist.map _)
theorem bE.inv (C:bE N cps mh hm) {I:List ai} (h:ed N cps [] I):bL cps (λc=>ad (au N c)) (aa mh) hm mh [] (co I) I [] [] 0 0:=by
 obtain⟨a,b,c⟩:=C.facts h
 obtain⟨e,g⟩:=C.zero h
 have u:∀c,cC (λc=>ad (au N c)) [] c=(au N c).length:=λc=>by unfold cC ad;rw[List.filter_eq_self.mpr (λ_ _=>by simp),Fq]
 refine⟨a,c,λ_ z=>(nomatch z),Gv,λ_ z=>(nomatch z),g,λc=>?_,λc d=>?_,λ_ z=>(nomatch z),λ_ z=>(nomatch z),λc d=>?_,λ_ _ _ _=>rfl,rfl,λj l f=>?_,.inl rfl,C.mhk,C.mhl⟩
 .rw [e c,u]
  simp[ad]
 .rw [b c d,u]
  simp[ad]
 .show An cps (λc=>ad (au N c)) (aa mh) c=0
  have:(λc=>ad (au N c)) c=[]:=by show ad (au N c)=[];rw[((e c).mp d).2];rfl
  unfold An
  rw[this]
  rfl
 .simp at f
end
theorem DG (P:E8) (f l:Nat) (o:Obj) (h:o.isFreed=false):cn (b9 P f l,f,o):=⟨rfl,(by
 show(cW (kj P)).scope.kind≠ .module
 have:(cW (kj P)).scope.kind=.function:=(by kernel_rfl)
 rw[this];exactλz=>nomatch z),h⟩
noncomputable def br:Obj:={cls:=.type "cell",data:=.cell none}
noncomputable def nD (w:E9) (S s:Nat) (i:Nat×Nat×Nat×Nat) (n:Nat) (p m:Int×Nat) (j:Nat) (I:List ai) (d l:Nat) (k:Nat×Nat×Nat×Nat×Nat) (b:List Nat) (t nd e h:Nat) (g:Nat) (o:Nat×Nat) (f:Nat) (r:SL) (L:List aF) (a:List (Env×Addr×Obj)):af:={d:=100,α:=Nat×Nat×SL×List aF,c:=.call (.ref 1168) ⟨[.ref S],[]⟩,need:=[(S,bd s),(s,be w.params i n .none p m),(n,dO w.params (.type "dict") none .ref (ay I) j),(d,eS w.params k b t nd e h S (bP w.params g o) f r),(l,br)],r:=λx=>.ok (.ret .none),put:=λq=>[bd s,be w.params i n (.ref q.1) p m,dO w.params (.type "dict") none .ref (ay I) j,eS w.params k b t nd e h S (bP w.params g o) f q.2.2.1,br],new:=λx=>[(x.1,ae ((co I).map cv) x.2.1)],post:=λq=>aC q.2.2.2=a,needB:=[aB I,a8 L],putB:=λq=>[aB I,a8 q.2.2.2],outer:=some (b9 w.params d l::a.map (·.1))}
noncomputable def jq (P:E8) (k:Nat×Nat×Nat×Nat×Nat) (a:List Nat) (t nd b h S:Nat) (d:Nat) (x:Nat×Nat):List E6:=[es P [110,97,109,101,115] k.1 (.str ⟨⟨a⟩⟩ t),es P [110,101,101,100,115] k.2.1 (.ref nd),es P [104,111,117,114,115] k.2.2.1 (.ref b),es P [104,97,110,100,115] k.2.2.2.1 (.ref h),es P [115,111,114,116,101,114] k.2.2.2.2 (.ref S)]++bP P d x
noncomputable def z7 {w:E9} {S v:Nat} {m:Nat×Nat×Nat×Nat} {n:Nat} {r q:Int×Nat} {o:Nat} {I:List ai} {f l:Nat} {k:Nat×Nat×Nat×Nat×Nat} {a:List Nat} {t nd e d:Nat} {g:Nat} {i:Nat×Nat} {b:Nat} {s:SL} {L:List aF} {j:List (Env×Addr×Obj)} (B:aC (⟨b9 w.params f l,f,bD (jq w.params k a t nd e d S g i) b,s⟩::L)=(b9 w.params f l,f,bD (jq w.params k a t nd e d S g i) b)::j) (u:Nat->Nat) (C:(am I).Nodup) (bo:∀x∈(b9 w.params f l,f,bD (jq w.params k a t nd e d S g i) b)::j,cn x) (A:fH u I) (y:I.length<=800) (D:I≠[]):PP (env w) (nD w S v m n r q o I f l k a t nd e d g i b s L j):=λ_ E=>
 .view [3] [1] _ _ _ _ (qc (ev:=b9 w.params f l) (a:=f) (es:=jq w.params k a t nd e d S g i) (ep:=b) (sl:=s) (L:=L)) (.use _ (zS w S v m n r q o I (⟨b9 w.params f l,f,bD (jq w.params k a t nd e d S g i) b,s⟩::L) ((b9 w.params f l,f,bD (jq w.params k a t nd e d S g i) b)::j) B u C bo A y D) [0,0,0] [1,0] λx h=>
 .pick _ _ (iB h) λp hp=>.view [] [1] _ _ _ _ (ip hp.1) (E (x.1,x.2.1,p.1,p.2) hp.2 [1,1,1,0,1] [0] [1,0]))
theorem zW {N:List NL} {o i:MI} (w:E9) (S u:Nat) (m:Nat×Nat×Nat×Nat) (p:Nat) (s r:Int×Nat) (q:Nat) (I:List ai) (d n:Nat) (k:Nat×Nat×Nat×Nat×Nat) (b:List Nat) (t nd j g:Nat) (l:Nat) (y:Nat×Nat) (f:Nat) (v:SL) (L:List aF) (a:List (Env×Addr×Obj)) (e:aC L=a) (bo:∀x∈a,cn x) (C:bE N b o i) (h:ed N b [] I):ab (env w) (nD w S u m p s r q I d n k b t nd j g l y f v L a):=
 av (z7 (by show _::aC L=_;rw[e]) _ (C.nd h) (n4 (DG _ _ _ _ rfl) bo) (C.acy h) (C.len h) (C.nil h))
theorem B2 (w:E9) (d l i:Nat) (q m o r s:Nat) (a:List Nat) (t nd g h S u n:Nat) (k:Nat×Nat×Nat×Nat) (p j:Int×Nat) (v:SL) (N:List NL) (e:Nat) (f b:Nat) (x:a≠[]) (C:d8 N a []):ab (env w) {eJ w.params d l i 0 (q,m,o,r,s) a t nd g h S u n k p j [] f v N e a [] b with needB:=[bh N]}:=
 B4 w d l i (q,m,o,r,s) a t nd g h S u n k p j v N e f [] b x C
theorem xQ {N:List NL} {m:MI} (w:E9) (g p k:Nat) (u v y A B:Nat) (a:List Nat) (t nd j i S F s:Nat) (o:Nat×Nat×Nat×Nat) (V:Nat) (G:SL) (L ld q e:Nat) (b:MI) (H J M D E u1 u2 l:Nat) (n:Nat×Nat) (Q:Nat×Nat) (W P O f r d:Nat) (I:List ai) (C:bE N a m b) (h:ed N a [] I):
 ab (env w) {iL w g p k 0 30 H J M (u,v,y,A,B) a t nd j i S F s o D E (0,u1) (0,u2) (l,n,(0,0),0) Q W P V O none f G L ld r q m b e [] (co I) I d [] (cA a (λc=>ad (au N c)) (aa m) b)with needB:=[aB I]}:=
 xP w g p k (u,v,y,A,B) a t nd j i S F s o V G L ld q e b (λc=>ad (au N c)) (aa m) C.gc 29 none 0 30 H J M D E (0,u1) (0,u2) (l,n,(0,0),0) Q W P O f r d m [] (co I) I [] [] (C.inv h) (by
  have U:mx (a.map (Fn a (λc=>ad (au N c)) (aa m)))<=20:=fQ (λx T=>by
   obtain⟨c,R,rfl⟩:=Gl.mp T
   exact C.gc.top c R) (by omega)
  have X:=C.gc.five
  show(_-((0:Nat):Int)).toNat+(_-0)<=29
  omega) (by omega)
theorem zU {N:List NL} {E D:MI} (w:E9) (S v:Nat) (i:Nat×Nat×Nat×Nat) (n:Nat) (p m:Int×Nat) (j:Nat) (I:List ai) (d l:Nat) (q o r s u:Nat) (b:List Nat) (t nd g e:Nat) (k:Nat) (A:Nat×Nat) (f:Nat) (y:SL) (L:List aF) (a:List (Env×Addr×Obj)) (B:aC L=a) (bo:∀x∈a,cn x) (C:bE N b E D) (h:ed N b [] I):ab (env w) (nD w S v i n p m j I d l (q,o,r,s,u) b t nd g e k A f y L a):=zW w S v i n p m j I d l (q,o,r,s,u) b t nd g e k A f y L a B bo C h
noncomputable def r4 (w:E9) (nd g f:Nat) (a:List Nat) (t:Nat) (N:List NL) (e:Nat) (m:MI) (d:Nat) (h:MI) (b:Nat) (L:List aF) (S:List (Env×Addr×Obj)):af:={d:=115,α:=Nat×Nat×List Lv×List aF,c:=.call (.ref 1222) ⟨[.str ⟨⟨a⟩⟩ t,.ref nd,.ref g,.ref f],[]⟩,need:=[(nd,dO w.params (.type "dict") none .ref (aM N) e),(g,dO w.params (.type "dict") none iv m d),(f,dO w.params (.type "dict") none iv h b)],r:=λx=>.ok (.ret (.ref x.1)),put:=λq=>[dO w.params (.type "dict") none .ref (aM N) e,dO w.params (.type "dict") none iv m d,dO w.params (.type "dict") none iv h b],new:=λx=>[(x.1,ae ((aD x.2.2.1).map .ref) x.2.1)],post:=λq=>cA a (λc=>ad (au N c)) (aa m) h q.2.2.1/\aC q.2.2.2=S,needB:=[bh N,a8 L],putB:=λq=>[bh N,bq w.params q.2.2.1,a8 q.2.2.2],outer:=some (S.map (·.1))}
theorem BQ (w:E9) (nd j k:Nat) (a:List Nat) (t:Nat) (N:List NL) (G:Nat) (m:MI) (J:Nat) (i:MI) (H:Nat) (L:List aF) (g:List (Env×Addr×Obj)) (C:bE N a m i) (U:aC L=g) (bo:∀io∈g,cn io) (T:∀c∈a,c<128):ab (env w) (r4 w nd j k a t N G m J i H L g):=av (λ_ τ=>.seg 0x2002002002002002002002000000001 λO=>.seg 1 λO2=>.use _ (xV w) [] [] λx h3=>.seg 68803383301 λn=>.use _ (fL w a t T) [] [] λx5 h5=>.seg 1 λO6=>.use _ (B2 w (O 0) (O 1) x5 (O 2) (O 3) (O 4) (O 5) (n 0) a t nd j k (x.1.1) (x.1.2.1) (x.1.2.2) (x.2.1) (0,x.2.2.1) (0,x.2.2.2) (#[]) N G 5 0 C.ne C.la) [0,4,0,0,0,1] [0] λb P=>.seg 0x3002000000000000002000000000002000000000002001 λO8=>.use _ ((λS D q s po nf ne I p r u v y A B k5 F o E h=>zU w S D q s po nf ne I p r u v y A B a t nd j k k5 F o E L g U bo C h) (x.1.1) (x.1.2.1) (x.2.1) (x.1.2.2) (0,x.2.2.1) (0,x.2.2.2) (b.2.1) (b.1) (O 0) (O 1) (O 2) (O 3) (O 4) (O 5) (n 0) (b.2.2.1) (b.2.2.2.1) (b.2.2.2.2) (#[]) P) [1,1,1,0,1] [0,1] λf h9=>.seg 16384 λIv=>.use _ (px w j m J C.mhl C.mhn) [7] [] λl Ix=>.seg 0x1001001001001001001001001001001001001001001001001001001000000009009008008008008 λd=>.use _ ((λp r X u v y A B S D s q V E Q ld gt t1 t2 t3 rl rn u1 u2 Y Z F W wn vn o le R I h=>xQ w p r X u v y A B a t nd j k S D s q V E Q ld gt H i t1 t2 t3 rl rn u1 u2 Y Z F W wn vn o le R I C h) (O 0) (O 1) (d 8) (O 2) (O 3) (O 4) (O 5) (n 0) (x.1.1) (x.1.2.1) (x.1.2.2) (x.2.1) (d 2) (f.2.2.1) (l.1) (l.2.1) (l.2.2.2) 0 0 0 (f.1) (f.2.1) (x.2.2.1) (x.2.2.2) (b.2.2.1) (d 1,d 3) (b.2.2.2.1) (d 0) 0 0 (b.2.2.2.2+1+1) (l.2.2.1) (b.2.1) (b.1) P) [0,9,6,6,6,7,6,4,4,2,1,3] [0] λe M=>have Iy:(↑(Fo e.1):Int)=mx (Gx (Fn a (λ(c:Nat)=>ad (au N c)) (aa m)) a):=(Fx M);have Iz:pV a (λ(c:Nat)=>ad (au N c)) (aa m) i e.1:=(Fg M); .seg 0 λIw=>τ (d 2,e.2,e.1,f.2.2.2) (show cA a (λ(c:Nat)=>ad (au N c)) (aa m) i (d 2,e.2,e.1,f.2.2.2).2.2.1/\aC (d 2,e.2,e.1,f.2.2.2).2.2.2=g from(by trivial)) [4,3,1] [0] [2,0,0])
noncomputable def rZ (b l i n:Nat) (a:List (Int×Nat)) (x:Int×Nat):af:={d:=5,α:=Unit,need:=[(b,aW "list_iterator" l i),(l,ae (a.map iv) n)],r:=λu=>.ok (.ret (iv x)),put:=λu=>[aW "list_iterator" l (i+1),ae (a.map iv) n]}
noncomputable def r3 (a l i n:Nat) (x:List (Int×Nat)):af:={d:=5,α:=Unit,need:=[(a,aW "list_iterator" l i),(l,ae (x.map iv) n)],r:=λu=>.ok .brk,put:=λu=>[iF "list_iterator" i,ae (x.map iv) n]}
theorem BK {w:E9} {a l i n:Nat} {e:List (Int×Nat)} {x:Int×Nat} {d:Nat} {o:Ctx} (H:bt (env w) d o) (B:5<=d) (h:e[i]? =some x) {m s:Fe} {own:List Addr} {A r:List ao} {p:Pos} (k:List Nat) (G:Go (env w).kt m own s A.flatten) (C:take k (bg (rZ a l i n e x).need++[]) A (· =r))
 {Q:Option Fb->Pos->Fe->Prop} {E:Fb->Pos->Fe->Prop} (v:∀b p,Go (env w).kt m own b ([(a,aW "list_iterator" l (i+1))]::[(l,ae (e.map iv) n)]::r).flatten->Q (some (iv x)) p b):wp (FT pq w) o (pyNext (.ref a)) Q E p s:=by
 have q:=uL (t:=tN a) k (tk _ (λ_ F=>.seg 16781313 λO=>.use _ (cr w a l i n iv e x h) [0,0] [] λL J=>.seg 0 λI=>F () trivial [0,0] [] []:PP (env w) (rZ a l i n e x))) H B rfl G C (v0:=λu=>.ret (iv x)) (λ_=>rfl) (p:=p) (Q:=λf p b=>f=.ret (iv x)/\Q (some (iv x)) p b) (E:=λ_ _ _=>False) λu b p _ t=>⟨rfl,v b p t⟩
 unfold tN at q
 rw[E7]at q
 refine Fu _ _ _ (λr p D j=>?_) (λ_ _ _ h=>h.elim) _ _ q
 cases r with
 | none=>obtain⟨g,_⟩:Flow.brk=.ret (iv x)/\_:=j;cases g
 | some y=>
  obtain⟨g,h⟩:Flow.ret y=.ret (iv x)/\Q (some (iv x)) p D:=j
  cases g
  exact h
theorem BU {w:E9} {a l i n:Nat} {x:List (Int×Nat)} {d:Nat} {k:Ctx} (H:bt (env w) d k) (t:5<=d) (h:x[i]? =none) {j s:Fe} {own:List Addr} {A r:List ao} {p:Pos} (g:List Nat) (G:Go (env w).kt j own s A.flatten) (v:take g (bg (r3 a l i n x).need++[]) A (· =r))
 {Q:Option Fb->Pos->Fe->Prop} {E:Fb->Pos->Fe->Prop} (o:∀b p,Go (env w).kt j own b ([(a,iF "list_iterator" i)]::[(l,ae (x.map iv) n)]::r).flatten->Q none p b):wp (FT pq w) k (pyNext (.ref a)) Q E p s:=by
 have q:=uL (t:=tN a) g (tk _ (λ_ C=>.seg 16781313 λO=>.use _ (ch w a l i n iv x h) [0,0] [] λJ F=>.seg 3 λD=>C () trivial [0,0] [] []:PP (env w) (r3 a l i n x))) H t rfl G v (v0:=λu=>.brk) (λ_=>rfl) (p:=p) (Q:=λf p b=>f=.brk/\Q none p b) (E:=λ_ _ _=>False) λu b p _ m=>⟨rfl,o b p m⟩
 unfold tN at q
 rw[E7]at q
 refine Fu _ _ _ (λr p I e=>?_) (λ_ _ _ h=>h.elim) _ _ q
 cases r with
 | none=>exact e.2
 | some y=>obtain⟨B,_⟩:Flow.ret y=.brk/\_:=e;cases B
noncomputable def eI (b l i n S c:Nat) (x r:List (Int×Nat)) (a:Int×Nat) (s:Int):af:={d:=20,α:=Nat,c:=.builtin "sum.loop" ⟨[.ref b,.ref S,FV s,FV 0],[]⟩,need:=[(b,aW "list_iterator" l i),(l,ae (x.map iv) n),(S,ae [iv a] c)],r:=λu=>.ok (.ret (.int (a.1+(r.map (·.1)).sum) u)),new:=λ_=>[(l,ae (x.map iv) n)]}
theorem xz (w:E9) (b l n S:Nat) (d:List (Int×Nat)):∀(h:List (Int×Nat)) (i c:Nat) (a:Int×Nat) (j:Int),(j=0\/j=2)->d.drop i=h->ab (env w) (eI b l i n S c d h a j):=by
 intro h
 induction h with
 | nil=>
  intro i c a j Q L g J o Z y p s F P E
  have o:g.handled=none:=o.resolve_left (λz=>nomatch z)
  have H:bt (env w) 20 g:=⟨o,y⟩
  have G:=Go.eq (Go.start P) (ic _)
  have I:s.heap.get? S=some (ae [iv a] c):=P.has (S,_) (E4 _ (E4 _ E2))
  rw[F3]
  show wp _ _ (FM table g.code) _ _ p s
  rw[show g.code=.builtin "sum.loop" ⟨[.ref b,.ref S,FV j,FV 0],[]⟩from J,aE _ _ PySem.F.entry_sum_loop]
  show wp _ _ (seqItems? (.ref S)>>=_) _ _ p s
  rw[E7]
  refine aL (FN I rfl λp=>?_)
  show wp _ _ (MonadExcept.tryCatch (pyNext (.ref b)) _>>=_) _ _ p s
  rw[E7,Sem.wp_tryCatch']
  refine BU H (by omega) (aV L) [0,0] G ⟨rfl,rfl,rfl⟩ λf p D=>?_
  show F (.ok (.ret (.int a.1 a.2))) f
  have e:=E a.2 f trivial (Go.sub (kt:=(env w).kt) (r:=([[(b,iF "list_iterator" i)],[(S,ae [iv a] c)]]:List ao).flatten) (Go.perm D ((nX (A:=[[(b,iF "list_iterator" i)],[(l,ae (d.map iv) n)],[(S,ae [iv a] c)]]) (B:=[[(l,ae (d.map iv) n)],[(b,iF "list_iterator" i)],[(S,ae [iv a] c)]]) [1,0,0] ⟨rfl,rfl,rfl,rfl⟩).flatten))).after
  simpa[eI]using e
 | cons x h ih=>
  intro i c a j Q L g J o Z y p s F P E
  have o:g.handled=none:=o.resolve_left (λz=>nomatch z)
  have H:bt (env w) 20 g:=⟨o,y⟩
  have G:=Go.eq (Go.start P) (ic _)
  have I:s.heap.get? S=some (ae [iv a] c):=P.has (S,_) (E4 _ (E4 _ E2))
  obtain⟨X,Y⟩:=aQ L
  rw[F3]
  show wp _ _ (FM table g.code) _ _ p s
  rw[show g.code=.builtin "sum.loop" ⟨[.ref b,.ref S,FV j,FV 0],[]⟩from J,aE _ _ PySem.F.entry_sum_loop]
  show wp _ _ (seqItems? (.ref S)>>=_) _ _ p s
  rw[E7]
  refine aL (FN I rfl λp=>?_)
  show wp _ _ (MonadExcept.tryCatch (pyNext (.ref b)) _>>=_) _ _ p s
  rw[E7,Sem.wp_tryCatch']
  refine BK H (by omega) X [0,0] G ⟨rfl,rfl,rfl⟩ λf p D=>?_
  have C:Go (env w).kt s (eI b l i n S c d (x::h) a j).own f [(S,ae [iv a] c),(b,aW "list_iterator" l (i+1)),(l,ae (d.map iv) n)]:=Go.perm D ((nX (A:=[[(b,aW "list_iterator" l (i+1))],[(l,ae (d.map iv) n)],[(S,ae [iv a] c)]]) (B:=[[(S,ae [iv a] c)],[(b,aW "list_iterator" l (i+1))],[(l,ae (d.map iv) n)]]) [2,0,0] ⟨rfl,rfl,rfl,rfl⟩).flatten)
  have gt:f.heap.get? S=some (ae [iv a] c):=C.inv.has (S,_) E2
  have W:∀(v:Int×Nat) (k:Int) (tk t:Nat) (B:Fe) (p:Pos),(k=0\/k=2)->v.1=a.1+x.1->Go (env w).kt s (eI b l i n S c d (x::h) a j).own B [(S,ae [iv v] t),(b,aW "list_iterator" l (i+1)),(l,ae (d.map iv) n)]->finPost (FT pq w) g F (.again (.builtin "sum.loop" ⟨[.ref b,.ref S,FV k,FV 0],[]⟩)) p B:=by
   intro v k tk t B p M N q
   have O:Go (env w).kt s (eI b l i n S c d (x::h) a j).own B ((eI b l (i+1) n S t d h v k).all++[]):=Go.eq (Go.perm q ((nX (A:=[[(S,ae [iv v] t)],[(b,aW "list_iterator" l (i+1))],[(l,ae (d.map iv) n)]]) (B:=[[(b,aW "list_iterator" l (i+1))],[(l,ae (d.map iv) n)],[(S,ae [iv v] t)]]) [1,1,0] ⟨rfl,rfl,rfl,rfl⟩).flatten)) rfl
   have hn:=ih (i+1) t v k M Y (g.goto (.builtin "sum.loop" ⟨[.ref b,.ref S,FV k,FV 0],[]⟩)) rfl (.inr o) (λes he=>nomatch he) ⟨y.cnt,y.units⟩ p B F O.sub.pre (λIw s4 hy U=>?_)
   .exact ⟨plainId_quiet PySem.F.plain_sum_loop _,hn⟩
   .have e:=E Iw s4 hy ((O.stepR U).perm (.refl _)).sub.after
    have V:a.1+((x::h).map (·.1)).sum=v.1+(h.map (·.1)).sum:=by rw[N,Fw,List.sum_cons];omega
    simp only[eI]at e⊢
    rw[V]at e
    exact e
  have upd:∀(m:Fe) (u v:Int×Nat) (tk:Nat),Go (env w).kt s (eI b l i n S c d (x::h) a j).own m [(S,ae [iv u] c),(b,aW "list_iterator" l (i+1)),(l,ae (d.map iv) n)]->
   Go (env w).kt s (eI b l i n S c d (x::h) a j).own {m with toks:=tk,heap:=m.heap.update S (FJ λ_=> #[iv v])} [(S,ae [iv v] c),(b,aW "list_iterator" l (i+1)),(l,ae (d.map iv) n)]:=by
   intro m u v tk q
   have e:FJ (λ_=> #[iv v]) (ae [iv u] c)=ae [iv v] c:=e9 (vs':=[iv v]) rfl
   have A:=((ap.start q.pre).toks tk).set (FJ λ_=> #[iv v]) (by exact E2) (by rw[e];rfl)
   rw[e]at A
   exact Go.step q A
  have R:∀(m:Fe) (u v:Int×Nat) (k:Int) (p:Pos),(k=0\/k=2)->v.1=a.1+x.1->Go (env w).kt s (eI b l i n S c d (x::h) a j).own m [(S,ae [iv u] c),(b,aW "list_iterator" l (i+1)),(l,ae (d.map iv) n)]->
   wp (FT pq w) g (updateSeq S (λ_=> #[iv v])>>=λ_=>again (.builtin "sum.loop" ⟨[.ref b,.ref S,FV k,FV 0],[]⟩)) (finPost (FT pq w) g F) (λx _ s=>F (.error x) s) p m:=by
   intro m u v k p M N q
   have io:m.heap.get? S=some (ae [iv u] c):=q.inv.has (S,_) E2
   rw[E7]
   refine aL (GV io rfl (λp=>?_) (by simp[Gw]) (by simp[Gw]))
   exact W v k 0 c _ p M N (upd m u v m.toks q)
  have T:∀p,wp (FT pq w) g ((holding [iv x] (binaryOp .Add (iv a) (iv x))).attempt>>=λIv=>match Iv with
   |.ok r=>do updateSeq S λ_=> #[r];letGo [iv a,iv x];(updateSeq S (λ_=> #[r])>>=λ_=>again (.builtin "sum.loop" ⟨[.ref b,.ref S,FV 2,FV 0],[]⟩))
   |.error e=>do updateSeq S λ_=> #[];letGo [iv a,iv x] [e];throw e) (finPost (FT pq w) g F) (λx _ s=>F (.error x) s) p f:=by
   intro p
   rw[E7]
   refine aL (wpAny_attempt (Gj (wpAny_add_int λp=>?_)))
   show wp _ _ (updateSeq S (λ_=> #[iv (a.1+x.1,f.toks)])>>=_) _ _ p _
   rw[E7]
   refine aL (GV (s:={f with toks:=f.toks+1}) gt rfl (λp=>?_) (by simp[Gw]) (by simp[Gw]))
   rw[E7]
   refine aL (H9 λp=>?_)
   exact R _ (a.1+x.1,f.toks) (a.1+x.1,f.toks) 2 p (.inr rfl) rfl (upd f a (a.1+x.1,f.toks) (f.toks+1) C)
  rcases Q with rfl | rfl
  .show wp _ _ (if(_:Bool)=true then(mkInt (a.1+x.1)>>=_)else _) _ _ p f
   split
   .rw [E7]
    refine aL (wpAny_mkInt λp=>?_)
    exact R {f with toks:=f.toks+1} a (a.1+x.1,f.toks) 0 p (.inl rfl) rfl (Go.step C ((ap.start C.pre).toks _))
   .rw [E7]
    refine aL (GZ λp=>?_)
    exact T p
  .exact T p
noncomputable def yk (i l n S c t:Nat) (x:List (Int×Nat)) (z:Int):af:={d:=20,α:=Nat,c:=.builtin "sum.loop" ⟨[.ref i,.ref S,FV 0,FV 0],[]⟩,need:=[(i,aW "list_iterator" l 0),(l,ae (x.map iv) n),(S,ae [.int 0 t] c)],r:=λu=>.ok (.ret (.int z u)),new:=λ_=>[(l,ae (x.map iv) n)]}
theorem jK (w:E9) (i l n S c t:Nat) (x:List (Int×Nat)) (z:Int) (h:(x.map (·.1)).sum=z):ab (env w) (yk i l n S c t x z):=by
 have q:=xz w i l n S x x 0 c (0,t) 0 (.inl rfl) rfl
 have e:(0:Int)+(x.map (·.1)).sum=z:=by omega
 unfold eI at q
 simp only at q
 rw[e]at q
 exact q
noncomputable def pI (o:Option (Int×Nat)):List Fb:=match o with| none=>[] | some x=>[iv x,iv x]
noncomputable def iK (a l i n B c:Nat) (x:List (Int×Nat)) (o:Option (Int×Nat)) (r:Int):af:={d:=10,α:=Nat,c:=.builtin "max.loop" ⟨[.ref a,.none,.ref B],[]⟩,need:=[(a,aW "list_iterator" l i),(l,ae (x.map iv) n),(B,ae (pI o) c)],r:=λu=>.ok (.ret (.int r u)),new:=λ_=>[(l,ae (x.map iv) n)]}
noncomputable def cU:List (Int×Nat)->Int
 | []=>0
 | x::b=>b.foldl (λa y=>max a y.1) x.1
theorem Bu (w:E9) (e l n B:Nat) (b:List (Int×Nat)):∀(r:List (Int×Nat)) (i c:Nat) (y:Int×Nat),b.drop i=r->ab (env w) (iK e l i n B c b (some y) (r.foldl (λa y=>max a y.1) y.1)):=by
 intro r
 induction r with
 | nil=>
  intro i c y j
  exact ct (λ_ g=>.seg 281543712976897 λO=>.use _ (ch w e l i n iv b (aV j)) [0,0] [] λA f=>.seg 343681290243 λo=>g (y.2) trivial [] [1] [])
 | cons x r m=>
  intro i c y j
  obtain⟨t,f⟩:=aQ j
  have q:y.1<x.1->∀(c:Nat),ab (env w) (iK e l (i+1) n B c b (some (x.1,x.2)) (r.foldl (λa y=>max a y.1) (max y.1 x.1))):=λh c=>by
   have:=m (i+1) c (x.1,x.2) f
   rw[show max y.1 x.1=x.1 by omega]
   exact this
  have s:¬y.1<x.1->∀(c:Nat),ab (env w) (iK e l (i+1) n B c b (some (y.1,y.2)) (r.foldl (λa y=>max a y.1) (max y.1 x.1))):=λh c=>by
   have:=m (i+1) c (y.1,y.2) f
   rw[show max y.1 x.1=y.1 by omega]
   exact this
  exact av (λ_ g=>.seg 281543712976897 λO=>.use _ (cr w e l i n iv b x t) [0,0] [] λA f=>.seg 1 λo=>.or (y.1<x.1) (¬(y.1<x.1)) (FK _) (λd=>.use _ (dx w (x.1) (y.1) (x.2) (y.2) d) [] [] λC u=>.seg 50343939 λp=>.use _ (q d c) [0,0,0] [] λk v=>g (k) trivial [] [0] []) (λd=>.use _ (dy w (x.1) (y.1) (x.2) (y.2) d) [] [] λC u=>.seg 0 λp=>.use _ (s d c) [0,0,0] [] λk v=>g (k) trivial [] [0] []))
theorem i6 (w:E9) (i l n B c:Nat) (d:List (Int×Nat)) (r:Int) (f:d≠[]) (h:cU d=r):ab (env w) (iK i l 0 n B c d none r):=by
 subst h
 obtain⟨x,b,rfl⟩:=FC f
 have e:∀(c:Nat),ab (env w) (iK i l (0+1) n B c (x::b) (some (x.1,x.2)) (b.foldl (λa y=>max a y.1) x.1)):=λc=>Bu w i l n B (x::b) b 1 c (x.1,x.2) rfl
 show ab (env w) (iK i l 0 n B c (x::b) none (b.foldl (λ(a:Int) (y:Int×Nat)=>max a y.1) x.1))
 exact ct (λ_ j=>.seg 281543712976897 λO=>.use _ (cr w i l 0 n iv (x::b) x rfl) [0,0] [] λp m=>.seg 50343939 λk=>.use _ (e (if(Array.size ((λ(q:Array Fb)=> #[iv x,iv x]) (List.toArray (pI none)))==Array.size (List.toArray (pI none)))=HN then c else c+1)) [0,0,0] [] λg o=>j (g) trivial [] [0] [])
theorem Bv:∀{b:List (Int×Nat)},(∀x∈b,0<=x.1)->cU b=mx (b.map (·.1))
 | [],_=>rfl
 | x::b,h=>by
  have k:∀(l:List (Int×Nat)) (a:Int),0<=a->l.foldl (λa y=>max a y.1) a=max a (mx (l.map (·.1))):=by
   intro l
   induction l with
   | nil=>intro a d;show a=max a 0;omega
   | cons y l i=>
    intro a d
    rw[HY,i _ (by omega)]
    have e:mx ((y::l).map (·.1))=max y.1 (mx (l.map (·.1))):=rfl
    rw[e]
    omega
  exact k b x.1 (h x E2)
section
variable {w:E9} {T:af} {d:Nat} {Γ:Ctx} {p:Pos} {s0 s:Fe} {own:List Addr} {A r:List ao}
theorem EZ (i:List Nat) {st:List Stmt} {e:Env} (h:ax (env w) T (Dn (.block st e))) (H:bt (env w) d Γ) (f:T.d<=d) (g:T.outer=none) (G:Go (env w).kt s0 own s A.flatten) (k:take i (bg T.need++T.needB) A (· =r)) {f0:Flow} (j:∀x,T.r x=.ok f0)
 {Q:Flow->Pos->Fe->Prop} {E:Fb->Pos->Fe->Prop} (b:∀x a p,T.post x->Go (env w).kt s0 own a (bp T x r).flatten->Q f0 p a):wp (FT pq w) Γ (Hd st e) Q E p s:=
 Fu _ _ _ (λ_ _ _ h=>h) (λx p s h=>absurd h (mM _ p s)) _ _ (Di (F:=λ_ _=>False) i h H f g G k j b)
end
noncomputable def nR (lo h:Int) (t a b:Nat):Obj:={cls:=.type "range",data:=.fields #[.int lo t,.int h a,.int 1 b]}
noncomputable def nB (r:Nat) (lo h:Int) (t a b:Nat) (l:Int):af:={d:=1,α:=Nat,c:=.builtin "range.__iter__" ⟨[.ref r],[]⟩,need:=[(r,nR lo h t a b)],r:=λx=>.ok (.ret (.ref x)),put:=λ_=>[nR lo h t a b],new:=λx=>[(x,bG lo l 1 0 0 0)]}
theorem pK {w:E9} {A:Around} {i:Int} {t:Nat} {Q:Option Int->Fe->Prop} {E:Fb->Fe->Prop} {s:Fe} (h:Q (some i) s):Fr (FT pq w) A (asInt? (.int i t)) Q E s:=E5 h
theorem sT (w:E9) (r:Nat) (lo a:Int) (t d e:Nat) (l:Int) (i: -1000000000<=lo/\lo<=1000000000) (j: -1000000000<=a/\a<=1000000000) (h:(if lo<a then a-lo else 0)=l):ab (env w) (nB r lo a t d e l):=by
 subst h
 refine aN λA s G k m P g=>?_
 have b:s.heap.get? r=some (nR lo a t d e):=P.has (r,_) E2
 show Fr _ _ (FM table (.builtin "range.__iter__" ⟨[.ref r],[]⟩)) _ _ s
 rw[aE _ _ F.entry_range_iter]
 show Fr _ _ (Builtin.Range.rangeFields (.ref r)>>=_) _ _ s
 refine E3 ?_
 unfold Builtin.Range.rangeFields
 refine E3 (F1 b rfl (x:=.int lo t) rfl ?_)
 refine E3 (pK ?_)
 refine E3 (F1 b rfl (x:=.int a d) rfl ?_)
 refine E3 (pK ?_)
 refine E3 (F1 b rfl (x:=.int 1 e) rfl ?_)
 refine E3 (pK ?_)
 refine E5 ?_
 have f:Builtin.Range.small lo a 1=true:=small_one (by omega) (by omega) (by omega) (by omega)
 show Fr _ _ (if(!Builtin.Range.small lo a 1)=true then _ else _) _ _ s
 rw[f,if_neg (by simp)]
 show Fr _ _ (HV (if Builtin.Range.small lo a 1=true then"range_iterator" else"longrange_iterator") [FV lo,FV (Builtin.Range.rangeSize lo a 1),FV 1]>>=_) _ _ s
 rw[f,if_pos rfl,rangeSize_one]
 refine E3 ?_
 unfold HV
 refine Gg (E5 ?_)
 exact g s.heap.objs.size _ trivial ((((ap.start P).push (bG lo (if lo<a then a-lo else 0) 1 0 0 0) rfl)).perm (List.Perm.swap ..))
theorem lL (w:E9) (r:Nat) (lo a:Int) (t b d:Nat) (l:Int) (e: -1000000000<=lo/\lo<=a/\a<=1000000000) (h:a-lo=l):ab (env w) (nB r lo a t b d l):=
 sT w r lo a t b d l (by omega) (by omega) (by split<;>omega)
structure Lw where
 (E FA G H Jn Mt SD Sp Spd T V W bk c1 c10 c11 c12 c2 c3 c4 c5 c6 c7 c8 c9 ee el en er fan fe fr hl hn it k1 k10 k11 k12 k2 k3 k5 k6 k7 k8 k9 n0 n2 nd sa se spe tN ta tl tn vn wn y yn:Nat)
 (sl:SL)
 (v1 v2 v3 v5:Fb)
 (cps:List Nat)
 (me mh ml mp ms:MI)
 (a lg nn:Int)
 (ws:List (List Nat×Nat))
 (hs xs ys:List (Int×Nat))
 (LV:List Lv)
 (N:List NL)
noncomputable def Lw.z:Lw:={E:=0,FA:=0,G:=0,H:=0,Jn:=0,Mt:=0,SD:=0,Sp:=0,Spd:=0,T:=0,V:=0,W:=0,bk:=0,c1:=0,c10:=0,c11:=0,c12:=0,c2:=0,c3:=0,c4:=0,c5:=0,c6:=0,c7:=0,c8:=0,c9:=0,ee:=0,el:=0,en:=0,er:=0,fan:=0,fe:=0,fr:=0,hl:=0,hn:=0,it:=0,k1:=0,k10:=0,k11:=0,k12:=0,k2:=0,k3:=0,k5:=0,k6:=0,k7:=0,k8:=0,k9:=0,n0:=0,n2:=0,nd:=0,sa:=0,se:=0,spe:=0,tN:=0,ta:=0,tl:=0,tn:=0,vn:=0,wn:=0,y:=0,yn:=0,sl:= #[],v1:=.none,v2:=.none,v3:=.none,v5:=.none,cps:=[],me:=[],mh:=[],ml:=[],mp:=[],ms:=[],a:=0,lg:=0,nn:=0,ws:=[],hs:=[],xs:=[],ys:=[],LV:=[],N:=[]}
noncomputable def aq (P:E8) (Y:Lw):Env:={dY (kg P) 1227 Y.fr with cells:=[(⟨⟨[115,112,97,114,101]⟩⟩,Y.c12),(⟨⟨[115,108,97,99,107]⟩⟩,Y.c11),(⟨⟨[102,114,111,110,116]⟩⟩,Y.c10),(⟨⟨[104,101,97,118,121]⟩⟩,Y.c9),(⟨⟨[119,97,121,115]⟩⟩,Y.c8),(⟨⟨[110,97,109,101]⟩⟩,Y.c7),(⟨⟨[114,111,119]⟩⟩,Y.c6),(⟨⟨[110,101,101,100,115]⟩⟩,Y.c5),(⟨⟨[108,97,116,101]⟩⟩,Y.c4),(⟨⟨[101,97,114,108,121]⟩⟩,Y.c3),(⟨⟨[104,111,117,114,115]⟩⟩,Y.c2),(⟨⟨[110,97,109,101,115]⟩⟩,Y.c1)]}
noncomputable def aI (P:E8):List Stmt:=cX (kg P)
noncomputable def aK (v:Fb):Obj:={cls:=.type "cell",data:=.cell (some v)}
noncomputable def iO (w:E9) (Y:Lw) (e:Nat) (l:Nat):af:={d:=40,α:=(Nat×Nat×Nat×Nat×Nat)×Nat×List (Int×Nat)×Nat,c:=.block ((aI w.params).take 3) (aq w.params Y),need:=[(Y.fr,bv [es w.params [115,99,114,105,112,116] Y.k1 (.ref Y.sa)] e Y.sl),(Y.c1,br),(Y.sa,ae (Y.xs.map iv) Y.n0)],new:=λx=>[(Y.fr,bv [es w.params [115,99,114,105,112,116] Y.k1 (.ref Y.sa),es w.params [115,105,122,101] x.1.1 (.int Y.nn x.1.2.1),es w.params [99,101,108,108,115] x.1.2.2.1 (.ref x.2.1)] x.1.2.2.2.1 Y.sl),(Y.c1,aK (.str ⟨⟨Y.cps⟩⟩ x.1.2.2.2.2)),(Y.sa,ae (Y.xs.map iv) Y.n0),(x.2.1,ae (x.2.2.1.map iv) x.2.2.2)],post:=λx=>x.2.2.1.length=l}
noncomputable def nQ (w:E9) (Y:Lw) (L:Nat) (i:Int) (l:Int) (t b d:Nat) (k:Nat) (a:Int) (kt:Nat) (f y:Nat) (e:List (Int×Nat)):af:={d:=15,α:=(Nat×Int×Nat)×Nat×List (Int×Nat)×Nat,c:=bR (aA (aI w.params) 3) (.ref Y.it) (aq w.params Y),need:=[(Y.it,bG i l 1 t b d),(Y.fr,bv [es w.params [115,99,114,105,112,116] Y.k1 (.ref Y.sa),es w.params [115,105,122,101] Y.k2 (.int Y.nn Y.tn),es w.params [99,101,108,108,115] Y.k3 (.ref Y.y),es w.params [107] k (.int a kt)] f Y.sl),(Y.sa,ae (Y.xs.map iv) Y.n0),(Y.y,ae (e.map iv) y)],new:=λx=>[(Y.fr,bv [es w.params [115,99,114,105,112,116] Y.k1 (.ref Y.sa),es w.params [115,105,122,101] Y.k2 (.int Y.nn Y.tn),es w.params [99,101,108,108,115] Y.k3 (.ref Y.y),es w.params [107] x.1.1 (.int x.1.2.1 x.1.2.2)] x.2.1 Y.sl),(Y.sa,ae (Y.xs.map iv) Y.n0),(Y.y,ae (x.2.2.1.map iv) x.2.2.2)],post:=λx=>x.2.2.1.length=L}
noncomputable def y8 (w:E9) (Y:Lw) (L:Nat) (i:Int) (l:Int) (t a b:Nat) (f y:Nat):af:={d:=15,α:=(Nat×Int×Nat)×Nat×List (Int×Nat)×Nat,c:=bR (aA (aI w.params) 3) (.ref Y.it) (aq w.params Y),need:=[(Y.it,bG i l 1 t a b),(Y.fr,bv [es w.params [115,99,114,105,112,116] Y.k1 (.ref Y.sa),es w.params [115,105,122,101] Y.k2 (.int Y.nn Y.tn),es w.params [99,101,108,108,115] Y.k3 (.ref Y.y)] f Y.sl),(Y.sa,ae (Y.xs.map iv) Y.n0),(Y.y,ae (Y.ys.map iv) y)],new:=λx=>[(Y.fr,bv [es w.params [115,99,114,105,112,116] Y.k1 (.ref Y.sa),es w.params [115,105,122,101] Y.k2 (.int Y.nn Y.tn),es w.params [99,101,108,108,115] Y.k3 (.ref Y.y),es w.params [107] x.1.1 (.int x.1.2.1 x.1.2.2)] x.2.1 Y.sl),(Y.sa,ae (Y.xs.map iv) Y.n0),(Y.y,ae (x.2.2.1.map iv) x.2.2.2)],post:=λx=>x.2.2.1.length=L}
theorem uS (i L:Nat):((i:Nat):Int).fmod ((L:Nat):Int)=((i %L:Nat):Int):=by
 rw[GN _ (by omega)];rfl
theorem Ew (w:E9) (Y:Lw) (L:Nat) (p:L≠0) (io:L<=20) (gt:Y.xs.length<=63):∀(r:List (Int×Nat)) (i:Nat) (l:Int) (d e t k:Nat) (j:Int) (kt f a:Nat) (y:List (Int×Nat)),Y.xs.drop i=r->l=(r.length:Nat)->y.length=L->ab (env w) (nQ w Y L ((i:Nat):Int) l d e t k j kt f a y):=by
 intro r
 induction r with
 | nil=>
  intro i l d e t k j kt f a y q g h
  exact ct (λ_ n=>.seg 68736258049 λO=>.use _ (cg w Y.it ((i:Nat):Int) l 1 d e t (by rw[g];simp:¬0<l)) [0] [] λm o=>.seg 4098 λB=>n (((k,j,kt),f,y,a)) h [] [3,3,3] [])
 | cons x r H=>
  intro i l d e t k j kt f a y q g h
  obtain⟨C,o⟩:=aQ q
  have s:i %L<y.length:=by rw[h];exact Nat.mod_lt _ (by omega)
  exact av (have E:0<l:=(by rw[g,Fd];omega);have p:((L:Nat):Int)≠0:=(by omega);have F:((i:Nat):Int).fmod ((L:Nat):Int)=(((i %L):Nat):Int):=(uS i L);have G:y[(i %L)]? =some (y[i %L]):=(Fh s);have X:y.length<=20:=(by omega);have I:∀(k kt f a u:Nat),ab (env w) (nQ w Y L (((i:Nat):Int)+1) (l-1) 0 0 t k ((i:Nat):Int) kt f a (y.set (i %L) ((y[i %L]:Int×Nat).1+x.1,u))):=(λk kt f a u=>H (i+1) (l-1) 0 0 t k ((i:Nat):Int) kt f a _ o (by rw[g];simp) (by rw[List.length_set];exact h));λ_ n=>.seg 68736258049 λO=>.use _ (bY w Y.it (↑i:Int) l 1 d e t ((↑i:Int)+1) (l-1) E rfl rfl) [0] [] λm W=>.seg 0x1002000000002002002002 λB=>.use _ (dv iv w Y.y a y L h (by omega)) [3] [] λJ Z=>.seg 1 λQ=>.use _ (eO w (↑i:Int) (↑L:Int) m J (↑(i %L):Int) p F) [] [] λA h6=>.seg 68736258049 λR=>.use _ (bH iv w Y.y a A (↑(i %L):Int) (i %L) y (y[i %L]) rfl G (by omega)) [0] [] λx8 h8=>.seg 0x4001004004004003003 λS=>.use _ (bH iv w Y.sa Y.n0 m (↑i:Int) i Y.xs x rfl C (by omega)) [3] [] λIv T=>.seg 1 λM=>.use _ (b8 w ((y[i %L]:Int×Nat).1) (x.1) ((y[i %L]:Int×Nat).2) (x.2) ((y[i %L]:Int×Nat).1+x.1) rfl) [] [] λv U=>.seg 137455738882 λN=>.use _ (tY iv w Y.y a A (↑(i %L):Int) (i %L) y ((y[i %L]:Int×Nat).1+x.1,v) rfl s (by omega)) [1] [] λIw V=>.seg 0 λP=>.use _ (I k m f a v) [2,2,1,0] [] λb D=>n (((b.1.1,b.1.2.1,b.1.2.2),b.2.1,b.2.2.1,b.2.2.2)) D [] [0,0,0] [])
theorem Ev (w:E9) (Y:Lw) (L:Nat) (v:L≠0) (B:L<=20) (s:Y.xs.length<=63) (E:Y.xs≠[]) (l:Int) (i j t f y:Nat) (d:l=(Y.xs.length:Nat)) (h:Y.ys.length=L):ab (env w) (y8 w Y L 0 l i j t f y):=by
 obtain⟨x,r,e⟩:=FC E
 have o:Y.xs[0]? =some x:=by rw[e];rfl
 have q:Y.xs.drop 1=r:=by rw[e];rfl
 have g:0 %L<Y.ys.length:=by rw[h];exact Nat.mod_lt _ (by omega)
 exact av (have C:0<l:=(by rw[d,e,Fd];omega);have A:((L:Nat):Int)≠0:=(by omega);have D:((0:Nat):Int).fmod ((L:Nat):Int)=(((0 %L):Nat):Int):=(uS 0 L);have F:Y.ys[(0 %L)]? =some (Y.ys[0 %L]):=(Fh g);have X:Y.ys.length<=20:=(by omega);have G:∀(k kt f y u:Nat),ab (env w) (nQ w Y L (((0:Nat):Int)+1) (l-1) 0 0 t k ((0:Nat):Int) kt f y (Y.ys.set (0 %L) ((Y.ys[0 %L]:Int×Nat).1+x.1,u))):=(λk kt f y u=>Ew w Y L v B s r 1 (l-1) 0 0 t k ((0:Nat):Int) kt f y _ q (by rw[d,e];simp) (by rw[List.length_set];exact h));λ_ I=>.seg 68736258049 λJ=>.use _ (bY w Y.it (↑0:Int) l 1 i j t ((↑0:Int)+1) (l-1) C rfl rfl) [0] [] λb W=>.seg 0x1002000000002002002002 λO=>.use _ (dv iv w Y.y y Y.ys L h (by omega)) [3] [] λH Z=>.seg 1 λQ=>.use _ (eO w (↑0:Int) (↑L:Int) b H (↑(0 %L):Int) A D) [] [] λn h6=>.seg 68736258049 λR=>.use _ (bH iv w Y.y y n (↑(0 %L):Int) (0 %L) Y.ys (Y.ys[0 %L]) rfl F (by omega)) [0] [] λx8 h8=>.seg 0x4001004004004003003 λS=>.use _ (bH iv w Y.sa Y.n0 b (↑0:Int) 0 Y.xs x rfl o (by omega)) [3] [] λgt T=>.seg 1 λM=>.use _ (b8 w ((Y.ys[0 %L]:Int×Nat).1) (x.1) ((Y.ys[0 %L]:Int×Nat).2) (x.2) ((Y.ys[0 %L]:Int×Nat).1+x.1) rfl) [] [] λm U=>.seg 137455738882 λN=>.use _ (tY iv w Y.y y n (↑(0 %L):Int) (0 %L) Y.ys ((Y.ys[0 %L]:Int×Nat).1+x.1,m) rfl g (by omega)) [1] [] λio V=>.seg 0 λP=>.use _ (G (O 0) b (f+1) y m) [2,2,1,0] [] λa p=>I (((a.1.1,a.1.2.1,a.1.2.2),a.2.1,a.2.2.1,a.2.2.2)) p [] [0,0,0] [])
noncomputable def EY (w:E9) (Y:Lw) (L:Nat):af:={d:=25,α:=(Nat×Int×Nat)×Nat×List (Int×Nat)×Nat,c:=.block [aA (aI w.params) 3] (aq w.params Y),need:=[(Y.fr,bv [es w.params [115,99,114,105,112,116] Y.k1 (.ref Y.sa),es w.params [115,105,122,101] Y.k2 (.int Y.nn Y.tn),es w.params [99,101,108,108,115] Y.k3 (.ref Y.y)] Y.fe Y.sl),(Y.sa,ae (Y.xs.map iv) Y.n0),(Y.y,ae (Y.ys.map iv) Y.yn)],new:=λx=>[(Y.fr,bv [es w.params [115,99,114,105,112,116] Y.k1 (.ref Y.sa),es w.params [115,105,122,101] Y.k2 (.int Y.nn Y.tn),es w.params [99,101,108,108,115] Y.k3 (.ref Y.y),es w.params [107] x.1.1 (.int x.1.2.1 x.1.2.2)] x.2.1 Y.sl),(Y.sa,ae (Y.xs.map iv) Y.n0),(Y.y,ae (x.2.2.1.map iv) x.2.2.2)],post:=λx=>x.2.2.1.length=L}
noncomputable def EX (w:E9) (Y:Lw) (L:Nat):af:={d:=25,α:=Unit,c:=.block [aA (aI w.params) 3] (aq w.params Y),need:=[(Y.fr,bv [es w.params [115,99,114,105,112,116] Y.k1 (.ref Y.sa),es w.params [115,105,122,101] Y.k2 (.int Y.nn Y.tn),es w.params [99,101,108,108,115] Y.k3 (.ref Y.y)] Y.fe Y.sl),(Y.sa,ae (Y.xs.map iv) Y.n0),(Y.y,ae (Y.ys.map iv) Y.yn)],put:=λ_=>[bv [es w.params [115,99,114,105,112,116] Y.k1 (.ref Y.sa),es w.params [115,105,122,101] Y.k2 (.int Y.nn Y.tn),es w.params [99,101,108,108,115] Y.k3 (.ref Y.y)] Y.fe Y.sl,ae (Y.xs.map iv) Y.n0,ae (Y.ys.map iv) Y.yn]}
noncomputable def ng (lo h:Fb):Obj:={cls:=.type "slice",data:=.fields #[lo,h,.none]}
theorem xW {vs:List Fb} {a b:Nat} (n:a<=b) (o:b<=vs.length):slicePick vs.toArray (some (a:Int)) (some (b:Int)) none=((vs.drop a).take (b-a)).toArray:=by
 have f:sliceBounds (some (a:Int)) (some (b:Int)) none vs.length=((a:Int),(b:Int),1):=by
  simp only[sliceBounds,Option.getD_none,show(1:Int)>0 by decide,if_true]
  rw[if_neg (by omega),if_neg (by omega)]
  refine Prod.ext ?_ (Prod.ext ?_ rfl)
  .show max 0 (min (a:Int) vs.length)=a
   omega
  .show max 0 (min (b:Int) vs.length)=b
   omega
 unfold slicePick
 rw[List.size_toArray,f]
 congr 1
 have g:sliceRange (a:Int) (b:Int) 1=(List.range (b-a)).map (λi=>a+i):=by
  unfold sliceRange
  simp only[show(1:Int)>0 by decide,if_true]
  by_cases h:(a:Int)<b
  .rw [if_pos h]
   have:(((b:Int)-a+1-1)/1).toNat=b-a:=by rw[Int.ediv_one];omega
   rw[this]
   refine Gz λi _=>?_
   omega
  .rw [if_neg h]
   have:b-a=0:=by omega
   rw[this];rfl
 rw[g]
 have m:∀(k:Nat) (a:Nat),a+k<=vs.length->((List.range k).map λi=>a+i).filterMap (λx=>vs.toArray[x]?)=(vs.drop a).take k:=by
  intro k
  induction k with
  | zero=>intro a _;rfl
  | succ k l=>
   intro a h
   have d:a<vs.length:=by omega
   rw[List.range_succ_eq_map,Fw,GU,List.filterMap_cons]
   have j:vs.toArray[a+0]? =some vs[a]:=by simp[d]
   rw[j]
   rw[Hx d,List.take_succ_cons]
   have e:Gx ((λi=>a+i)∘Nat.succ) (List.range k)=(List.range k).map λi=>a+1+i:=Gz λi _=>by
    show a+(i+1)=a+1+i
    omega
   rw[e]
   show vs[a]::_=_
   rw[l (a+1) (by omega)]
 exact m (b-a) a (by omega)
section
variable {γ:Type}
noncomputable def yQ (g:γ->Fb) (l n s:Nat) (a:List γ) (lo h:Int) (t u:Nat) (y:List γ):af:={d:=1,α:=Nat,c:=.builtin "list.__getitem__" ⟨[.ref l,.ref s],[]⟩,need:=[(l,ae (a.map g) n),(s,ng (.int lo t) (.int h u))],r:=λx=>.ok (.ret (.ref x)),put:=λ_=>[ae (a.map g) n,ng (.int lo t) (.int h u)],new:=λx=>[(x,ae (y.map g) 0)]}
theorem BL (g:γ->Fb) (w:E9) (l n d:Nat) (x:List γ) (lo m:Int) (t u:Nat) (y:List γ) (a b:Nat) (j:lo=(a:Nat)) (v:m=(b:Nat)) (k:a<=b/\b<=x.length) (D:x.length<=100000) (h:(x.drop a).take (b-a)=y):ab (env w) (yQ g l n d x lo m t u y):=by
 subst j;subst v;subst h
 refine aN λA s G j C P r=>?_
 have B:s.heap.get? l=some (ae (x.map g) n):=P.has (l,_) E2
 have f:s.heap.get? d=some (ng (.int a t) (.int b u)):=P.has (d,_) (E4 _ E2)
 have i:s.TypeIs (.ref d) "slice":=⟨_,f,rfl⟩
 show Fr _ _ (FM table (.builtin "list.__getitem__" ⟨[.ref l,.ref d],[]⟩)) _ _ s
 rw[aE _ _ F.entry_list_getitem]
 show Fr _ _ (GH (.ref d)>>=_) _ _ s
 refine E3 ?_
 unfold GH
 refine E3 (wpAny_specialOf i slice_no_index ?_)
 simp only[Option.isNone_none,if_true]
 refine E5 ?_
 show Fr _ _ (typeOf (.ref d)>>=_) _ _ s
 refine E3 (wpAny_typeOf i ?_)
 rw[if_neg (by decide)]
 rw[listSliceParts_eq]
 refine E3 (E3 (F1 f rfl (x:=.none) rfl (E3 (wpAny_listPart .none ?_))))
 rw[if_neg (show¬((rawPart none==FV 0)=true)from Fi)]
 refine E3 (F1 f rfl (x:=.int a t) rfl (E3 (wpAny_listPart (.int _ _) ?_)))
 refine E3 (F1 f rfl (x:=.int b u) rfl (E3 (wpAny_listPart (.int _ _) (E5 ?_))))
 refine E3 (m:=Fy (.ref l)) ?_
 unfold Fy
 refine E3 (FN B rfl (E5 ?_))
 refine E3 (wpAny_of_eq (sliceIndices_raw (some (a:Int)) (some (b:Int)) none _ (by simp)) ?_)
 have e:=xW (vs:=x.map g) (a:=a) (b:=b) k.1 (by rw[Fq];exact k.2)
 refine E3 (Gg (E5 ?_) (F2 (slicePick_size_le (x.map g).toArray (some (a:Int)) (some (b:Int)) none) (by simp[Gw];omega)))
 have o:({cls:=.type "list",data:=.seq (slicePick (x.map g).toArray (some (a:Int)) (some (b:Int)) none)}:Obj)=ae ((((x.drop a).take (b-a))).map g) 0:=by
  rw[e,<-List.map_drop,<-List.map_take];rfl
 have q:=(ap.start P).push (ae ((((x.drop a).take (b-a))).map g) 0) rfl
 have p:=r s.heap.objs.size {s with heap:=s.heap.push (ae ((((x.drop a).take (b-a))).map g) 0)} trivial (q.perm (FG (l₁:=[_]) (l₂:=[_,_])))
 rw[<-o]at p
 exact p
end
theorem gQ (w:E9) (r:Nat) (lo a:Int) (t b d:Nat) (l:Int) (e: -1000000000<=lo/\lo<=1000000000) (f: -1000000000<=a/\a<=1000000000) (h:(if lo<a then a-lo else 0)=l):ab (env w) (nB r lo a t b d l):=sT w r lo a t b d l e f h
noncomputable def gU (P:E8):Expr:=bI (aA (aY (aA (aI P) 8)) 4)
noncomputable def kW (P:E8) (x:List E6):Prop:=x=[]\/(∃k v,x=[es P [105] k v])\/∃k v a b,x=[es P [105] k v,es P [97,103,97,105,110] a b]
noncomputable def fE (P:E8) (x:List E6):Prop:=x=[]\/∃k v,x=[es P [97,103,97,105,110] k v]
noncomputable def f9 (w:E9) (Y:Lw) (b d a:Nat) (i k t:Nat) (Q:List (Nat×Nat)->Prop) (v l:Int) (j m n f:Nat) (e:List E6) (h:Nat) (g:List (Nat×Nat)):af:={d:=20,α:=List (Nat×Nat)×Nat×List E6×Nat,c:=dE (gU w.params) 1 d a (aq w.params Y) b [(⟨⟨[114,111,119]⟩⟩,Y.c6),(⟨⟨[110,97,109,101,115]⟩⟩,Y.c1)],need:=[(d,bG v l 1 j m n),(b,oD (es w.params [105] k (.int ((i:Nat):Int) t)::e) h),(a,ae (g.map cv) f),(Y.c1,aK (.str ⟨⟨Y.cps⟩⟩ Y.tN))],new:=λx=>[(b,oD (es w.params [105] k (.int ((i:Nat):Int) t)::x.2.2.1) x.2.2.2),(a,ae (x.1.map cv) x.2.1),(Y.c1,aK (.str ⟨⟨Y.cps⟩⟩ Y.tN))],post:=λx=>Q x.1/\fE w.params x.2.2.1}
theorem Bf (w:E9) (Y:Lw) (p e j:Nat) (i q m:Nat) (Q:List (Nat×Nat)->Prop) (c:Nat) (y:Y.cps[i]? =some c) (D:Y.cps.length<=10):∀(n:Nat) (v l:Int) (f g t a d:Nat) (s:List E6) (b:List (Nat×Nat)),l=(n:Nat)->b.length+n<=1000->fE w.params s->(∀o,ad o=ad b++FX n c->Q o)->ab (env w) (f9 w Y p e j i q m Q v l f g t a s d b):=by
 let S:∀{w:E9} {lo:List E6} {Y:Lw} {p e j:Nat} {i q m:Nat} {Q:List (Nat×Nat)->Prop} {v l:Int} {f g t a:Nat} {d:Nat} {b:List (Nat×Nat)} (c:Nat) (A:0<l) (y:Y.cps[i]? =some c) (D:Y.cps.length<=10) (H:b.length<=1000) (C:∀(k:Nat) (h:Fb) (a d u:Nat),ab (env w) (f9 w Y p e j i q m Q (v+1) (l-1) 0 0 t a [es w.params [97,103,97,105,110] k h] d (b++[(c,u)]))),PP (env w) (f9 w Y p e j i q m Q v l f g t a lo d b):= @λw lo Y p e j i q m Q v l f g t a d b c A y D H C _ r=>
  .seg 68736258049 λJ=>.use _ (bY w e v l 1 f g t (v+1) (l-1) A rfl rfl) [0] [] λI L=>.seg 281612482781186 λO=>.use _ (gG w Y.cps Y.tN (↑i:Int) m i c rfl y (by omega)) [] [] λN V=>.seg 12289 λT=>.use _ (dw w j a b (c,N) (by omega)) [2] [] λx6 W=>.seg 0 λU=>.use _ (C (kT lo (O 0)) (Gh v I) (a+1) (kE lo d) N) [1,1,0,0] [] λx E=>have X:Q x.1:=(Fx E);have Z:fE w.params x.2.2.1:=(Fg E);r (x.1,x.2.1,x.2.2.1,x.2.2.2) E [] [0,0,0] []
 intro n
 induction n with
 | zero=>
  intro v l f g t a d s b A H G F
  have B:¬0<l:=by omega
  have M:Q b:=F b (by simp)
  rcases G with rfl | ⟨k,h,rfl⟩
  .exact ct (λ_ r=>.seg 68736258049 λJ=>.use _ (cg w e v l 1 f g t B) [0] [] λI L=>.seg 2 λO=>r (b,a,[],d) ⟨M,.inl rfl⟩ [] [3,3,3] [])
  .exact ct (λ_ r=>.seg 68736258049 λJ=>.use _ (cg w e v l 1 f g t B) [0] [] λI L=>.seg 2 λO=>r (b,a,[es w.params [97,103,97,105,110] k h],d) ⟨M,.inr ⟨k,h,rfl⟩⟩ [] [3,3,3] [])
 | succ n C=>
  intro v l f g t a d s b A H G F
  have B:0<l:=by omega
  have R:∀(k:Nat) (h:Fb) (a d u:Nat),ab (env w) (f9 w Y p e j i q m Q (v+1) (l-1) 0 0 t a [es w.params [97,103,97,105,110] k h] d (b++[(c,u)])):=λk h a d u=>C (v+1) (l-1) 0 0 t a d _ _ (by omega) (by simp;omega) (.inr ⟨k,h,rfl⟩) λo P=>F o (by
   rw[P]
   simp[ad,List.replicate_succ])
  rcases G with rfl | ⟨k,h,rfl⟩<;>exact av (S c B y D (by omega) R)
theorem Be (w:E9) (Y:Lw) (e f b:Nat) (i k n:Nat) (Q:List (Nat×Nat)->Prop) (c:Nat) (s:Y.cps[i]? =some c) (p:Y.cps.length<=10) (l:Int) (t g h j m:Nat) (d:List E6) (a:List (Nat×Nat)) (v:0<=l) (u:a.length+l.toNat<=1000) (r:fE w.params d) (q:∀o,ad o=ad a++FX l.toNat c->Q o):ab (env w) {f9 w Y e f b i k n Q 0 l t g h j d m a with c:=bB (gU w.params) 1 f b (aq w.params Y) e [(⟨⟨[114,111,119]⟩⟩,Y.c6),(⟨⟨[110,97,109,101,115]⟩⟩,Y.c1)]}:=
 dq jP (o:=bG 0 l 1 t g h) rfl (by simp[f9]) (by kernel_rfl) (by kernel_rfl) rfl (Bf w Y e f b i k n Q c s p l.toNat 0 l t g h j m d a (by omega) u r q)
noncomputable def jV (w:E9) (Y:Lw) (b d a R r:Nat) (e:List (Int×Nat)) (Q:List (Nat×Nat)->Prop) (i:Nat) (l:Int) (t j k f:Nat) (lo:List E6) (h:Nat) (g:List (Nat×Nat)):af:={d:=30,α:=List (Nat×Nat)×Nat×List E6×Nat,c:=dE (gU w.params) 0 d a (aq w.params Y) b [(⟨⟨[114,111,119]⟩⟩,Y.c6),(⟨⟨[110,97,109,101,115]⟩⟩,Y.c1)],need:=[(d,bG ((i:Nat):Int) l 1 t j k),(b,oD lo h),(a,ae (g.map cv) f),(Y.c1,aK (.str ⟨⟨Y.cps⟩⟩ Y.tN)),(Y.c6,aj R),(R,ae (e.map iv) r)],new:=λx=>[(b,oD x.2.2.1 x.2.2.2),(a,ae (x.1.map cv) x.2.1),(Y.c1,aK (.str ⟨⟨Y.cps⟩⟩ Y.tN)),(Y.c6,aj R),(R,ae (e.map iv) r)],post:=λx=>Q x.1/\kW w.params x.2.2.1}
noncomputable def cQ (x:Int):Int:=if 0<x.fmod 4-1 then x.fmod 4-1-0 else 0
theorem oy (x:Int): -1<=x.fmod 4-1/\x.fmod 4-1<=2/\0<=cQ x/\cQ x<=2:=by
 have h:x.fmod 4=x %4:=GN _ (by omega)
 unfold cQ
 rw[h]
 refine⟨by omega,by omega, ?_, ?_⟩<;>split<;>omega
noncomputable def dp (a:List Nat) (r:List (Int×Nat)):Nat->Nat->List Nat
 | _,0=>[]
 | i,n+1=>FX (cQ (r.getD i (0,0)).1).toNat (a.getD i 0)++dp a r (i+1) n
theorem Bd (w:E9) (Y:Lw) (A s y R N:Nat) (r:List (Int×Nat)) (h5:Y.cps.length<=10) (IC:r.length<=20):∀(n:Nat) (Q:List (Nat×Nat)->Prop) (i:Nat) (e:Int) (m p t d l:Nat) (lo:List E6) (a:List (Nat×Nat)),e=(n:Nat)->i+n<=r.length->i+n<=Y.cps.length->a.length+2*n<=900->(lo=[]\/∃k F f,fE w.params f/\lo=es w.params [105] k F::f)->
 (∀o,ad o=ad a++dp Y.cps r i n->Q o)->ab (env w) (jV w Y A s y R N r Q i e m p t d lo l a):=by
 intro n
 induction n with
 | zero=>
  intro Q i e m p t d l lo a hl h1 B hz gt X
  have D:¬0<e:=by omega
  have hq:Q a:=X a (by simp[dp])
  rcases gt with rfl | ⟨k,F,f,C,rfl⟩
  .exact ct (λ_ j=>.seg 68736258049 λG=>.use _ (cg w s (↑i:Int) e 1 m p t D) [0] [] λg B=>.seg 2 λv=>j (a,d,[],l) ⟨hq,.inl rfl⟩ [] [3,3,3,3,3] [])
  .rcases C with rfl | ⟨M,P,rfl⟩
   .exact ct (λ_ j=>.seg 68736258049 λG=>.use _ (cg w s (↑i:Int) e 1 m p t D) [0] [] λg B=>.seg 2 λv=>j (a,d,[es w.params [105] k F],l) ⟨hq,.inr (.inl ⟨k,F,rfl⟩)⟩ [] [3,3,3,3,3] [])
   .exact ct (λ_ j=>.seg 68736258049 λG=>.use _ (cg w s (↑i:Int) e 1 m p t D) [0] [] λg B=>.seg 2 λv=>j (a,d,[es w.params [105] k F,es w.params [97,103,97,105,110] M P],l) ⟨hq,.inr (.inr ⟨k,F,M,P,rfl⟩)⟩ [] [3,3,3,3,3] [])
 | succ n ih=>
  intro Q i e m p t d l lo a hl h1 B hz gt X
  have D:0<e:=by omega
  have hi:i<r.length:=by omega
  have hc:i<Y.cps.length:=by omega
  have V:r[i]? =some r[i]:=Fh hi
  have Iz:Y.cps[i]? =some Y.cps[i]:=Fh hc
  obtain⟨b1,W,b3,b4⟩:=oy r[i].1
  have Z:∀(f:List E6),fE w.params f->∀(E u1 u2 u3 k u d l:Nat),ab (env w) {f9 w Y A E y i k u (λo=>ad o=ad a++FX (cQ r[i].1).toNat Y.cps[i]) 0 (cQ r[i].1) u1 u2 u3 d f l a with c:=bB (gU w.params) 1 E y (aq w.params Y) A [(⟨⟨[114,111,119]⟩⟩,Y.c6),(⟨⟨[110,97,109,101,115]⟩⟩,Y.c1)]}:=λf C E u1 u2 u3 k u d l=>
   Be w Y A E y i k u _ Y.cps[i] Iz h5 (cQ r[i].1) u1 u2 u3 d l f a b3 (by omega) C λo IA=>IA
  have nx:∀(k u d l:Nat) (f:List E6) (o:List (Nat×Nat)),(ad o=ad a++FX (cQ r[i].1).toNat Y.cps[i])->fE w.params f->ab (env w) (jV w Y A s y R N r Q (i+1) (e-1) 0 0 t d (es w.params [105] k (.int ((i:Nat):Int) u)::f) l o):=λk u d l f o ho C=>by
   have ID:o.length=a.length+(cQ r[i].1).toNat:=by
    have:=congrArg Fo ho
    simpa[ad]using this
   refine ih Q (i+1) (e-1) 0 0 t d l _ o (by omega) (by omega) (by omega) (by omega) (.inr ⟨k,_,f,C,rfl⟩) λo' IB=>X o' ?_
   rw[IB,ho,Fp]
   congr 1
   show _=FX (cQ (r.getD i (0,0)).1).toNat (Y.cps.getD i 0)++dp Y.cps r (i+1) n
   rw[GM,GM,V,Iz]
   rfl
  rcases gt with rfl | ⟨k,F,f,C,rfl⟩
  .exact av (have he: -1<=(((r[i]:Int×Nat).1.fmod 4)-1)/\(((r[i]:Int×Nat).1.fmod 4)-1)<=2:=⟨b1,W⟩;λ_ j=>.seg 68736258049 λG=>.use _ (bY w s (↑i:Int) e 1 m p t ((↑i:Int)+1) (e-1) D rfl rfl) [0] [] λg B=>.seg 0x6001006006006002005000000002002 λv=>.use _ (bH iv w R N g (↑i:Int) i r (r[i]) rfl V (by omega)) [5] [] λx4 h4=>.seg 1 λH=>.use _ (eO w ((r[i]:Int×Nat).1) 4 ((r[i]:Int×Nat).2) (H 0) ((r[i]:Int×Nat).1.fmod 4) (by trivial) rfl) [] [] λT h6=>.seg 1 λI=>.use _ (bx w ((r[i]:Int×Nat).1.fmod 4) 1 T (I 0) (((r[i]:Int×Nat).1.fmod 4)-1) rfl) [] [] λU h8=>.seg 0x1001001001001001001001001001001001001001 λO=>.use _ (gQ w (O 2) 0 (((r[i]:Int×Nat).1.fmod 4)-1) (O 0) U (O 1) (cQ r[i].1) (by trivial) (by omega) rfl) [0] [] λS Iw=>.seg 2 λio=>.use _ ((Z [] (.inl rfl)) S 0 0 0 (v 0) g d (l+1)) [1,3,3,3] [] λx q=>have J:(λ(o:List (Nat×Nat))=>ad o=ad a++FX (Int.toNat (cQ r[i].1)) (Y.cps[i])) x.1:=(Fx q);have L:fE w.params x.2.2.1:=(Fg q); .seg 0 λIv=>.use _ (nx (v 0) g (x.2.1) (x.2.2.2) (x.2.2.1) (x.1) J L) [5,0,0,0,2,1] [] λb h=>have Ix:Q b.1:=(Fx h);have Iy:kW w.params b.2.2.1:=(Fg h);j (b.1,b.2.1,b.2.2.1,b.2.2.2) h [] [0,0,0,0,0] [])
  .rcases C with rfl | ⟨M,P,rfl⟩
   .exact av (have he: -1<=(((r[i]:Int×Nat).1.fmod 4)-1)/\(((r[i]:Int×Nat).1.fmod 4)-1)<=2:=⟨b1,W⟩;λ_ j=>.seg 68736258049 λG=>.use _ (bY w s (↑i:Int) e 1 m p t ((↑i:Int)+1) (e-1) D rfl rfl) [0] [] λg B=>.seg 0x6001006006006002005000000002002 λv=>.use _ (bH iv w R N g (↑i:Int) i r (r[i]) rfl V (by omega)) [5] [] λx4 h4=>.seg 1 λH=>.use _ (eO w ((r[i]:Int×Nat).1) 4 ((r[i]:Int×Nat).2) (H 0) ((r[i]:Int×Nat).1.fmod 4) (by trivial) rfl) [] [] λT h6=>.seg 1 λI=>.use _ (bx w ((r[i]:Int×Nat).1.fmod 4) 1 T (I 0) (((r[i]:Int×Nat).1.fmod 4)-1) rfl) [] [] λU h8=>.seg 0x1001001001001001001001001001001001001001 λO=>.use _ (gQ w (O 2) 0 (((r[i]:Int×Nat).1.fmod 4)-1) (O 0) U (O 1) (cQ r[i].1) (by trivial) (by omega) rfl) [0] [] λS Iw=>.seg 2 λio=>.use _ ((Z [] (.inl rfl)) S 0 0 0 k g d l) [1,3,3,3] [] λx q=>have J:(λ(o:List (Nat×Nat))=>ad o=ad a++FX (Int.toNat (cQ r[i].1)) (Y.cps[i])) x.1:=(Fx q);have L:fE w.params x.2.2.1:=(Fg q); .seg 0 λIv=>.use _ (nx k g (x.2.1) (x.2.2.2) (x.2.2.1) (x.1) J L) [5,0,0,0,2,1] [] λb h=>have Ix:Q b.1:=(Fx h);have Iy:kW w.params b.2.2.1:=(Fg h);j (b.1,b.2.1,b.2.2.1,b.2.2.2) h [] [0,0,0,0,0] [])
   .exact av (have he: -1<=(((r[i]:Int×Nat).1.fmod 4)-1)/\(((r[i]:Int×Nat).1.fmod 4)-1)<=2:=⟨b1,W⟩;λ_ j=>.seg 68736258049 λG=>.use _ (bY w s (↑i:Int) e 1 m p t ((↑i:Int)+1) (e-1) D rfl rfl) [0] [] λg B=>.seg 0x6001006006006002005000000002002 λv=>.use _ (bH iv w R N g (↑i:Int) i r (r[i]) rfl V (by omega)) [5] [] λx4 h4=>.seg 1 λH=>.use _ (eO w ((r[i]:Int×Nat).1) 4 ((r[i]:Int×Nat).2) (H 0) ((r[i]:Int×Nat).1.fmod 4) (by trivial) rfl) [] [] λT h6=>.seg 1 λI=>.use _ (bx w ((r[i]:Int×Nat).1.fmod 4) 1 T (I 0) (((r[i]:Int×Nat).1.fmod 4)-1) rfl) [] [] λU h8=>.seg 0x1001001001001001001001001001001001001001 λO=>.use _ (gQ w (O 2) 0 (((r[i]:Int×Nat).1.fmod 4)-1) (O 0) U (O 1) (cQ r[i].1) (by trivial) (by omega) rfl) [0] [] λS Iw=>.seg 2 λio=>.use _ ((Z _ (.inr ⟨M,P,rfl⟩):∀(E u1 u2 u3 k u d l:Nat),ab (env w) {f9 w Y A E y i k u (λo=>ad o=ad a++FX (cQ r[i].1:Int).toNat (Y.cps[i])) 0 (cQ r[i].1) u1 u2 u3 d [es w.params [97,103,97,105,110] M P] l a with c:=bB (gU w.params) 1 E y (aq w.params Y) A [(⟨⟨[114,111,119]⟩⟩,Y.c6),(⟨⟨[110,97,109,101,115]⟩⟩,Y.c1)]}) S 0 0 0 k g d l) [1,3,3,3] [] λx q=>have J:(λ(o:List (Nat×Nat))=>ad o=ad a++FX (Int.toNat (cQ r[i].1)) (Y.cps[i])) x.1:=(Fx q);have L:fE w.params x.2.2.1:=(Fg q); .seg 0 λIv=>.use _ (nx k g (x.2.1) (x.2.2.2) (x.2.2.1) (x.1) J L) [5,0,0,0,2,1] [] λb h=>have Ix:Q b.1:=(Fx h);have Iy:kW w.params b.2.2.1:=(Fg h);j (b.1,b.2.1,b.2.2.1,b.2.2.2) h [] [0,0,0,0,0] [])
theorem Bc (w:E9) (Y:Lw) (b i a R j:Nat) (r:List (Int×Nat)) (m:Y.cps.length<=10) (k:r.length<=20) (l:Int) (t d e f g:Nat) (n:Nat) (p:l=(n:Nat)) (q:n<=r.length) (s:n<=Y.cps.length):ab (env w) {jV w Y b i a R j r (λo=>ad o=dp Y.cps r 0 n) 0 l t d e f [] g []with c:=bB (gU w.params) 0 i a (aq w.params Y) b [(⟨⟨[114,111,119]⟩⟩,Y.c6),(⟨⟨[110,97,109,101,115]⟩⟩,Y.c1)]}:=
 dq jP (o:=bG ((0:Nat):Int) l 1 t d e) rfl (by simp[jV]) (by kernel_rfl) (by kernel_rfl) rfl (Bd w Y b i a R j r m k n _ 0 l t d e f g [] [] p (by omega) (by omega) (by simp;omega) (.inl rfl) λo h=>by simpa[ad]using h)
theorem iZ (N:List NL) (x:NL):([(x.a,ae (x.ps.map cv) x.n)]++bh N).Perm (bh (N++[x])):=by
 unfold bh
 rw[HL]
 simp only[GP,List.flatMap_nil,FL]
 exact FG
noncomputable def sJ (w:E9) (Y:Lw) (i h e la nd:Nat) (n:Int) (Q:MI->MI->MI->List NL->Prop) (k:List E6) (v:Int) (l:Int) (t s u g:Nat) (q:List E6) (r:Obj) (o j p:MI) (b a d:Nat) (m:List (Nat×Nat×Nat)) (f:Nat) (N:List NL):af:={d:=45,α:=(Nat×Int×Nat×Nat×Nat)×(MI×MI×MI×List NL)×(Nat×Nat×Nat×Nat),c:=bR (aA (aI w.params) 8) (.ref i) (aq w.params Y),need:=[(i,bG v l 1 t s u),(Y.fr,bv ([es w.params [115,99,114,105,112,116] Y.k1 (.ref Y.sa),es w.params [115,105,122,101] Y.k2 (.int n Y.tn),es w.params [99,101,108,108,115] Y.k3 (.ref Y.y)]++(k++q)) g Y.sl),(Y.y,ae (Y.ys.map iv) Y.yn),(Y.c1,aK (.str ⟨⟨Y.cps⟩⟩ Y.tN)),(Y.c2,aj h),(Y.c3,aj e),(Y.c4,aj la),(Y.c5,aj nd),(Y.c6,r),(h,dO w.params (.type "dict") none iv o b),(e,dO w.params (.type "dict") none iv j a),(la,dO w.params (.type "dict") none iv p d),(nd,dO w.params (.type "dict") none .ref m f)],new:=λx=>[(Y.fr,bv ([es w.params [115,99,114,105,112,116] Y.k1 (.ref Y.sa),es w.params [115,105,122,101] Y.k2 (.int n Y.tn),es w.params [99,101,108,108,115] Y.k3 (.ref Y.y)]++(k++[es w.params [106] x.1.1 (.int x.1.2.1 x.1.2.2.1)])) x.1.2.2.2.1 Y.sl),(Y.c1,aK (.str ⟨⟨Y.cps⟩⟩ Y.tN)),(Y.c2,aj h),(Y.c3,aj e),(Y.c4,aj la),(Y.c5,aj nd),(Y.c6,aj x.1.2.2.2.2),(h,dO w.params (.type "dict") none iv x.2.1.1 x.2.2.1),(e,dO w.params (.type "dict") none iv x.2.1.2.1 x.2.2.2.1),(la,dO w.params (.type "dict") none iv x.2.1.2.2.1 x.2.2.2.2.1),(nd,dO w.params (.type "dict") none .ref (aM x.2.1.2.2.2) x.2.2.2.2.2)],post:=λx=>Q x.2.1.1 x.2.1.2.1 x.2.1.2.2.1 x.2.1.2.2.2,needB:=[bh N],putB:=λx=>[bh x.2.1.2.2.2]}
theorem fi {b:Type} {m:List (Nat×Nat×b)} {c t:Nat} {v:b} (h:c∉ak m):aw m c t v=m++[(c,t,v)]:=by
 induction m with
 | nil=>rfl
 | cons x m i=>
  obtain⟨k,u,y⟩:=x
  have a:c≠k/\c∉ak m:=by
   unfold ak at h
   rw[Fw,GR,not_or]at h
   exact h
  unfold aw
  rw[if_neg (λq=>a.1 q.symm),i a.2]
  rfl
theorem ox {a:List Nat} {r:List (Int×Nat)} {p:Nat}:∀{n i:Nat},p∈dp a r i n->∃k,i<=k/\k<i+n/\p=a.getD k 0
 | 0,i,h=>by cases h
 | n+1,i,h=>by
  rcases GE.mp h with q | q
  .exact ⟨i,FO _,by omega,(List.mem_replicate.mp q).2⟩
  .obtain ⟨k,d,e,b⟩:=ox q
   exact⟨k,by omega,by omega,b⟩
theorem Dk {a:List Nat} (d:a.Nodup) {i k:Nat} (b:i<a.length) (hk:k<a.length) (h:a.getD i 0=a.getD k 0):i=k:=by
 rw[GM,GM,Fh b,Fh hk]at h
 exact(List.getElem_inj d).mp h
theorem tH {a:List Nat} {row:List (Int×Nat)} (d:a.Nodup) (p:Nat):∀{n i:Nat},i+n<=a.length->(dp a row i n).count p<=2
 | 0,i,_=>Gi _
 | n+1,i,h=>by
  have g:=tH (row:=row) d p (n:=n) (i:=i+1) (by omega)
  have b:=oy (row.getD i (0,0)).1
  unfold dp
  rw[List.count_append,List.count_replicate]
  by_cases q:a.getD i 0=p
  .have e:(dp a row (i+1) n).count p=0:=Hn.mpr λz=>by
    obtain⟨k,j,l,f⟩:=ox z
    have:=Dk d (i:=i) (k:=k) (by omega) (by omega) (q.trans f)
    omega
   rw[e]
   split<;>omega
  .have:((a.getD i 0)==p)=false:=by simpa using q
   rw[this]
   simpa using g
theorem tG {cps:List Nat} {row:List (Int×Nat)}:∀{n i:Nat},(dp cps row i n).length<=2*n
 | 0,i=>FO _
 | n+1,i=>by
  have a:=tG (cps:=cps) (row:=row) (n:=n) (i:=i+1)
  have b:=oy (row.getD i (0,0)).1
  unfold dp
  rw[FW,HZ]
  omega
structure dH (cps:List Nat) (j:Nat) (mh me ml:MI) (N:List NL):Prop where
 kh:ak mh=cps.take j
 ke:ak me=cps.take j
 kl:ak ml=cps.take j
 kn:aU N=cps.take j
 vh:∀x∈mh,0<=x.2.2.1/\x.2.2.1<=3
 ve:∀x∈me,1<=x.2.2.1/\x.2.2.1<=3
 vl:∀x∈ml,1<=x.2.2.1/\x.2.2.1<=3
 vn:∀i x,N[i]? =some x->(∀p∈ad x.ps,p∈cps.take i)/\(∀p,(ad x.ps).count p<=2)/\x.ps.length<=2*i
theorem f5 {a:List Nat} {j c:Nat} (h:a[j]? =some c):a.take (j+1)=a.take j++[c]:=by
 rw[List.take_add_one,h];rfl
theorem hY {a:List Nat} (d:a.Nodup) {j c:Nat} (h:a[j]? =some c):c∉a.take j:=λz=>by
 obtain⟨k,hk,e⟩:=Iu.mp z
 rw[FQ]at hk
 rw[GO]at e
 obtain⟨f,b⟩:=Fa.mp h
 have:=(List.getElem_inj d).mp (e.trans b.symm)
 omega
theorem dH.next {d:List Nat} (r:d.Nodup) {j c:Nat} (f:d[j]? =some c) {w u A:MI} {N:List NL} (J:dH d j w u A N) {x:Int} {H:List (Int×Nat)} {uh ue ul un vh ve vl a n:Nat} {e:List (Nat×Nat)} (l:ad e=dp d H 0 j):
 dH d (j+1) (aw w c uh (x.fmod 4,vh)) (aw u c ue ((x.fdiv 4).fmod 3+1,ve)) (aw A c ul ((x.fdiv 12).fmod 3+1,vl)) (N++[NL.mk (c,un) a e n])/\aw (aM N) c un a=aM (N++[NL.mk (c,un) a e n]):=by
 have g:=hY r f
 have L:j<d.length:=(Fa.mp f).1
 have G:∀x:Int,0<=x.fmod 4/\x.fmod 4<=3:=λx=>by
  rw[GN _ (by omega)];omega
 have s:∀x:Int,1<=x.fmod 3+1/\x.fmod 3+1<=3:=λx=>by
  rw[GN _ (by omega)];omega
 have o:∀{B:Type} {m:List (Nat×Nat×B)} {t:Nat} {v:B},ak m=d.take j->ak (m++[(c,t,v)])=d.take (j+1):=λh=>by
  rw[f5 f,<-h];unfold ak;rw[Ff];rfl
 have F:ak (aM N)=d.take j:=by
  rw[<-J.kn];unfold ak aM aU;rw[GU];rfl
 rw[fi (by rw[J.kh];exact g),fi (by rw[J.ke];exact g),fi (by rw[J.kl];exact g),fi (by rw[F];exact g)]
 refine⟨⟨o J.kh,o J.ke,o J.kl, ?_, ?_, ?_, ?_, ?_⟩, ?_⟩
 .rw [f5 f,<-J.kn];unfold aU;rw[Ff];rfl
 .intro y b
  rcases GE.mp b with q | q
  .exact J.vh y q
  .rw [Gd.mp q];exact G x
 .intro y b
  rcases GE.mp b with q | q
  .exact J.ve y q
  .rw [Gd.mp q];exact s _
 .intro y b
  rcases GE.mp b with q | q
  .exact J.vl y q
  .rw [Gd.mp q];exact s _
 .intro i y b
  have E:N.length=j:=by
   have:=congrArg Fo J.kn
   unfold aU at this
   rw[Fq,FQ]at this
   omega
  by_cases C:i<N.length
  .rw [List.getElem?_append_left C]at b
   exact J.vn i y b
  .rw [List.getElem?_append_right (by omega)]at b
   have D:i=j:=by
    have:=(Fa.mp b).1
    simp at this
    omega
   subst D
   rw[E]at b
   simp at b
   subst b
   refine⟨λp hp=>?_,λp=>?_, ?_⟩
   .have hp:p∈ad e:=hp
    rw[l]at hp
    obtain⟨k,_,I,rfl⟩:=ox hp
    have hk:k<d.length:=by omega
    rw[GM,Fh hk]
    exact Iu.mpr ⟨k,by rw[FQ];omega,by rw[GO];rfl⟩
   .show (ad e).count p<=2
    rw[l];exact tH r p (by omega)
   .show e.length<=2*i
    rw[<-eV,l];exact tG
 .unfold aM;rw[Ff];rfl
theorem Cr:∀n,n<6->∀j,j<n->((n:Nat):Int)+(((j:Nat):Int)*(((j:Nat):Int)-1)).fdiv 2=((n+j*(j-1)/2:Nat):Int)/\((n:Nat):Int)+(((j:Nat):Int)*(((j:Nat):Int)+1)).fdiv 2=((n+j*(j+1)/2:Nat):Int)/\n+j*(j-1)/2<=n+j*(j+1)/2/\n+j*(j+1)/2<=n+n*(n-1)/2/\n+j*(j+1)/2-(n+j*(j-1)/2)=j:=by decide+kernel
theorem Cq:∀n j:Nat,n<=5->j<n->∃a b:Nat,((n:Nat):Int)+(((j:Nat):Int)*(((j:Nat):Int)-1)).fdiv 2=((a:Nat):Int)/\((n:Nat):Int)+(((j:Nat):Int)*(((j:Nat):Int)+1)).fdiv 2=((b:Nat):Int)/\a<=b/\b<=n+n*(n-1)/2/\b-a=j:=λn j d h=>⟨_,_,Cr n (Nat.lt_succ_of_le d) j h⟩
theorem mZ {m:MI} {l:List Nat} {j:Nat} (h:ak m=l.take j) (a:j<=5):m.length<=10:=by have:=congrArg Fo h;unfold ak at this;rw[Fq,FQ]at this;omega
theorem ug (w:E9) (Y:Lw) (o F E la:Nat) (Q:MI->MI->MI->List NL->Prop) (B:List E6) (JD:B=[]\/∃k4 kv kt,B=[es w.params [107] k4 (.int kv kt)]) (n:Nat) (Iy:n<=5) (hn:Y.cps.length=n) (JF:Y.cps.Nodup) (Jc:Y.ys.length=n+n*(n-1)/2) (c:Nat) (Je:List Nat) (j:Nat) (t:Int) (C D u h:Nat) (IM:List E6) (o6:Obj) (hm:(IM=[]/\o6=br)\/∃A jv y R,IM=[es w.params [106] A (.int jv y)]/\o6=aj R) (q p r:MI) (l k m g:Nat) (N:List NL) (hd:Y.cps.drop j=c::Je) (hl:t=((c::Je).length:Nat)) (J:dH Y.cps j q p r N)
 (T:∀(A y h R l k m g:Nat) (q p r:MI) (N:List NL),dH Y.cps (j+1) q p r N->ab (env w) (sJ w Y o F E la Y.nd ((n:Nat):Int) Q B (((j:Nat):Int)+1) (t-1) 0 0 u h [es w.params [106] A (.int ((j:Nat):Int) y)] (aj R) q p r l k m (aM N) g N)):
 ab (env w) (sJ w Y o F E la Y.nd ((n:Nat):Int) Q B ((j:Nat):Int) t C D u h IM o6 q p r l k m (aM N) g N):=by
 let pJ:∀{w:E9} {lo:List E6} {B:List E6} {cR:Obj} {Y:Lw} {o F E la:Nat} {I:Int} {Q:MI->MI->MI->List NL->Prop} {i:Nat} {t:Int} {C D u h:Nat} {q p r:MI} {l k m:Nat} {H:List (Nat×Nat×Nat)} {g:Nat} {N:List NL} (c:Nat) (x:Int×Nat) (L:List (Int×Nat)) (a b:Nat) (Z V m1 X W m2 l1 jm p1 q1 G p2 q2:Int) (hl:0<t) (v:Y.cps[i]? =some c) (S:Y.ys[i]? =some x) (hh:x.1.fmod 4=Z) (IY:x.1.fdiv 4=V) (I5:V.fmod 3=m1) (I0:m1+1=X) (IZ:x.1.fdiv 12=W) (I6:W.fmod 3=m2) (I4:m2+1=l1) (I3:((i:Nat):Int)-1=jm) (I7:((i:Nat):Int)*jm=p1) (I9:p1.fdiv 2=q1) (ha:I+q1=((a:Nat):Int)) (II:((i:Nat):Int)+1=G) (I8:((i:Nat):Int)*G=p2) (Ja:p2.fdiv 2=q2) (hb:I+q2=((b:Nat):Int)) (Iv:a<=b/\b<=Y.ys.length) (Jb:(Y.ys.drop a).take (b-a)=L) (IW:Y.ys.length<=20) (h5:Y.cps.length<=10) (JA:i<=5) (JK:q.length<=10) (JL:p.length<=10) (JM:r.length<=10) (JN:H.length<=10) (Iw:∀(cl o io R rn C D u an IL:Nat),ab (env w) {jV w Y cl o io R rn L (λIN=>ad IN=dp Y.cps L 0 i) 0 ((i:Nat):Int) C D u an [] IL []with c:=bB (gU w.params) 0 o io (aq w.params Y) cl [(⟨⟨[114,111,119]⟩⟩,Y.c6),(⟨⟨[110,97,109,101,115]⟩⟩,Y.c1)]}) (T:∀(A y h R l k m g uh ue ul M vh ve vl a n:Nat) (U:List (Nat×Nat)),ad U=dp Y.cps L 0 i->ab (env w) (sJ w Y o F E la Y.nd I Q B G (t-1) 0 0 u h [es w.params [106] A (.int ((i:Nat):Int) y)] (aj R) (aw q c uh (Z,vh)) (aw p c ue (X,ve)) (aw r c ul (l1,vl)) l k m (aw H c M a) g (N++[NL.mk (c,M) a U n]))),PP (env w) (sJ w Y o F E la Y.nd I Q B ((i:Nat):Int) t C D u h lo cR q p r l k m H g N):= @λw lo B cR Y o F E la I Q i t C D u h q p r l k m H g N c x L a b Z V m1 X W m2 l1 jm p1 q1 G p2 q2 hl v S hh IY I5 I0 IZ I6 I4 I3 I7 I9 ha II I8 Ja hb Iv Jb IW h5 JA JK JL JM JN Iw T _ τ=>
  .seg 68736258049 λO1=>.use _ (bY w o (↑i:Int) t 1 C D u G (t-1) hl II rfl) [0] [] λe h2=>.seg 0x3001003003003002002002002 λO3=>.use _ (bH iv w Y.y Y.yn e (↑i:Int) i Y.ys x rfl S (by omega)) [2] [] λx4 h4=>.seg 1 λO5=>.use _ (eO w (x.1) 4 (x.2) (O5 0) Z (by trivial) hh) [] [] λx6 h6=>.seg 68769824773 λO7=>.use _ (gG w Y.cps Y.tN (↑i:Int) e i c rfl v (by omega)) [] [] λx8 h8=>.seg 687211585546 λO9=>.use _ (f6 w F none l c x8 q Z x6 (by omega)) [9] [] λIR Kg=>.seg 0x2001002002002004004 λJ3=>.use _ (bH iv w Y.y Y.yn e (↑i:Int) i Y.ys x rfl S (by omega)) [1] [] λKH Kh=>.seg 1 λJf=>.use _ (g9 w (x.1) 4 (x.2) (Jf 0) V (by trivial) (by trivial) IY) [] [] λJO Ki=>.seg 1 λJg=>.use _ (eO w V 3 JO (Jg 0) m1 (by trivial) I5) [] [] λJP Kj=>.seg 1 λJh=>.use _ (b8 w m1 1 JP (Jh 0) X I0) [] [] λIz Kk=>.seg 68786606087 λJ4=>.use _ (gG w Y.cps Y.tN (↑i:Int) e i c rfl v (by omega)) [] [] λIA IW=>.seg 755931066379 λJ5=>.use _ (f6 w E none k c IA p X Iz (by omega)) [10] [] λIS Kl=>.seg 0x2001002002002005005 λJ6=>.use _ (bH iv w Y.y Y.yn e (↑i:Int) i Y.ys x rfl S (by omega)) [1] [] λKI Km=>.seg 1 λJi=>.use _ (g9 w (x.1) 12 (x.2) (Ji 0) W (by trivial) (by trivial) IZ) [] [] λx26 Kn=>.seg 1 λJj=>.use _ (eO w W 3 x26 (Jj 0) m2 (by trivial) I6) [] [] λx28 Ko=>.seg 1 λJk=>.use _ (b8 w m2 1 x28 (Jk 0) l1 I4) [] [] λIB Kp=>.seg 68803387401 λJ7=>.use _ (gG w Y.cps Y.tN (↑i:Int) e i c rfl v (by omega)) [] [] λIC Kq=>.seg 824650547212 λJ8=>.use _ (f6 w la none m c IC r l1 IB (by omega)) [11] [] λIT Kr=>.seg 281887394258950 λJl=>.use _ (bx w (↑i:Int) 1 e (Jl 0) jm I3) [] [] λJQ Ks=>.seg 1 λJ9=>.use _ (gp w (↑i:Int) jm e JQ p1 (by omega) I7) [] [] λJR Kt=>.seg 1 λJm=>.use _ (g9 w p1 2 JR (Jm 0) q1 (by trivial) (by trivial) I9) [] [] λJS Ku=>.seg 1 λKa=>.use _ (b8 w I q1 Y.tn JS (↑a:Int) ha) [] [] λJT Kv=>.seg 68820164614 λJo=>.use _ (b8 w (↑i:Int) 1 e (Jo 0) G II) [] [] λJU Kw=>.seg 1 λKb=>.use _ (gp w (↑i:Int) G e JU p2 (by omega) I8) [] [] λJV Kx=>.seg 1 λJp=>.use _ (g9 w p2 2 JV (Jp 0) q2 (by trivial) (by trivial) Ja) [] [] λJW Ky=>.seg 1 λKc=>.use _ (b8 w I q2 Y.tn JW (↑b:Int) hb) [] [] λJX Kz=>.seg 844493699952643 λJq=>.use _ (BL iv w Y.y Y.yn (Jq 0) Y.ys (↑a:Int) (↑b:Int) JT JX L a b rfl rfl Iv (by omega) Jb) [2,0] [] λID KB=>.seg 0x100100100100100100100100100100100100100100800000000e00e λIE=>.use _ (lL w (IE 2) 0 (↑i:Int) (IE 0) e (IE 1) ((↑i:Int)-0) (by omega) rfl) [0] [] λJY KC=>.seg 2 λO=>.use _ (Iw (O 1) JY (O 0) ID 0 0 0 0 0 0) [3,0,0,9,13,3] [] λf IX=>have IF:(λ(IN:List (Nat×Nat))=>ad IN=dp Y.cps L 0 i) f.1:=(Fx IX);have Jv:kW w.params f.2.2.1:=(Fg IX); .or _ _ (Jv) (λIP=>.view [0] [] _ _ _ _ ((bC (a:=O 1) (congrArg (λgt=>oD gt f.2.2.2) IP))) (.seg 0x100d003011001001 λKd=>.use _ (gG w Y.cps Y.tN (↑i:Int) e i c rfl v (by omega)) [] [] λIU KD=>.seg 1236967432210 λKe=>.use _ (gH w Y.nd none g c IU H (O 0) (by omega)) [17] [] λJZ KE=>.seg 0 λKf=>.view [2] [0] _ _ _ _ ((aX (iZ N ⟨(c,IU),O 0,f.1,f.2.1⟩))) (.use _ (T (kT lo (O3 0)) e (kE lo h) ID IR IS IT JZ x8 IA IC IU x6 Iz IB (O 0) (f.2.1) (f.1) IF) [11,11,6,2,9,9,9,9,2,7,6,5,0] [0] λs Jy=>τ (((s.1.1,s.1.2.1,s.1.2.2.1,s.1.2.2.2.1,s.1.2.2.2.2),(s.2.1.1,s.2.1.2.1,s.2.1.2.2.1,s.2.1.2.2.2),s.2.2.1,s.2.2.2.1,s.2.2.2.2.1,s.2.2.2.2.2)) Jy [] [0,0,0,0,0,0,0,0,0,0,0] [0]))) (λIP=>.or _ _ (IP) (λIQ=>.pick _ _ (IQ) λki IJ=>.pick _ _ (IJ) λvi IK=>.view [0] [] _ _ _ _ ((bC (a:=O 1) (congrArg (λgt=>oD gt f.2.2.2) IK))) (.seg 0x100d003011001001001001 λJr=>.use _ (gG w Y.cps Y.tN (↑i:Int) e i c rfl v (by omega)) [] [] λP Jw=>.seg 1236967432210 λJs=>.use _ (gH w Y.nd none g c P H (O 0) (by omega)) [17] [] λIV Jx=>.seg 0 λJt=>.view [2] [0] _ _ _ _ ((aX (iZ N ⟨(c,P),O 0,f.1,f.2.1⟩))) (.use _ (T (kT lo (O3 0)) e (kE lo h) ID IR IS IT IV x8 IA IC P x6 Iz IB (O 0) (f.2.1) (f.1) IF) [11,11,6,2,9,9,9,9,2,7,6,5,0] [0] λd IG=>τ (((d.1.1,d.1.2.1,d.1.2.2.1,d.1.2.2.2.1,d.1.2.2.2.2),(d.2.1.1,d.2.1.2.1,d.2.1.2.2.1,d.2.1.2.2.2),d.2.2.1,d.2.2.2.1,d.2.2.2.2.1,d.2.2.2.2.2)) IG [] [0,0,0,0,0,0,0,0,0,0,0] [0]))) (λIQ=>.pick _ _ (IQ) λki IJ=>.pick _ _ (IJ) λvi IK=>.pick _ _ (IK) λka JC=>.pick _ _ (JC) λva JI=>.view [0] [] _ _ _ _ ((bC (a:=O 1) (congrArg (λgt=>oD gt f.2.2.2) JI))) (.seg 0x100d003011001001001001001001 λJr=>.use _ (gG w Y.cps Y.tN (↑i:Int) e i c rfl v (by omega)) [] [] λP Jw=>.seg 1236967432210 λJs=>.use _ (gH w Y.nd none g c P H (O 0) (by omega)) [17] [] λIV Jx=>.seg 0 λJt=>.view [2] [0] _ _ _ _ ((aX (iZ N ⟨(c,P),O 0,f.1,f.2.1⟩))) (.use _ (T (kT lo (O3 0)) e (kE lo h) ID IR IS IT IV x8 IA IC P x6 Iz IB (O 0) (f.2.1) (f.1) IF) [11,11,6,2,9,9,9,9,2,7,6,5,0] [0] λd IG=>τ (((d.1.1,d.1.2.1,d.1.2.2.1,d.1.2.2.2.1,d.1.2.2.2.2),(d.2.1.1,d.2.1.2.1,d.2.1.2.2.1,d.2.1.2.2.2),d.2.2.1,d.2.2.2.1,d.2.2.2.2.1,d.2.2.2.2.2)) IG [] [0,0,0,0,0,0,0,0,0,0,0] [0]))))
 obtain⟨v,h2⟩:=aQ hd
 have hj:j<Y.cps.length:=(Fa.mp v).1
 have JE:0<t:=by rw[hl,Fd];omega
 obtain⟨a,b,ha,hb,Iv,Jz,KG⟩:=Cq n j Iy (hn▸hj)
 have JB:j<Y.ys.length:=by omega
 have S:Y.ys[j]? =some Y.ys[j]:=Fh JB
 have JJ:Y.ys.length<=20:=by
  rw[Jc]
  exact F2 (Nat.add_le_add Iy (Nat.div_le_div_right (c:=2) (Nat.mul_le_mul Iy (Nat.sub_le_sub_right Iy 1)))) (by decide)
 have Ix:j<=5:=by omega
 have z1:q.length<=10:=mZ J.kh Ix
 have z2:p.length<=10:=mZ J.ke Ix
 have z3:r.length<=10:=mZ J.kl Ix
 have z4:(aM N).length<=10:=by have:=congrArg Fo J.kn;unfold aU at this;rw[Fq,FQ]at this;unfold aM;rw[Fq];omega
 have JH:((Y.ys.drop a).take (b-a)).length=j:=by rw[FQ,Ha];omega
 have Iw:=λ(cl o io R rn C D u an IL:Nat)=>Bc w Y cl o io R rn ((Y.ys.drop a).take (b-a)) (by omega) (by omega) ((j:Nat):Int) C D u an IL j rfl (Nat.le_of_eq JH.symm) (Nat.le_of_lt hj)
 have nx:∀(A y h R l k m g uh ue ul M vh ve vl a1 n1:Nat) (U:List (Nat×Nat)),ad U=dp Y.cps ((Y.ys.drop a).take (b-a)) 0 j->ab (env w) (sJ w Y o F E la Y.nd ((n:Nat):Int) Q B (((j:Nat):Int)+1) (t-1) 0 0 u h [es w.params [106] A (.int ((j:Nat):Int) y)] (aj R) (aw q c uh ((Y.ys[j].1).fmod 4,vh)) (aw p c ue (((Y.ys[j].1).fdiv 4).fmod 3+1,ve)) (aw r c ul (((Y.ys[j].1).fdiv 12).fmod 3+1,vl)) l k m (aw (aM N) c M a1) g (N++[NL.mk (c,M) a1 U n1])):=λA y h R l k m g uh ue ul M vh ve vl a1 n1 U JG=>by
  obtain⟨J',Ju⟩:=J.next JF v (x:=Y.ys[j].1) (uh:=uh) (ue:=ue) (ul:=ul) (un:=M) (vh:=vh) (ve:=ve) (vl:=vl) (a:=a1) (n:=n1) JG
  rw[Ju]
  exact T A y h R l k m g _ _ _ _ J'
 rcases JD with rfl | ⟨k4,kv,kt,rfl⟩<;>rcases hm with⟨rfl,rfl⟩ | ⟨A,jv,y,R,rfl,rfl⟩<;>exact av (pJ c Y.ys[j] ((Y.ys.drop a).take (b-a)) a b _ _ _ _ _ _ _ _ _ _ _ _ _ JE v S rfl rfl rfl rfl rfl rfl rfl rfl rfl rfl ha rfl rfl rfl hb ⟨Iv,Jc▸Jz⟩ rfl JJ (by omega) Ix z1 z2 z3 z4 Iw nx)
theorem Cp (w:E9) (Y:Lw) (y D A la:Nat) (Q:MI->MI->MI->List NL->Prop) (v:List E6) (C:v=[]\/∃E F kt,v=[es w.params [107] E (.int F kt)]) (n:Nat) (L:n<=5) (x:Y.cps.length=n) (M:Y.cps.Nodup) (O:Y.ys.length=n+n*(n-1)/2) (H:∀a m b N,dH Y.cps n a m b N->Q a m b N):∀(r:List Nat) (j:Nat) (l:Int) (q s t h k i R:Nat) (p:Int) (a m b:MI) (d e f g:Nat) (N:List NL),Y.cps.drop j=r->j<=Y.cps.length->l=(r.length:Nat)->dH Y.cps j a m b N->ab (env w) (sJ w Y y D A la Y.nd ((n:Nat):Int) Q v ((j:Nat):Int) l q s t h [es w.params [106] k (.int p i)] (aj R) a m b d e f (aM N) g N):=by
 intro r
 induction r with
 | nil=>
  intro j l q s t h k i R p a m b d e f g N o B u J
  have I:j=n:=Nat.le_antisymm (x▸B) (x▸List.drop_eq_nil_iff.mp o)
  rcases C with rfl | ⟨E,F,kt,rfl⟩<;>exact ct (λ_ S=>.seg 68736258049 λT=>.use _ (cg w y ((j:Nat):Int) l 1 q s t (by rw[u];simp:¬0<l)) [0] [] λW V=>.seg 4098 λU=>S (((k,p,i,h,R),(a,m,b,N),d,e,f,g)) (H _ _ _ _ (I▸J):Q a m b N) [] [3,4,4,4,4,4,4,4,4,4,4] [0])
 | cons c r P=>
  intro j l q s t h k i R p a m b d e f g N o B u J
  exact ug w Y y D A la Q v C n L x M O c r j l q s t h _ _ (.inr ⟨k,p,i,R,rfl,rfl⟩) a m b d e f g N o u J λk i h R d e f g a m b N G=>P (j+1) (l-1) 0 0 t h k i R ((j:Nat):Int) a m b d e f g N (aQ o).2 (Fa.mp (aQ o).1).1 (by rw[u,Fd];omega) G
theorem Co (w:E9) (Y:Lw) (r q o la:Nat) (Q:MI->MI->MI->List NL->Prop) (k:List E6) (u:k=[]\/∃I M kt,k=[es w.params [107] I (.int M kt)]) (n:Nat) (y:n<=5) (h:Y.cps.length=n) (A:Y.cps.Nodup) (B:Y.ys.length=n+n*(n-1)/2) (F:∀g m j N,dH Y.cps n g m j N->Q g m j N) (O:0<n) (l:Int) (C D t f a e b d:Nat) (G:l=(n:Nat)):ab (env w) (sJ w Y r q o la Y.nd ((n:Nat):Int) Q k 0 l C D t f [] br [] [] [] a e b [] d []):=by
 obtain⟨c,s,p⟩:=FC (l:=Y.cps) (λz=>by rw[z]at h;simp at h;omega)
 have E:dH Y.cps 0 [] [] [] []:=⟨rfl,rfl,rfl,rfl,λ_ z=>(nomatch z),λ_ z=>(nomatch z),λ_ z=>(nomatch z),λi x z=>by simp at z⟩
 have v:l=((c::s).length:Nat):=by rw[G,<-h,p]
 exact ug w Y r q o la Q k u n y h A B c s 0 l C D t f [] br (.inl ⟨rfl,rfl⟩) [] [] [] a e b d [] p v E λL H f R a e b d g m j N J=>Cp w Y r q o la Q k u n y h A B F s 1 (l-1) 0 0 t f L H R 0 g m j a e b d N (aQ (i:=0) p).2 (by omega) (by rw[v,Fd];omega) J
noncomputable def rJ (w:E9) (Y:Lw) (n:Nat) (k:List E6) (f:Nat):af:={d:=55,α:=(Nat×Int×Nat×Nat×Nat)×(MI×MI×MI×List NL)×(Nat×Nat×Nat×Nat)×(Nat×Nat×Nat×Nat),c:=.block (((aI w.params).drop 4).take 5) (aq w.params Y),need:=[(Y.fr,bv ([es w.params [115,99,114,105,112,116] Y.k1 (.ref Y.sa),es w.params [115,105,122,101] Y.k2 (.int ((n:Nat):Int) Y.tn),es w.params [99,101,108,108,115] Y.k3 (.ref Y.y)]++(k++[])) f Y.sl),(Y.y,ae (Y.ys.map iv) Y.yn),(Y.c1,aK (.str ⟨⟨Y.cps⟩⟩ Y.tN)),(Y.c2,br),(Y.c3,br),(Y.c4,br),(Y.c5,br),(Y.c6,br)],new:=λx=>[(Y.fr,bv ([es w.params [115,99,114,105,112,116] Y.k1 (.ref Y.sa),es w.params [115,105,122,101] Y.k2 (.int ((n:Nat):Int) Y.tn),es w.params [99,101,108,108,115] Y.k3 (.ref Y.y)]++(k++[es w.params [106] x.1.1 (.int x.1.2.1 x.1.2.2.1)])) x.1.2.2.2.1 Y.sl),(Y.c1,aK (.str ⟨⟨Y.cps⟩⟩ Y.tN)),(Y.c2,aj x.2.2.2.1),(Y.c3,aj x.2.2.2.2.1),(Y.c4,aj x.2.2.2.2.2.1),(Y.c5,aj x.2.2.2.2.2.2),(Y.c6,aj x.1.2.2.2.2),(x.2.2.2.1,dO w.params (.type "dict") none iv x.2.1.1 x.2.2.1.1),(x.2.2.2.2.1,dO w.params (.type "dict") none iv x.2.1.2.1 x.2.2.1.2.1),(x.2.2.2.2.2.1,dO w.params (.type "dict") none iv x.2.1.2.2.1 x.2.2.1.2.2.1),(x.2.2.2.2.2.2,dO w.params (.type "dict") none .ref (aM x.2.1.2.2.2) x.2.2.1.2.2.2)],post:=λx=>dH Y.cps n x.2.1.1 x.2.1.2.1 x.2.1.2.2.1 x.2.1.2.2.2,needB:=[],putB:=λx=>[bh x.2.1.2.2.2]}
noncomputable def gD (P:E8):Expr:=bI (aA (aY (aA (aI P) 10)) 0)
noncomputable def fV (P:E8) (x:List E6):Prop:=x=[]\/∃k v,x=[es P [111,110,101] k v]
noncomputable def ff (w:E9) (Y:Lw) (d e b a n f t k:Nat) (o:Nat×Nat) (p m:List (Nat×Nat)) (i g:Nat) (j:List E6) (l:Nat) (h:List (Nat×Nat)):af:={d:=20,α:=Nat×List E6×Nat,c:=dE (gD w.params) 1 e b (aq w.params Y) d [(⟨⟨[110,101,101,100,115]⟩⟩,Y.c5),(⟨⟨[110,97,109,101]⟩⟩,Y.c7)],need:=[(e,aW "list_iterator" a i),(d,oD (es w.params [111,116,104,101,114] k (cv o)::j) l),(b,ae (h.map cv) g),(a,ae (p.map cv) n),(Y.c7,aK (.str ⟨⟨[f]⟩⟩ t))],new:=λx=>[(d,oD (es w.params [111,116,104,101,114] k (cv o)::x.2.1) x.2.2),(b,ae (m.map cv) x.1),(a,ae (p.map cv) n),(Y.c7,aK (.str ⟨⟨[f]⟩⟩ t))],post:=λx=>fV w.params x.2.1}
theorem xt (w:E9) (Y:Lw) (j f g a n d t m:Nat) (o:Nat×Nat) (p:List (Nat×Nat)):∀(r:List (Nat×Nat)) (i b l:Nat) (F:List E6) (e:List (Nat×Nat)),p.drop i=r->e.length+r.length<=900->fV w.params F->ab (env w) (ff w Y j f g a n d t m o p (e++FX ((ad r).count d) o) i b F l e):=by
 let S:∀{w:E9} {lo:List E6} {Y:Lw} {j f g a n d t m:Nat} {o:Nat×Nat} {p G:List (Nat×Nat)} {i b:Nat} {l:Nat} {e:List (Nat×Nat)} (x:Nat×Nat) (h:p[i]? =some x) (C:e.length<=1000) (E:x.1=d->∀(k:Nat) (v:Fb) (b l:Nat),ab (env w) (ff w Y j f g a n d t m o p G (i+1) b [es w.params [111,110,101] k v] l (e++[(o.1,o.2)]))) (D:¬x.1=d->∀(k:Nat) (v:Fb) (b l:Nat),ab (env w) (ff w Y j f g a n d t m o p G (i+1) b [es w.params [111,110,101] k v] l e)),PP (env w) (ff w Y j f g a n d t m o p G i b lo l e):= @λw lo Y j f g a n d t m o p G i b l e x h C E D _ u=>
  .seg 68736258049 λJ=>.use _ (cr w f a i n cv p x h) [0,2] [] λM y=>.seg 281818624438275 λO=>.or (x.1=d) (¬(x.1=d)) (FK _) (λA=>.use _ (vH w (x.1) d (x.2) t A) [] [] λT Q=>.seg 67112963 λN=>.use _ (dw w g b e (o.1,o.2) (by omega)) [3] [] λq R=>.seg 0 λU=>.use _ (E A (kT lo (O 0)) (GT (Str.mk (Array.mk [x.1])) x.2) (b+1) (kE lo l)) [1,2,0,0,0] [] λs V=>u (s.1,s.2.1,s.2.2) (show fV w.params (s.1,s.2.1,s.2.2).2.1 from(by trivial)) [] [0,0,0,0] []) (λA=>.use _ (EA w (x.1) d (x.2) t A) [] [] λT Q=>.seg 0 λN=>.use _ (D A (kT lo (O 0)) (GT (Str.mk (Array.mk [x.1])) x.2) b (kE lo l)) [0,1,1,0,0] [] λq R=>u (q.1,q.2.1,q.2.2) (show fV w.params (q.1,q.2.1,q.2.2).2.1 from(by trivial)) [] [0,0,0,0] [])
 intro r
 induction r with
 | nil=>
  intro i b l F e B C H
  rw[show FX ((ad []).count d) o=[]from rfl,FL]
  rcases H with rfl | ⟨k,v,rfl⟩
  .exact ct (λ_ u=>.seg 68736258049 λJ=>.use _ (ch w f a i n cv p (aV B)) [0,2] [] λM y=>.seg 3 λO=>u (b,[],l) (show fV w.params (b,[],l).2.1 from(.inl rfl)) [] [4,4,1,3] [])
  .exact ct (λ_ u=>.seg 68736258049 λJ=>.use _ (ch w f a i n cv p (aV B)) [0,2] [] λM y=>.seg 3 λO=>u (b,[es w.params [111,110,101] k v],l) (show fV w.params (b,[es w.params [111,110,101] k v],l).2.1 from(.inr ⟨k,v,rfl⟩)) [] [4,4,1,3] [])
 | cons x r L=>
  intro i b l F e B C H
  obtain⟨P,y⟩:=aQ B
  rw[Fd]at C
  have ct:(ad (x::r)).count d=(ad r).count d+if x.1=d then 1 else 0:=by
   show(x.1::ad r).count d=_
   rw[List.count_cons]
   simp
  have E:x.1=d->∀(k:Nat) (v:Fb) (b l:Nat),ab (env w) (ff w Y j f g a n d t m o p (e++FX ((ad (x::r)).count d) o) (i+1) b [es w.params [111,110,101] k v] l (e++[(o.1,o.2)])):=λI k v b l=>by
   have:=L (i+1) b l [es w.params [111,110,101] k v] (e++[o]) y (by simp;omega) (.inr ⟨k,v,rfl⟩)
   rw[ct,if_pos I,List.replicate_succ]
   rw[Fp]at this
   exact this
  have D:¬x.1=d->∀(k:Nat) (v:Fb) (b l:Nat),ab (env w) (ff w Y j f g a n d t m o p (e++FX ((ad (x::r)).count d) o) (i+1) b [es w.params [111,110,101] k v] l e):=λI k v b l=>by
   have:=L (i+1) b l [es w.params [111,110,101] k v] e y (by omega) (.inr ⟨k,v,rfl⟩)
   rw[ct,if_neg I,Nat.add_zero]
   exact this
  rcases H with rfl | ⟨k,v,rfl⟩<;>exact av (S x P (by omega) E D)
theorem xr (w:E9) (Y:Lw) (e i d a n f t k:Nat) (o:Nat×Nat) (p:List (Nat×Nat)) (h l:Nat) (g:List E6) (b:List (Nat×Nat)) (m:b.length+p.length<=900) (j:fV w.params g):ab (env w) {ff w Y e i d a n f t k o p (b++FX ((ad p).count f) o) 0 h g l b with c:=bB (gD w.params) 1 i d (aq w.params Y) e [(⟨⟨[110,101,101,100,115]⟩⟩,Y.c5),(⟨⟨[110,97,109,101]⟩⟩,Y.c7)]}:=
 dq gI (o:=aW "list_iterator" a 0) rfl (by simp[ff]) (by kernel_rfl) (by kernel_rfl) rfl (xt w Y e i d a n f t k o p p 0 h l g b rfl m j)
noncomputable def jy (P:E8) (x:List E6):Prop:=x=[]\/(∃k v,x=[es P [111,116,104,101,114] k v])\/∃k v a b,x=[es P [111,116,104,101,114] k v,es P [111,110,101] a b]
noncomputable def jS (w:E9) (Y:Lw) (b d a n t:Nat) (N:List NL) (Q:List (Nat×Nat)->Prop) (i e:Nat) (lo:List E6) (l:Nat) (f:List (Nat×Nat)):af:={d:=30,α:=List (Nat×Nat)×Nat×List E6×Nat,c:=dE (gD w.params) 0 d a (aq w.params Y) b [(⟨⟨[110,101,101,100,115]⟩⟩,Y.c5),(⟨⟨[110,97,109,101]⟩⟩,Y.c7)],need:=[(d,cq Y.cps Y.tN i),(b,oD lo l),(a,ae (f.map cv) e),(Y.c5,aj Y.nd),(Y.nd,dO w.params (.type "dict") none .ref (aM N) Y.en),(Y.c7,aK (.str ⟨⟨[n]⟩⟩ t))],new:=λx=>[(b,oD x.2.2.1 x.2.2.2),(a,ae (x.1.map cv) x.2.1),(Y.c5,aj Y.nd),(Y.nd,dO w.params (.type "dict") none .ref (aM N) Y.en),(Y.c7,aK (.str ⟨⟨[n]⟩⟩ t))],post:=λx=>Q x.1/\jy w.params x.2.2.1,needB:=[bh N],putB:=λ_=>[bh N]}
theorem yi (pre:Nat->List Nat) (p c:Nat) (a:List Nat):bc (c::a) pre p=FX ((pre c).count p) c++bc a pre p:=rfl
theorem xp (w:E9) (Y:Lw) (r m q n F:Nat) (N:List NL) (Q:List (Nat×Nat)->Prop) (gt:(aU N).Nodup) (hk:∀c∈Y.cps,c∈aU N) (h:∀x∈N,x.ps.length<=10):∀(B:List Nat) (i b l:Nat) (lo:List E6) (d:List (Nat×Nat)),Y.cps.drop i=B->d.length+10*B.length<=800->jy w.params lo->(∀o,ad o=ad d++bc B (λc=>ad (au N c)) n->Q o)->ab (env w) (jS w Y r m q n F N Q i b lo l d):=by
 intro B
 induction B with
 | nil=>
  intro i b l lo d E X L H
  have P:Q d:=H d (by simp[bc])
  rcases L with rfl | ⟨k,y,rfl⟩ | ⟨k,y,u,v,rfl⟩
  .exact ct (λ_ j=>.seg 68736258049 λC=>.use _ (cJ w m Y.tN i Y.cps (aV E)) [0] [] λe s=>.seg 2 λO=>j (d,b,[],l) ⟨P,.inl rfl⟩ [] [3,3,3,3,3] [0])
  .exact ct (λ_ j=>.seg 68736258049 λC=>.use _ (cJ w m Y.tN i Y.cps (aV E)) [0] [] λe s=>.seg 2 λO=>j (d,b,[es w.params [111,116,104,101,114] k y],l) ⟨P,.inr (.inl ⟨k,y,rfl⟩)⟩ [] [3,3,3,3,3] [0])
  .exact ct (λ_ j=>.seg 68736258049 λC=>.use _ (cJ w m Y.tN i Y.cps (aV E)) [0] [] λe s=>.seg 2 λO=>j (d,b,[es w.params [111,116,104,101,114] k y,es w.params [111,110,101] u v],l) ⟨P,.inr (.inr ⟨k,y,u,v,rfl⟩)⟩ [] [3,3,3,3,3] [0])
 | cons c B ih=>
  intro i b l lo d E X L H
  obtain⟨G,s⟩:=aQ E
  rw[Fd]at X
  have hc:c∈Y.cps:=FD G
  obtain⟨x,Iw,hx,Iy,J,hp,A⟩:=iY gt (hk c hc)
  have Iv:=h x hx
  have Ix:(ad x.ps).count n<=10:=F2 List.count_le_length (by rw[eV];exact Iv)
  have I:∀(p:List E6),fV w.params p->∀(t k f b l:Nat),ab (env w) {ff w Y r t q x.a x.n n F k (c,f) x.ps (d++FX ((ad x.ps).count n) (c,f)) 0 b p l d with c:=bB (gD w.params) 1 t q (aq w.params Y) r [(⟨⟨[110,101,101,100,115]⟩⟩,Y.c5),(⟨⟨[110,97,109,101]⟩⟩,Y.c7)]}:=λp M t k f b l=>xr w Y r t q x.a x.n n F k (c,f) x.ps b l p d (by omega) M
  have R:∀(k f b l:Nat) (p:List E6),fV w.params p->ab (env w) (jS w Y r m q n F N Q (i+1) b (es w.params [111,116,104,101,114] k (cv (c,f))::p) l (d++FX ((ad x.ps).count n) (c,f))):=λk f b l p M=>by
   refine ih (i+1) b l _ _ s (by rw[FW,HZ];omega) ?_ λo io=>H o ?_
   .rcases M with rfl | ⟨u,v,rfl⟩
    .exact .inr (.inl ⟨k,_,rfl⟩)
    .exact .inr (.inr ⟨k,_,u,v,rfl⟩)
   .rw [io,yi,hp]
    unfold ad
    rw[Ff,List.map_replicate,Fp]
  rcases L with rfl | ⟨k,y,rfl⟩ | ⟨k,y,u,v,rfl⟩
  .exact av (λ_ j=>.view [] [0] _ _ _ _ (bw A) (.seg 137455738881 λC=>.use _ (eH w m Y.tN i Y.cps c G) [1] [] λe s=>.seg 0x6001006006006003005003003 λO=>.use _ (dW w Y.nd (Fz "dict") none Y.en c e (aM N) x.a J) [5] [] λZ T=>.seg 0x1001003001003003 λD=>.use _ ((I [] (.inl rfl)) (D 0) (O 0) e b (l+1)) [0,3,3,2,3] [] λg U=>.seg 0 λS=>.view [2] [0] _ _ _ _ (aX A.symm) (.use _ (R (O 0) e (g.1) (g.2.2) (g.2.1) (by trivial)) [4,0,0,2,1,0] [0] λa h=>have V:Q a.1:=(Fx h);have W:jy w.params a.2.2.1:=(Fg h);j (a.1,a.2.1,a.2.2.1,a.2.2.2) h [] [0,0,0,0,0] [0])))
  .exact av (λ_ j=>.view [] [0] _ _ _ _ (bw A) (.seg 137455738881 λC=>.use _ (eH w m Y.tN i Y.cps c G) [1] [] λe s=>.seg 0x6001006006006003005003003 λO=>.use _ (dW w Y.nd (Fz "dict") none Y.en c e (aM N) x.a J) [5] [] λZ T=>.seg 0x1001003001003003 λD=>.use _ ((I [] (.inl rfl)) (D 0) k e b l) [0,3,3,2,3] [] λg U=>.seg 0 λS=>.view [2] [0] _ _ _ _ (aX A.symm) (.use _ (R k e (g.1) (g.2.2) (g.2.1) (by trivial)) [4,0,0,2,1,0] [0] λa h=>have V:Q a.1:=(Fx h);have W:jy w.params a.2.2.1:=(Fg h);j (a.1,a.2.1,a.2.2.1,a.2.2.2) h [] [0,0,0,0,0] [0])))
  .exact av (λ_ j=>.view [] [0] _ _ _ _ (bw A) (.seg 137455738881 λC=>.use _ (eH w m Y.tN i Y.cps c G) [1] [] λe s=>.seg 0x6001006006006003005003003 λO=>.use _ (dW w Y.nd (Fz "dict") none Y.en c e (aM N) x.a J) [5] [] λZ T=>.seg 0x1001003001003003 λD=>.use _ ((I _ (.inr ⟨u,v,rfl⟩):∀(t k f b l:Nat),ab (env w) {ff w Y r t q x.a x.n n F k (c,f) x.ps (d++FX ((ad x.ps).count n) (c,f)) 0 b [es w.params [111,110,101] u v] l d with c:=bB (gD w.params) 1 t q (aq w.params Y) r [(⟨⟨[110,101,101,100,115]⟩⟩,Y.c5),(⟨⟨[110,97,109,101]⟩⟩,Y.c7)]}) (D 0) k e b l) [0,3,3,2,3] [] λg U=>.seg 0 λS=>.view [2] [0] _ _ _ _ (aX A.symm) (.use _ (R k e (g.1) (g.2.2) (g.2.1) (by trivial)) [4,0,0,2,1,0] [0] λa h=>have V:Q a.1:=(Fx h);have W:jy w.params a.2.2.1:=(Fg h);j (a.1,a.2.1,a.2.2.1,a.2.2.2) h [] [0,0,0,0,0] [0])))
theorem ls (w:E9) (Y:Lw) (b i a n t:Nat) (N:List NL) (f:(aU N).Nodup) (hk:∀c∈Y.cps,c∈aU N) (e:∀x∈N,x.ps.length<=10) (g:Y.cps.length<=10) (d l:Nat):ab (env w) {jS w Y b i a n t N (λo=>ad o=bc Y.cps (λc=>ad (au N c)) n) 0 d [] l []with c:=bB (gD w.params) 0 i a (aq w.params Y) b [(⟨⟨[110,101,101,100,115]⟩⟩,Y.c5),(⟨⟨[110,97,109,101]⟩⟩,Y.c7)]}:=
 dq nl (o:=cq Y.cps Y.tN 0) rfl (by simp[jS]) (by kernel_rfl) (by kernel_rfl) rfl (xp w Y b i a n t N _ f hk e Y.cps 0 d l [] [] rfl (by simp;omega) (.inl rfl) λo h=>by simpa[ad]using h)
noncomputable def fc (w:E9) (Y:Lw) (a j:Nat) (b:Int) (N:List NL) (Q:List NL->Prop) (k:List E6) (i:Nat) (o:Obj) (m:List (Nat×Nat×Nat)) (e:Nat) (d:List NL):af:={d:=45,α:=List NL×Nat×Nat×Nat,c:=bR (aA (aI w.params) 10) (.ref a) (aq w.params Y),need:=[(a,cq Y.cps Y.tN i),(Y.fr,bv ([es w.params [115,99,114,105,112,116] Y.k1 (.ref Y.sa),es w.params [115,105,122,101] Y.k2 (.int Y.nn Y.tn),es w.params [99,101,108,108,115] Y.k3 (.ref Y.y)]++(k++[es w.params [106] Y.k5 (.int b j),es w.params [116,117,114,110,101,100] Y.k6 (.ref Y.T)])) Y.fe Y.sl),(Y.c1,aK (.str ⟨⟨Y.cps⟩⟩ Y.tN)),(Y.c5,aj Y.nd),(Y.c7,o),(Y.nd,dO w.params (.type "dict") none .ref (aM N) Y.en),(Y.T,dO w.params (.type "dict") none .ref m e)],new:=λx=>[(Y.fr,bv ([es w.params [115,99,114,105,112,116] Y.k1 (.ref Y.sa),es w.params [115,105,122,101] Y.k2 (.int Y.nn Y.tn),es w.params [99,101,108,108,115] Y.k3 (.ref Y.y)]++(k++[es w.params [106] Y.k5 (.int b j),es w.params [116,117,114,110,101,100] Y.k6 (.ref Y.T)])) Y.fe Y.sl),(Y.c1,aK (.str ⟨⟨Y.cps⟩⟩ Y.tN)),(Y.c5,aj Y.nd),(Y.c7,aK (.str ⟨⟨[x.2.2.1]⟩⟩ x.2.2.2)),(Y.nd,dO w.params (.type "dict") none .ref (aM N) Y.en),(Y.T,dO w.params (.type "dict") none .ref (aM x.1) x.2.1)],post:=λx=>Q x.1,needB:=[bh N,bh d],putB:=λx=>[bh N,bh x.1]}
noncomputable def lO {w:E9} {E:List E6} {L:Obj} {Y:Lw} {f C:Nat} {D:Int} {N:List NL} {Q:List NL->Prop} {i:Nat} {m:List (Nat×Nat×Nat)} {e:Nat} {g:List NL} (c:Nat) (T:Y.cps[i]? =some c) (R:∀c∈Y.cps,c<128) (hz:m.length<=10) (U:∀(A f y tm J Z:Nat),ab (env w) {jS w Y A f y c tm N (λo=>ad o=bc Y.cps (λc=>ad (au N c)) c) 0 J [] Z []with c:=bB (gD w.params) 0 f y (aq w.params Y) A [(⟨⟨[110,101,101,100,115]⟩⟩,Y.c5),(⟨⟨[110,97,109,101]⟩⟩,Y.c7)]}) (r:∀(gt e G a n:Nat) (F:List (Nat×Nat)),ad F=bc Y.cps (λc=>ad (au N c)) c->ab (env w) (fc w Y f C D N Q E (i+1) (aK (.str ⟨⟨[c]⟩⟩ gt)) (aw m c G a) e (g++[NL.mk (c,G) a F n]))):PP (env w) (fc w Y f C D N Q E i L m e g):=λ_ v=>
 .seg 68736258049 λO1=>
 .use _ (eH w f Y.tN i Y.cps c T) [0] [] λb h2=>
 .seg 68769828869 λO3=>
 .use _ (fL w Y.cps Y.tN R) [] [] λx4 h4=>
 .seg 1 λO=>
 .use _ (U (O 1) x4 (O 0) b 0 0) [2,0,0,3,4,3] [0] λx B=>have k:(λ(o:List (Nat×Nat))=>ad o=bc Y.cps (λ(c:Nat)=>ad (au N c)) c) x.1:=(Fx B);have S:jy w.params x.2.2.1:=(Fg B);
 .or _ _ (S)
 (λs=>.view [0] [] _ _ _ _ ((bC (a:=O 1) (congrArg (λl=>oD l x.2.2.2) s)))
 (.seg 0x9001009009005007001001 λO8=>
 .use _ (gH w Y.T none e c b m (O 0) (by omega)) [8] [] λx9 h9=>
 .seg 0 λio=>
 .view [2] [1] _ _ _ _ ((aX (iZ g ⟨(c,b),O 0,x.1,x.2.1⟩)))
 (.use _ (r b x9 b (O 0) (x.2.1) (x.1) k) [5,5,5,2,3,2,0] [1,0] λh P=>
 v (h.1,h.2.1,h.2.2.1,h.2.2.2) P [] [0,0,0,0,0,0] [0,0])))
 (λs=>.or _ _ (s)
 (λt=>.pick _ _ (t) λX p=>
 .pick _ _ (p) λvi q=>
 .view [0] [] _ _ _ _ ((bC (a:=O 1) (congrArg (λl=>oD l x.2.2.2) q)))
 (.seg 0x9001009009005007001001001001 λI=>
 .use _ (gH w Y.T none e c b m (O 0) (by omega)) [8] [] λu M=>
 .seg 0 λH=>
 .view [2] [1] _ _ _ _ ((aX (iZ g ⟨(c,b),O 0,x.1,x.2.1⟩)))
 (.use _ (r b u b (O 0) (x.2.1) (x.1) k) [5,5,5,2,3,2,0] [1,0] λd j=>
 v (d.1,d.2.1,d.2.2.1,d.2.2.2) j [] [0,0,0,0,0,0] [0,0])))
 (λt=>.pick _ _ (t) λX p=>
 .pick _ _ (p) λvi q=>
 .pick _ _ (q) λka V=>
 .pick _ _ (V) λva W=>
 .view [0] [] _ _ _ _ ((bC (a:=O 1) (congrArg (λl=>oD l x.2.2.2) W)))
 (.seg 0x9001009009005007001001001001001001 λI=>
 .use _ (gH w Y.T none e c b m (O 0) (by omega)) [8] [] λu M=>
 .seg 0 λH=>
 .view [2] [1] _ _ _ _ ((aX (iZ g ⟨(c,b),O 0,x.1,x.2.1⟩)))
 (.use _ (r b u b (O 0) (x.2.1) (x.1) k) [5,5,5,2,3,2,0] [1,0] λd j=>
 v (d.1,d.2.1,d.2.2.1,d.2.2.2) j [] [0,0,0,0,0,0] [0,0]))))
structure cY (cps:List Nat) (N:List NL) (i:Nat) (NT:List NL):Prop where
 kt:aU NT=cps.take i
 vt:∀x∈NT,ad x.ps=bc cps (λc=>ad (au N c)) x.c.1
theorem cY.next {b:List Nat} (f:b.Nodup) {N:List NL} {i c:Nat} (h:b[i]? =some c) {d:List NL} (J:cY b N i d) {un a n:Nat} {p:List (Nat×Nat)} (g:ad p=bc b (λc=>ad (au N c)) c):cY b N (i+1) (d++[NL.mk (c,un) a p n])/\aw (aM d) c un a=aM (d++[NL.mk (c,un) a p n]):=by
 have e:=hY f h
 have k:ak (aM d)=b.take i:=by
  rw[<-J.kt];unfold ak aM aU;rw[GU];rfl
 rw[fi (by rw[k];exact e)]
 refine⟨⟨?_, ?_⟩, ?_⟩
 .rw [f5 h,<-J.kt];unfold aU;rw[Ff];rfl
 .intro l j
  rcases GE.mp j with q | q
  .exact J.vt l q
  .rw [Gd.mp q];exact g
 .unfold aM;rw[Ff];rfl
theorem w6 (w:E9) (Y:Lw) (j E:Nat) (F:Int) (N:List NL) (Q:List NL->Prop) (G kt:Nat) (H:Int) (B:Y.cps.Nodup) (T:Y.cps.length<=5) (q:∀c∈Y.cps,c<128) (A:(aU N).Nodup) (hk:∀c∈Y.cps,c∈aU N) (s:∀x∈N,x.ps.length<=10) (v:∀b,cY Y.cps N Y.cps.length b->Q b):∀(r:List Nat) (i f t d:Nat) (b:List NL),Y.cps.drop i=r->i<=Y.cps.length->cY Y.cps N i b->ab (env w) (fc w Y j E F N Q [es w.params [107] G (.int H kt)] i (aK (.str ⟨⟨[f]⟩⟩ t)) (aM b) d b):=by
 intro r
 induction r with
 | nil=>
  intro i f t d b g y J
  have e:i=Y.cps.length:=by have:=congrArg Fo g;rw[Ha]at this;simp at this;omega
  exact ct (λ_ O=>.seg 68736258049 λP=>.use _ (cJ w j Y.tN i Y.cps (aV g)) [0] [] λW k=>.seg 2 λR=>.seg 1 λS=>O (b,d,f,t) (v b (e▸J)) [] [3,3,3,3,3,3] [0,0])
 | cons c r D=>
  intro i f t d b g y J
  obtain⟨h,k⟩:=aQ g
  have U:i<Y.cps.length:=(Fa.mp h).1
  exact av (lO c h q (by have:=congrArg Fo J.kt;unfold aU at this;rw[Fq,FQ]at this;unfold aM;rw[Fq];omega) (λp j m L o I=>ls w Y p j m c L N A (λc h=>hk c h) s (by omega) o I) (λu d M a n V C=>by
   obtain⟨l,e⟩:=J.next B h (un:=M) (a:=a) (n:=n) C
   rw[e]
   exact D (i+1) c u d _ k (by omega) l))
theorem w4 (w:E9) (Y:Lw) (d j:Nat) (k:Int) (N:List NL) (Q:List NL->Prop) (l kt:Nat) (m:Int) (t:Y.cps.Nodup) (E:Y.cps.length<=5) (p:∀c∈Y.cps,c<128) (s:(aU N).Nodup) (hk:∀c∈Y.cps,c∈aU N) (r:∀x∈N,x.ps.length<=10) (I:Y.cps≠[]) (F:∀b,cY Y.cps N Y.cps.length b->Q b) (f:Nat):ab (env w) (fc w Y d j k N Q [es w.params [107] l (.int m kt)] 0 br [] f []):=by
 obtain⟨c,v,G⟩:=FC I
 obtain⟨i,g⟩:∃i:Nat,i=0:=⟨0,rfl⟩
 obtain⟨b,o⟩:∃N:List NL,N=[]:=⟨[],rfl⟩
 have H:Y.cps.drop i=c::v:=by rw[g];exact G
 obtain⟨h,D⟩:=aQ H
 have R:i<Y.cps.length:=(Fa.mp h).1
 have J:cY Y.cps N i b:=by subst g;subst o;exact⟨rfl,λ_ z=>(nomatch z)⟩
 have q:ab (env w) (fc w Y d j k N Q [es w.params [107] l (.int m kt)] i br (aM b) f b):=av (lO c h p (by have:=congrArg Fo J.kt;unfold aU at this;rw[Fq,FQ]at this;unfold aM;rw[Fq];omega) (λC d A O B M=>ls w Y C d A c O N s (λc h=>hk c h) r (by omega) B M) (λu f P a n S L=>by
  obtain⟨y,e⟩:=J.next t h (un:=P) (a:=a) (n:=n) L
  rw[e]
  exact w6 w Y d j k N Q l kt m t E p s hk r F v (i+1) c u f _ D (by omega) y))
 subst g;subst o
 exact q
theorem w5 (w:E9) (Y:Lw) (j E:Nat) (F:Int) (N:List NL) (Q:List NL->Prop) (B:Y.cps.Nodup) (R:Y.cps.length<=5) (q:∀c∈Y.cps,c<128) (A:(aU N).Nodup) (hk:∀c∈Y.cps,c∈aU N) (s:∀x∈N,x.ps.length<=10) (v:∀b,cY Y.cps N Y.cps.length b->Q b):∀(r:List Nat) (i f t d:Nat) (b:List NL),Y.cps.drop i=r->i<=Y.cps.length->cY Y.cps N i b->ab (env w) (fc w Y j E F N Q [] i (aK (.str ⟨⟨[f]⟩⟩ t)) (aM b) d b):=by
 intro r
 induction r with
 | nil=>
  intro i f t d b g y J
  have e:i=Y.cps.length:=by have:=congrArg Fo g;rw[Ha]at this;simp at this;omega
  exact ct (λ_ L=>.seg 68736258049 λO=>.use _ (cJ w j Y.tN i Y.cps (aV g)) [0] [] λU k=>.seg 2 λM=>.seg 1 λP=>L (b,d,f,t) (v b (e▸J)) [] [3,3,3,3,3,3] [0,0])
 | cons c r D=>
  intro i f t d b g y J
  obtain⟨h,k⟩:=aQ g
  have S:i<Y.cps.length:=(Fa.mp h).1
  exact av (lO c h q (by have:=congrArg Fo J.kt;unfold aU at this;rw[Fq,FQ]at this;unfold aM;rw[Fq];omega) (λp j m H o G=>ls w Y p j m c H N A (λc h=>hk c h) s (by omega) o G) (λu d I a n T C=>by
   obtain⟨l,e⟩:=J.next B h (un:=I) (a:=a) (n:=n) C
   rw[e]
   exact D (i+1) c u d _ k (by omega) l))
theorem w3 (w:E9) (Y:Lw) (d j:Nat) (k:Int) (N:List NL) (Q:List NL->Prop) (r:Y.cps.Nodup) (C:Y.cps.length<=5) (m:∀c∈Y.cps,c<128) (p:(aU N).Nodup) (hk:∀c∈Y.cps,c∈aU N) (o:∀x∈N,x.ps.length<=10) (G:Y.cps≠[]) (D:∀b,cY Y.cps N Y.cps.length b->Q b) (f:Nat):ab (env w) (fc w Y d j k N Q [] 0 br [] f []):=by
 obtain⟨c,s,E⟩:=FC G
 obtain⟨i,g⟩:∃i:Nat,i=0:=⟨0,rfl⟩
 obtain⟨b,l⟩:∃N:List NL,N=[]:=⟨[],rfl⟩
 have F:Y.cps.drop i=c::s:=by rw[g];exact E
 obtain⟨h,B⟩:=aQ F
 have O:i<Y.cps.length:=(Fa.mp h).1
 have J:cY Y.cps N i b:=by subst g;subst l;exact⟨rfl,λ_ z=>(nomatch z)⟩
 have q:ab (env w) (fc w Y d j k N Q [] i br (aM b) f b):=av (lO c h m (by have:=congrArg Fo J.kt;unfold aU at this;rw[Fq,FQ]at this;unfold aM;rw[Fq];omega) (λA d v L y I=>ls w Y A d v c L N p (λc h=>hk c h) o (by omega) y I) (λu f M a n P H=>by
  obtain⟨t,e⟩:=J.next r h (un:=M) (a:=a) (n:=n) H
  rw[e]
  exact w5 w Y d j k N Q r C m p hk o D s (i+1) c u f _ B (by omega) t))
 subst g;subst l
 exact q
noncomputable def yv (w:E9) (Y:Lw) (j:Nat) (a:Int) (k:List E6):af:={d:=55,α:=List NL×Nat×(Nat×Nat)×Nat×Nat×Nat,c:=.block (((aI w.params).drop 9).take 2) (aq w.params Y),need:=[(Y.fr,bv ([es w.params [115,99,114,105,112,116] Y.k1 (.ref Y.sa),es w.params [115,105,122,101] Y.k2 (.int Y.nn Y.tn),es w.params [99,101,108,108,115] Y.k3 (.ref Y.y)]++(k++[es w.params [106] Y.k5 (.int a j)])) Y.fe Y.sl),(Y.c1,aK (.str ⟨⟨Y.cps⟩⟩ Y.tN)),(Y.c5,aj Y.nd),(Y.c7,br),(Y.nd,dO w.params (.type "dict") none .ref (aM Y.N) Y.en)],new:=λx=>[(Y.fr,bv ([es w.params [115,99,114,105,112,116] Y.k1 (.ref Y.sa),es w.params [115,105,122,101] Y.k2 (.int Y.nn Y.tn),es w.params [99,101,108,108,115] Y.k3 (.ref Y.y)]++(k++[es w.params [106] Y.k5 (.int a j),es w.params [116,117,114,110,101,100] x.2.2.2.2.1 (.ref x.2.2.2.2.2)])) x.2.2.2.1 Y.sl),(Y.c1,aK (.str ⟨⟨Y.cps⟩⟩ Y.tN)),(Y.c5,aj Y.nd),(Y.c7,aK (.str ⟨⟨[x.2.2.1.1]⟩⟩ x.2.2.1.2)),(Y.nd,dO w.params (.type "dict") none .ref (aM Y.N) Y.en),(x.2.2.2.2.2,dO w.params (.type "dict") none .ref (aM x.1) x.2.1)],post:=λx=>cY Y.cps Y.N Y.cps.length x.1,needB:=[bh Y.N],putB:=λx=>[bh Y.N,bh x.1]}
noncomputable def sp (l n c t:Nat) (x:List (Nat×Nat)) (i:Nat) (b:Bool):af:={d:=10,α:=Unit,c:=.builtin "list.__contains__.loop" ⟨[.ref l,.str ⟨⟨[c]⟩⟩ t,FV ((i:Nat):Int)],[]⟩,need:=[(l,ae (x.map cv) n)],r:=λ_=>.ok (.ret (.bool b)),put:=λ_=>[ae (x.map cv) n]}
theorem Da (w:E9) (l n c t:Nat) (d:List (Nat×Nat)):∀(r:List (Nat×Nat)) (i:Nat) (b:Bool),d.drop i=r->decide (c∈ad r)=b->ab (env w) (sp l n c t d i b):=by
 intro r
 induction r with
 | nil=>
  intro i b u f a o g B v p s F P h
  have k:s.heap.get? l=some (ae (d.map cv) n):=P.has (l,_) E2
  rw[F3]
  show wp _ _ (FM table a.code) _ _ p s
  rw[show a.code=.builtin "list.__contains__.loop" ⟨[.ref l,.str ⟨⟨[c]⟩⟩ t,FV ((i:Nat):Int)],[]⟩from o,aE _ _ MeetsSeq.entry_contains_loop]
  show wp _ _ (Fy (.ref l)>>=_) _ _ p s
  unfold Fy
  refine aL (E3 (E3 (FN k rfl (E5 ?_))))
  have e:(d.map cv).toArray[((i:Nat):Int).toNat]? =none:=by
   rw[F4,Fv,Fl,aV u];rfl
  simp only[Option.getD_some,e]
  refine E5 λp=>?_
  have m:b=false:=by rw[<-f];simp[ad]
  subst m
  exact h () s trivial (ap.start P)
 | cons x r G=>
  intro i b u f a o g B v p s F P h
  have g:a.handled=none:=g.resolve_left (λz=>nomatch z)
  have k:s.heap.get? l=some (ae (d.map cv) n):=P.has (l,_) E2
  obtain⟨y,A⟩:=aQ u
  rw[F3]
  show wp _ _ (FM table a.code) _ _ p s
  rw[show a.code=.builtin "list.__contains__.loop" ⟨[.ref l,.str ⟨⟨[c]⟩⟩ t,FV ((i:Nat):Int)],[]⟩from o,aE _ _ MeetsSeq.entry_contains_loop]
  show wp _ _ (Fy (.ref l)>>=_) _ _ p s
  unfold Fy
  refine aL (E3 (E3 (FN k rfl (E5 ?_))))
  have e:(d.map cv).toArray[((i:Nat):Int).toNat]? =some (cv x):=by
   rw[F4,Fv,Fl,y];rfl
  simp only[Option.getD_some,e]
  refine E3 (wpAny_eqBool_str ?_)
  by_cases q:x.1=c
  .have j:decide ((⟨⟨[x.1]⟩⟩:Str)=⟨⟨[c]⟩⟩)=true:=by rw[q];simp
   rw[j,if_pos rfl]
   refine E5 λp=>?_
   have m:b=true:=by rw[<-f];simp[ad,q]
   subst m
   exact h () s trivial (ap.start P)
  .have j:decide ((⟨⟨[x.1]⟩⟩:Str)=⟨⟨[c]⟩⟩)=false:=by
    rw[decide_eq_false_iff_not]
    intro z
    injection z with z
    injection z with z
    injection z with z
    exact q z
   rw[j,if_neg Fi]
   refine E5 λp=>?_
   have H:¬c=x.1:=λz=>q z.symm
   have C:decide (c∈ad r)=b:=by
    rw[<-f]
    show _=decide (c∈x.1::ad r)
    simp[H]
   have E:=G (i+1) b A C (a.goto (.builtin "list.__contains__.loop" ⟨[.ref l,.str ⟨⟨[c]⟩⟩ t,FV (((i+1:Nat)):Int)],[]⟩)) rfl (.inr g) (λes D=>nomatch D) ⟨v.cnt,v.units⟩ p s F P h
   exact⟨plainId_quiet MeetsSeq.plain_contains_loop _,E⟩
theorem uH (w:E9) (l n c t:Nat) (x:List (Nat×Nat)) (b:Bool) (h:decide (c∈ad x)=b):ab (env w) (sp l n c t x 0 b):=Da w l n c t x x 0 b rfl h
section
variable {γ:Type}
noncomputable def yR (g:γ->Fb) (l n b m:Nat) (a y:List γ):af:={d:=1,α:=Nat,c:=.builtin "list.__add__" ⟨[.ref l,.ref b],[]⟩,need:=[(l,ae (a.map g) n),(b,ae (y.map g) m)],r:=λx=>.ok (.ret (.ref x)),put:=λ_=>[ae (a.map g) n,ae (y.map g) m],new:=λx=>[(x,ae ((a++y).map g) 0)]}
theorem t7 (g:γ->Fb) (w:E9) (l n b m:Nat) (x y:List γ) (j:x.length+y.length<=100000):ab (env w) (yR g l n b m x y):=by
 refine aN λA s G f i P d=>?_
 have e:s.heap.get? l=some (ae (x.map g) n):=P.has (l,_) E2
 have h:s.heap.get? b=some (ae (y.map g) m):=P.has (b,_) (E4 _ E2)
 show Fr _ _ (FM table (.builtin "list.__add__" ⟨[.ref l,.ref b],[]⟩)) _ _ s
 rw[aE _ _ F.entry_list_add]
 show Fr _ _ (isInstance (.ref b) (.type "list")>>=_) _ _ s
 refine E3 (wpAny_isInstance (T:="list") (b:=true) ⟨_,h,rfl⟩ sub_list_list ?_)
 simp only[Bool.not_true,Ge,if_false]
 unfold Fy
 refine E3 (E3 (FN e rfl (E5 ?_)))
 refine E3 (E3 (FN h rfl (E5 ?_)))
 refine E3 (Gg (E5 ?_) (by show((x.map g).toArray++(y.map g).toArray).size<=2^24;simp;omega))
 have o:({cls:=.type "list",data:=.seq ((x.map g).toArray++(y.map g).toArray)}:Obj)=ae ((x++y).map g) 0:=by
  rw[Ff];simp[ae]
 have q:=(ap.start P).push (ae ((x++y).map g) 0) rfl
 have a:=d s.heap.objs.size {s with heap:=s.heap.push (ae ((x++y).map g) 0)} trivial (q.perm (FG (l₁:=[_]) (l₂:=[_,_])))
 rw[<-o]at a
 exact a
end
noncomputable def nh (lo h st:Fb):Obj:={cls:=.type "slice",data:=.fields #[lo,h,st]}
noncomputable def nu (l:List Nat) (t s:Nat) (lo h st:Fb) (m:List Nat):af:={d:=1,α:=Nat,c:=.builtin "str.__getitem__" ⟨[.str ⟨⟨l⟩⟩ t,.ref s],[]⟩,need:=[(s,nh lo h st)],r:=λv=>.ok (.ret (.str ⟨⟨m⟩⟩ v)),put:=λ_=>[nh lo h st]}
theorem qX (w:E9) (l:List Nat) (t b:Nat) (lo a st:Option (Int×Tok)) (m:List Nat) (g:((st.map (·.1)).getD 1==0)=false) (k:(Ib ⟨⟨l⟩⟩ lo a st).filterMap (l[·]?)=m)
 (o:((st.map (·.1)).getD 1==1&&(Ib ⟨⟨l⟩⟩ lo a st).length==l.length)=true->l=m) (j:m.length<=1000):ab (env w) (nu l t b (partValue lo) (partValue a) (partValue st) m):=by
 refine aN λA s G p r P d=>?_
 have f:s.heap.get? b=some (nh (partValue lo) (partValue a) (partValue st)):=P.has (b,_) E2
 have n:s.heap.IsSlice b lo a st:=⟨_,f,rfl,rfl⟩
 have i:s.TypeIs (.ref b) "slice":=⟨_,f,rfl⟩
 show Fr _ _ (FM table (.builtin "str.__getitem__" ⟨[.str ⟨⟨l⟩⟩ t,.ref b],[]⟩)) _ _ s
 rw[aE _ _ F.entry_str_getitem]
 show Fr _ _ (typeOf (.ref b)>>=_) _ _ s
 refine E3 (wpAny_typeOf i ?_)
 show Fr _ _ (Builtin.Str.strSliceParts (.ref b)>>=_) _ _ s
 refine E3 (wpAny_strSliceParts n g ?_)
 show Fr _ _ (if((st.map (·.1)).getD 1==1&&(Ib ⟨⟨l⟩⟩ lo a st).length==(⟨l⟩:Array Nat).size)=true then(do rule "str.__getitem__.whole";ret (.str ⟨⟨l⟩⟩ t))else retStr ⟨((Ib ⟨⟨l⟩⟩ lo a st).filterMap ((⟨l⟩:Array Nat)[·]?)).toArray⟩) _ _ s
 by_cases q:((st.map (·.1)).getD 1==1&&(Ib ⟨⟨l⟩⟩ lo a st).length==(⟨l⟩:Array Nat).size)=true
 .rw [if_pos q]
  refine E3 (GZ (E5 ?_))
  have e:=o q
  have h:=d t s trivial (ap.start P)
  show G (.ok (.ret (.str ⟨⟨l⟩⟩ t))) s
  rw[e]
  exact h
 .rw [if_neg q]
  have e:((Ib ⟨⟨l⟩⟩ lo a st).filterMap ((⟨l⟩:Array Nat)[·]?)).toArray=⟨m⟩:=by
   rw[<-k];simp
  rw[e]
  exact pN j (d s.toks _ trivial ((ap.start P).toks _))
theorem qW (w:E9) (l:List Nat) (t s u:Nat) (m:List Nat) (d:l.getLast?.toList=m) (f:l.length<=900):ab (env w) (nu l t s (.int (-1) u) .none .none m):=by
 subst d
 have e:Ib ⟨⟨l⟩⟩ (some (-1,u)) none none=if l=[]then[]else[l.length-1]:=by
  unfold Ib Builtin.Str.strSliceIndices
  show sliceRange (max 0 (min (-1+(l.length:Int)) (l.length:Int))) (l.length:Int) 1=_
  by_cases h:l=[]
  .subst h;rfl
  .rw [if_neg h]
   have hp:=He.mpr h
   have a:max 0 (min (-1+(l.length:Int)) (l.length:Int))=((l.length-1:Nat):Int):=by omega
   rw[a]
   unfold sliceRange
   simp only[show(1:Int)>0 by decide,if_true]
   rw[if_pos (by omega)]
   have b:(((l.length:Int)-((l.length-1:Nat):Int)+1-1)/1).toNat=1:=by rw[Int.ediv_one];omega
   rw[b]
   simp
 refine qX w l t s (some (-1,u)) none none _ rfl ?_ ?_ ?_
 .rw [e]
  by_cases h:l=[]
  .subst h;rfl
  .rw [if_neg h,List.getLast?_eq_getElem?]
   have hp:=He.mpr h
   have:l[l.length-1]? =some l[l.length-1]:=Fh (by omega)
   simp[this]
 .rw [e]
  intro q
  by_cases h:l=[]
  .subst h;rfl
  .rw [if_neg h]at q
   have q:(1==l.length)=true:=q
   have q:1=l.length:=by simpa using q
   match l,q with
   | [x],_=>rfl
 .cases l.getLast? <;>simp
theorem qY (w:E9) (l:List Nat) (t s u:Nat) (m:List Nat) (g:l.reverse=m) (f:l.length=3\/l.length=4\/l.length=5):ab (env w) (nu l t s .none .none (.int (-1) u) m):=by
 subst g
 refine qX w l t s none none (some (-1,u)) _ rfl ?_ (λq=>nomatch q) (by rw[Ie];omega)
 rcases f with h | h | h
 .match l,h with
  | [a,b,c],_=>kernel_rfl
 .match l,h with
  | [a,b,c,d],_=>kernel_rfl
 .match l,h with
  | [a,b,c,d,e],_=>kernel_rfl
noncomputable def yK (l n b m:Nat) (x y:List (Int×Nat)) (i:Nat):af:={d:=10,α:=Unit,c:=.builtin "list.__eq__.loop" ⟨[.ref l,.ref b,FV ((i:Nat):Int),FV 3],[]⟩,need:=[(l,ae (x.map iv) n),(b,ae (y.map iv) m)],r:=λ_=>.ok (.ret (.bool false)),put:=λ_=>[ae (x.map iv) n,ae (y.map iv) m]}
theorem Bi (w:E9) (l n b m:Nat) (a d:List (Int×Nat)) (B:a.map (λx=>x.1)=d.map (λx=>x.1)):∀(r:List (Int×Nat)) (i:Nat),a.drop i=r->ab (env w) (yK l n b m a d i):=by
 have J:a.length=d.length:=by simpa using congrArg Fo B
 intro r
 induction r with
 | nil=>
  intro i t f o j H u p s F P k
  have g:s.heap.get? l=some (ae (a.map iv) n):=P.has (l,_) E2
  have h:s.heap.get? b=some (ae (d.map iv) m):=P.has (b,_) (E4 _ E2)
  rw[F3]
  show wp _ _ (FM table f.code) _ _ p s
  rw[show f.code=.builtin "list.__eq__.loop" ⟨[.ref l,.ref b,FV ((i:Nat):Int),FV 3],[]⟩from o,aE _ _ MeetsSeq3.entry_eq_loop]
  show wp _ _ (Fy (.ref l)>>=_) _ _ p s
  unfold Fy
  refine aL (E3 (E3 (FN g rfl (E5 ?_))))
  refine E3 (E3 (FN h rfl (E5 ?_)))
  have e:(a.map iv).toArray[((i:Nat):Int).toNat]? =none:=by
   rw[F4,Fv,Fl,aV t];rfl
  simp only[e]
  refine E3 (E3 (FN g rfl (E5 ?_)))
  refine E3 (E3 (FN h rfl (E5 ?_)))
  refine E5 λp=>?_
  have q:=k () s trivial (ap.start P)
  have E:((a.map iv).toArray.size !=(d.map iv).toArray.size)=false:=by simp[J]
  show F (.ok (.ret (.bool ((a.map iv).toArray.size !=(d.map iv).toArray.size)))) s
  rw[E]
  exact q
 | cons x r O=>
  intro i t f o j H u p s F P k
  have j:f.handled=none:=j.resolve_left (λz=>nomatch z)
  have g:s.heap.get? l=some (ae (a.map iv) n):=P.has (l,_) E2
  have h:s.heap.get? b=some (ae (d.map iv) m):=P.has (b,_) (E4 _ E2)
  obtain⟨v,G⟩:=aQ t
  have A:(d.map (λx=>x.1))[i]? =some x.1:=by rw[<-B,Fl,v];rfl
  rw[Fl]at A
  obtain⟨y,M,N⟩:=H5.mp A
  rw[F3]
  show wp _ _ (FM table f.code) _ _ p s
  rw[show f.code=.builtin "list.__eq__.loop" ⟨[.ref l,.ref b,FV ((i:Nat):Int),FV 3],[]⟩from o,aE _ _ MeetsSeq3.entry_eq_loop]
  show wp _ _ (Fy (.ref l)>>=_) _ _ p s
  unfold Fy
  refine aL (E3 (E3 (FN g rfl (E5 ?_))))
  refine E3 (E3 (FN h rfl (E5 ?_)))
  have e:(a.map iv).toArray[((i:Nat):Int).toNat]? =some (iv x):=by
   rw[F4,Fv,Fl,v];rfl
  have C:(d.map iv).toArray[((i:Nat):Int).toNat]? =some (iv y):=by
   rw[F4,Fv,Fl,M];rfl
  simp only[e,C]
  refine E3 (wpAny_eqBool_int ?_)
  have D:(x.1==y.1)=true:=by rw[N];simp
  rw[D,if_pos rfl]
  refine E5 λp=>?_
  have L:=O (i+1) G (f.goto (.builtin "list.__eq__.loop" ⟨[.ref l,.ref b,FV (((i+1:Nat)):Int),FV 3],[]⟩)) rfl (.inr j) (λes I=>nomatch I) ⟨u.cnt,u.units⟩ p s F P k
  exact⟨plainId_quiet MeetsSeq3.plain_eq_loop _,L⟩
noncomputable def yL (l n b m:Nat) (x y:List (Int×Nat)):af:={d:=10,α:=Unit,c:=.builtin "list.__ne__" ⟨[.ref l,.ref b],[]⟩,need:=[(l,ae (x.map iv) n),(b,ae (y.map iv) m)],r:=λ_=>.ok (.ret (.bool false)),put:=λ_=>[ae (x.map iv) n,ae (y.map iv) m]}
theorem BM (w:E9) (l n b m:Nat) (a y:List (Int×Nat)) (g:a.map (λx=>x.1)=y.map (λx=>x.1)):ab (env w) (yL l n b m a y):=by
 intro d q h v f p s i P k
 have h:d.handled=none:=h.resolve_left (λz=>nomatch z)
 have t:a.length=y.length:=by simpa using congrArg Fo g
 have o:s.heap.get? l=some (ae (a.map iv) n):=P.has (l,_) E2
 have e:s.heap.get? b=some (ae (y.map iv) m):=P.has (b,_) (E4 _ E2)
 rw[F3]
 show wp _ _ (FM table d.code) _ _ p s
 rw[show d.code=.builtin "list.__ne__" ⟨[.ref l,.ref b],[]⟩from q,aE _ _ F.entry_list_ne]
 show wp _ _ (isInstance (.ref b) (.type "list")>>=_) _ _ p s
 refine aL (E3 (wpAny_isInstance (T:="list") (b:=true) ⟨_,e,rfl⟩ sub_list_list ?_))
 simp only[Bool.not_true,Ge,if_false]
 rw[if_pos (show(CmpOp.NotEq==CmpOp.Eq || CmpOp.NotEq==CmpOp.NotEq)=true from rfl)]
 unfold Fy
 refine E3 (E3 (FN o rfl (E5 ?_)))
 refine E3 (E3 (FN e rfl (E5 ?_)))
 have j:((a.map iv).toArray.size !=(y.map iv).toArray.size)=false:=by simp[t]
 rw[j,if_neg Fi]
 refine E5 λp=>?_
 have u:=Bi w l n b m a y g a 0 rfl (d.goto (.builtin "list.__eq__.loop" ⟨[.ref l,.ref b,FV (((0:Nat)):Int),FV 3],[]⟩)) rfl (.inr h) (λes r=>nomatch r) ⟨f.cnt,f.units⟩ p s i P k
 exact⟨plainId_quiet MeetsSeq3.plain_eq_loop _,u⟩
noncomputable def bf (x:List Nat×Nat):Fb:=.str ⟨⟨x.1⟩⟩ x.2
noncomputable def sQ (e:Expr):Expr:=(eP e).2.1
noncomputable def mK (P:E8):Expr:=sQ (bI (aA (aY (aA (aI P) 12)) 0))
noncomputable def eW (P:E8) (x:List E6):Prop:=x=[]\/∃k v,x=[es P [119,97,121] k v]
noncomputable def eu (w:E9) (Y:Lw) (b d a W e n t:Nat) (ws:List (List Nat×Nat)) (Q:List (List Nat×Nat)->Prop) (i f:Nat) (lo:List E6) (l:Nat) (g:List (List Nat×Nat)):af:={d:=30,α:=List (List Nat×Nat)×Nat×List E6×Nat,c:=dE (mK w.params) 0 d a (aq w.params Y) b [(⟨⟨[110,101,101,100,115]⟩⟩,Y.c5),(⟨⟨[110,97,109,101]⟩⟩,Y.c7)],need:=[(d,aW "list_iterator" W i),(b,oD lo l),(a,ae (g.map bf) f),(W,ae (ws.map bf) e),(Y.c5,aj Y.nd),(Y.nd,dO w.params (.type "dict") none .ref (aM Y.N) Y.en),(Y.c7,aK (.str ⟨⟨[n]⟩⟩ t))],new:=λx=>[(b,oD x.2.2.1 x.2.2.2),(a,ae (x.1.map bf) x.2.1),(W,ae (ws.map bf) e),(Y.c5,aj Y.nd),(Y.nd,dO w.params (.type "dict") none .ref (aM Y.N) Y.en),(Y.c7,aK (.str ⟨⟨[n]⟩⟩ t))],post:=λx=>Q x.1/\eW w.params x.2.2.1,needB:=[bh Y.N],putB:=λ_=>[bh Y.N]}
noncomputable def fI (p:List Nat) (x:List Nat):Bool:=match x.getLast? with| none=>true | some d=>decide (d∈p)
noncomputable def dl (p:List Nat) (n:Nat) (W:List (List Nat)):List (List Nat):=(W.filter (fI p)).map (λx=>x++[n])
theorem wg (p:List Nat) (n:Nat) (x:List Nat) (W:List (List Nat)):dl p n (x::W)=if fI p x=true then(x++[n])::dl p n W else dl p n W:=by
 unfold dl
 rw[GK]
 split<;>rfl
theorem wh (w:E9) (Y:Lw) (p g m W j e t:Nat) (ws:List (List Nat×Nat)) (Q:List (List Nat×Nat)->Prop) (Iz:(aU Y.N).Nodup) (hk:e∈aU Y.N) (B:∀x∈ws,x.1.length<=900):∀(J:List (List Nat×Nat)) (i b l:Nat) (lo:List E6) (f:List (List Nat×Nat)),ws.drop i=J->f.length+J.length<=900->eW w.params lo->(∀o,o.map (λx=>x.1)=f.map (λx=>x.1)++dl (ad (au Y.N e)) e (J.map (λx=>x.1))->Q o)->ab (env w) (eu w Y p g m W j e t ws Q i b lo l f):=by
 let IA:∀{w:E9} {lo:List E6} {Y:Lw} {p g m W j e t:Nat} {ws:List (List Nat×Nat)} {Q:List (List Nat×Nat)->Prop} {i b l:Nat} {f:List (List Nat×Nat)} (x:List Nat×Nat) (h:ws[i]? =some x) (G:f.length<=1000) (B:x.1.length<=900) (s:x.1=[]) (A:∀(k:Nat) (v:Fb) (b l u:Nat),ab (env w) (eu w Y p g m W j e t ws Q (i+1) b [es w.params [119,97,121] k v] l (f++[(x.1++[e],u)]))),PP (env w) (eu w Y p g m W j e t ws Q i b lo l f):= @λw lo Y p g m W j e t ws Q i b l f x h G B s A _ E=>
  .seg 68736258049 λX=>.use _ (cr w g W i j bf ws x h) [0,2] [] λx2 I=>.seg 68769820675 λO=>.use _ (xN w (x.1) ([]) (x.2) (O 1) s) [] [] λx4 h4=>.seg 16805891 λZ=>.use _ (q7 w (x.1) e (x.2) t B) [] [] λM h6=>.seg 16385 λO7=>.use _ (t6 bf w m b f (x.1++[e],M) (by omega)) [3] [] λx8 h8=>.seg 0 λO9=>.use _ (A (kT lo (O 0)) (GT (Str.mk (Array.mk x.1)) x.2) (b+1) (kE lo l) M) [1,2,0,0,0,0,0] [0] λH N=>have IG:Q H.1:=(Fx N);have II:eW w.params H.2.2.1:=(Fg N);E (H.1,H.2.1,H.2.2.1,H.2.2.2) N [] [0,0,0,0,0,0] [0]
 let IB:∀{w:E9} {lo:List E6} {Y:Lw} {p g m W j e t:Nat} {ws:List (List Nat×Nat)} {Q:List (List Nat×Nat)->Prop} {i b l:Nat} {f:List (List Nat×Nat)} (x:List Nat×Nat) (h:ws[i]? =some x) (G:f.length<=1000) (B:x.1.length<=900) (d a n:Nat) (C:List (Nat×Nat)) (R:ao) (s:¬x.1=[]) (q:x.1.getLast? =some d) (T:look? (aM Y.N) e=some a) (r:(bh Y.N).Perm ([(a,ae (C.map cv) n)]++R)) (S:decide (d∈ad C)=true) (A:∀(k:Nat) (v:Fb) (b l u:Nat),ab (env w) (eu w Y p g m W j e t ws Q (i+1) b [es w.params [119,97,121] k v] l (f++[(x.1++[e],u)]))),PP (env w) (eu w Y p g m W j e t ws Q i b lo l f):= @λw lo Y p g m W j e t ws Q i b l f x h G B d a n C R s q T r S A _ E=>
  .view [] [0] _ _ _ _ (bw r) (.seg 137455738881 λX=>.use _ (cr w g W i j bf ws x h) [1,3] [] λx2 I=>.seg 68786601988 λO=>.use _ (jM w (x.1) ([]) (x.2) (O 1) s) [] [] λx4 h4=>.seg 68736258052 λZ=>.use _ (qZ w (x.1) (x.2) (Z 1) d q (by omega)) [] [] λM h6=>.seg 0x7001007007007008006 λO7=>.use _ (dW w Y.nd (Fz "dict") none Y.en e t (aM Y.N) a T) [6] [] λx8 h8=>.seg 281749871411204 λO9=>.use _ (uH w a n d M C HN S) [3] [] λH N=>.seg 16809989 λIy=>.use _ (q7 w (x.1) e (x.2) t B) [] [] λD gt=>.seg 24577 λID=>.use _ (t6 bf w m b f (x.1++[e],D) (by omega)) [5] [] λIP IL=>.seg 0 λIE=>.view [1] [0] _ _ _ _ (aX r.symm) (.use _ (A (kT lo (O 0)) (GT (Str.mk (Array.mk x.1)) x.2) (b+1) (kE lo l) D) [2,3,0,1,1,0,0] [0] λL io=>have IM:Q L.1:=(Fx io);have IN:eW w.params L.2.2.1:=(Fg io);E (L.1,L.2.1,L.2.2.1,L.2.2.2) io [] [0,0,0,0,0,0] [0]))
 let IC:∀{w:E9} {lo:List E6} {Y:Lw} {p g m W j e t:Nat} {ws:List (List Nat×Nat)} {Q:List (List Nat×Nat)->Prop} {i b l:Nat} {f:List (List Nat×Nat)} (x:List Nat×Nat) (h:ws[i]? =some x) (G:f.length<=1000) (B:x.1.length<=900) (d a n:Nat) (C:List (Nat×Nat)) (R:ao) (s:¬x.1=[]) (q:x.1.getLast? =some d) (T:look? (aM Y.N) e=some a) (r:(bh Y.N).Perm ([(a,ae (C.map cv) n)]++R)) (S:decide (d∈ad C)=false) (A:∀(k:Nat) (v:Fb) (b l:Nat),ab (env w) (eu w Y p g m W j e t ws Q (i+1) b [es w.params [119,97,121] k v] l f)),PP (env w) (eu w Y p g m W j e t ws Q i b lo l f):= @λw lo Y p g m W j e t ws Q i b l f x h G B d a n C R s q T r S A _ E=>
  .view [] [0] _ _ _ _ (bw r) (.seg 137455738881 λX=>.use _ (cr w g W i j bf ws x h) [1,3] [] λx2 I=>.seg 68786601988 λO=>.use _ (jM w (x.1) ([]) (x.2) (O 1) s) [] [] λx4 h4=>.seg 68736258052 λZ=>.use _ (qZ w (x.1) (x.2) (Z 1) d q (by omega)) [] [] λM h6=>.seg 0x7001007007007008006 λO7=>.use _ (dW w Y.nd (Fz "dict") none Y.en e t (aM Y.N) a T) [6] [] λx8 h8=>.seg 281749871411204 λO9=>.use _ (uH w a n d M C Bool.false S) [3] [] λH N=>.seg 0 λIy=>.view [0] [0] _ _ _ _ (aX r.symm) (.use _ (A (kT lo (O 0)) (GT (Str.mk (Array.mk x.1)) x.2) b (kE lo l)) [1,2,2,1,1,0,0] [0] λD gt=>have IJ:Q D.1:=(Fx gt);have IK:eW w.params D.2.2.1:=(Fg gt);E (D.1,D.2.1,D.2.2.1,D.2.2.2) gt [] [0,0,0,0,0,0] [0]))
 intro J
 induction J with
 | nil=>
  intro i b l lo f q G U P
  have hq:Q f:=P f (by simp[dl])
  rcases U with rfl | ⟨k,v,rfl⟩
  .exact ct (λ_ E=>.seg 68736258049 λX=>.use _ (ch w g W i j bf ws (aV q)) [0,2] [] λx2 I=>.seg 3 λO=>E (f,b,[],l) ⟨hq,.inl rfl⟩ [] [4,4,1,3,3,3] [0])
  .exact ct (λ_ E=>.seg 68736258049 λX=>.use _ (ch w g W i j bf ws (aV q)) [0,2] [] λx2 I=>.seg 3 λO=>E (f,b,[es w.params [119,97,121] k v],l) ⟨hq,.inr ⟨k,v,rfl⟩⟩ [] [4,4,1,3,3,3] [0])
 | cons x J A=>
  intro i b l lo f q G U P
  obtain⟨h1,I⟩:=aQ q
  rw[Fd]at G
  rw[Fw,wg]at P
  have Iv:x.1.length<=900:=B x (FD h1)
  obtain⟨y,R,hy,IF,hl,hp,r⟩:=iY Iz hk
  have Iw:fI (ad (au Y.N e)) x.1=true->∀(k:Nat) (v:Fb) (b l u:Nat),ab (env w) (eu w Y p g m W j e t ws Q (i+1) b [es w.params [119,97,121] k v] l (f++[(x.1++[e],u)])):=λF k v b l u=>A (i+1) b l _ _ I (by simp;omega) (.inr ⟨k,v,rfl⟩) λo r=>P o (by
   rw[r,if_pos F,Ff,Fp];rfl)
  have Ix:¬fI (ad (au Y.N e)) x.1=true->∀(k:Nat) (v:Fb) (b l:Nat),ab (env w) (eu w Y p g m W j e t ws Q (i+1) b [es w.params [119,97,121] k v] l f):=λF k v b l=>A (i+1) b l _ _ I (by omega) (.inr ⟨k,v,rfl⟩) λo r=>P o (by
   rw[r,if_neg F])
  rw[hp]at Iw Ix
  by_cases s:x.1=[]
  .have V:=Iw (by rw[s];rfl)
   rcases U with rfl | ⟨k,v,rfl⟩<;>exact av (IA x h1 (by omega) Iv s V)
  .obtain ⟨d,q⟩:∃d,x.1.getLast? =some d:=⟨_,List.getLast?_eq_some_getLast s⟩
   have ek:fI (ad y.ps) x.1=decide (d∈ad y.ps):=by unfold fI;rw[q]
   cases F:decide (d∈ad y.ps)with
   | true=>
    have V:=Iw (ek.trans F)
    rcases U with rfl | ⟨k,v,rfl⟩<;>exact av (IB x h1 (by omega) Iv d y.a y.n y.ps R s q hl r F V)
   | false=>
    have V:=Ix (by rw[ek,F];exact Fi)
    rcases U with rfl | ⟨k,v,rfl⟩<;>exact av (IC x h1 (by omega) Iv d y.a y.n y.ps R s q hl r F V)
theorem wf (w:E9) (Y:Lw) (b i a W e n t:Nat) (ws:List (List Nat×Nat)) (g:(aU Y.N).Nodup) (hk:n∈aU Y.N) (f:∀x∈ws,x.1.length<=900) (j:ws.length<=900) (d l:Nat):ab (env w) {eu w Y b i a W e n t ws (λo=>o.map (λx=>x.1)=dl (ad (au Y.N n)) n (ws.map (λx=>x.1))) 0 d [] l []with c:=bB (mK w.params) 0 i a (aq w.params Y) b [(⟨⟨[110,101,101,100,115]⟩⟩,Y.c5),(⟨⟨[110,97,109,101]⟩⟩,Y.c7)]}:=
 dq gI (o:=aW "list_iterator" W 0) rfl (by simp[eu]) (by kernel_rfl) (by kernel_rfl) rfl (wh w Y b i a W e n t ws _ g hk f ws 0 d l [] [] rfl (by simp;omega) (.inl rfl) λo h=>by simpa using h)
noncomputable def rv (w:E9) (Y:Lw) (a:Nat) (Q:List (List Nat×Nat)->Prop) (i b t W d:Nat) (ws:List (List Nat×Nat)):af:={d:=45,α:=List (List Nat×Nat)×Nat×Nat×Nat×Nat,c:=bR (aA (aI w.params) 12) (.ref a) (aq w.params Y),need:=[(a,cq Y.cps Y.tN i),(Y.c5,aj Y.nd),(Y.c7,aK (.str ⟨⟨[b]⟩⟩ t)),(Y.c8,aj W),(Y.nd,dO w.params (.type "dict") none .ref (aM Y.N) Y.en),(W,ae (ws.map bf) d)],new:=λx=>[(Y.c5,aj Y.nd),(Y.c7,aK (.str ⟨⟨[x.2.1]⟩⟩ x.2.2.1)),(Y.c8,aj x.2.2.2.1),(Y.nd,dO w.params (.type "dict") none .ref (aM Y.N) Y.en),(x.2.2.2.1,ae (x.1.map bf) x.2.2.2.2)],post:=λx=>Q x.1,needB:=[bh Y.N],putB:=λx=>[bh Y.N]}
noncomputable def fu (N:List NL) (W:List (List Nat)) (c:Nat):List (List Nat):=W++dl (ad (au N c)) c W
theorem p9 (p:List Nat) (n:Nat) (W:List (List Nat)):(dl p n W).length<=W.length:=by
 unfold dl
 rw[Fq];exact List.length_filter_le _ _
theorem wi (w:E9) (Y:Lw) (d:Nat) (Q:List (List Nat×Nat)->Prop) (Iw:(aU Y.N).Nodup) (hk:∀c∈Y.cps,c∈aU Y.N) (IA:∀c∈Y.cps,c<128):∀(r:List Nat) (i k t W f:Nat) (ws:List (List Nat×Nat)),Y.cps.drop i=r->ws.length*2^r.length<=32->(∀x∈ws,x.1.length+r.length<=10)->(∀o,o.map (λx=>x.1)=r.foldl (fu Y.N) (ws.map (λx=>x.1))->Q o)->ab (env w) (rv w Y d Q i k t W f ws):=by
 intro r
 induction r with
 | nil=>
  intro i k t W f ws E F n D
  exact ct (λ_ v=>.seg 68736258049 λV=>.use _ (cJ w d Y.tN i Y.cps (aV E)) [0] [] λs N=>.seg 2 λO=>.seg 1 λO4=>v (ws,k,t,W,f) (D ws rfl) [] [3,3,3,3,3] [0])
 | cons c r ih=>
  intro i k t W f ws E F n D
  obtain⟨M,N⟩:=aQ E
  have hc:c∈Y.cps:=FD M
  have hp:1<=2^r.length:=Nat.one_le_two_pow
  have IC:ws.length*2^r.length*2<=32:=by
   rw[Fd,Nat.pow_succ,<-Nat.mul_assoc]at F;exact F
  have ID:ws.length<=ws.length*2^r.length:=Nat.le_mul_of_pos_right _ hp
  have T:∀o:List (List Nat×Nat),o.map (λx=>x.1)=dl (ad (au Y.N c)) c (ws.map (λx=>x.1))->o.length<=ws.length:=λo h=>by
   have:=congrArg Fo h
   rw[Fq]at this
   rw[this]
   exact F2 (p9 _ _ _) (by rw[Fq];exact FO _)
  exact av (have Iz:∀p:List (List Nat×Nat),p.map (λg=>g.1)=dl (ad (au Y.N c)) c (ws.map (λg=>g.1))->ws.length+p.length<=100000:=(λo h=>by have:=T o h;omega);have io:∀(m d j I y H:Nat),ab (env w) {eu w Y m d j W f c I ws (λp=>p.map (λg=>g.1)=dl (ad (au Y.N c)) c (ws.map (λg=>g.1))) 0 y [] H []with c:=bB (mK w.params) 0 d j (aq w.params Y) m [(⟨⟨[110,101,101,100,115]⟩⟩,Y.c5),(⟨⟨[110,97,109,101]⟩⟩,Y.c7)]}:=(λm d j I y H=>wf w Y m d j W f c I ws Iw (hk c hc) (λx G=>by have:=n x G;omega) (by omega) y H);have S:∀(u W:Nat) (o:List (List Nat×Nat)),o.map (λx=>x.1)=dl (ad (au Y.N c)) c (ws.map (λx=>x.1))->ab (env w) (rv w Y d Q (i+1) c u W 0 (ws++o)):=(λu W o h=>ih (i+1) c u W 0 (ws++o) N (by
   have h4:=T o h
   have h5:(ws.length+o.length)*2^r.length<=(ws.length+ws.length)*2^r.length:=Nat.mul_le_mul_right _ (by omega)
   rw[Nat.add_mul ws.length ws.length]at h5
   rw[FW];omega) (by
   intro x G
   rcases GE.mp G with q | q
   .have:=n x q;rw[Fd]at this;omega
   .have U:x.1∈o.map (λx=>x.1):=Fc q
    rw[h]at U
    obtain⟨IE,hy,e⟩:=Gl.mp U
    obtain⟨z,hz,e2⟩:=Gl.mp (Ic.mp hy).1
    have:=n z hz
    rw[Fd]at this
    rw[<-e,<-e2,FW,Fd,Hh];omega) λo2 Ix=>D o2 (by
   rw[Ix,HY,Ff,h];rfl));λ_ v=>.seg 68736258049 λV=>.use _ (eH w d Y.tN i Y.cps c M) [0] [] λs IB=>.seg 0x1001006001006006004004003003 λO=>.use _ (io (O 2) (O 0) (O 1) s 0 0) [2,0,0,5,1,3,1] [0] λa P=>have B:(λ(o':List (List Nat×Nat))=>Gx (λ(J:List Nat×Nat)=>J.1) o'=dl (ad (au Y.N c)) c (Gx (λ(J:List Nat×Nat)=>J.1) ws)) a.1:=(Fx P);have gt:eW w.params a.2.2.1:=(Fg P);have R:ws.length+a.1.length<=100000:=Iz a.1 B; .or _ _ (gt) (λA=>.view [0] [] _ _ _ _ ((bC (a:=O 2) (congrArg (λl=>oD l a.2.2.2) A))) (.seg 0x3001003002003001 λX=>.use _ (t7 bf w W f (O 1) (a.2.1) ws (a.1) R) [2,1] [] λL h7=>.seg 36873 λZ=>.use _ (S s L (a.1) B) [7,4,5,5,4,2] [0] λb C=>v (b.1,b.2.1,b.2.2.1,b.2.2.2.1,b.2.2.2.2) C [] [0,0,0,0,0] [0])) (λA=>.pick _ _ (A) λki Iv=>.pick _ _ (Iv) λvi Iy=>.view [0] [] _ _ _ _ ((bC (a:=O 2) (congrArg (λl=>oD l a.2.2.2) Iy))) (.seg 0x3001003002003001001001 λX=>.use _ (t7 bf w W f (O 1) (a.2.1) ws (a.1) R) [2,1] [] λL h7=>.seg 36873 λZ=>.use _ (S s L (a.1) B) [7,4,5,5,4,2] [0] λb C=>v (b.1,b.2.1,b.2.2.1,b.2.2.2.1,b.2.2.2.2) C [] [0,0,0,0,0] [0])))
noncomputable def jk (P:E8):Expr:=bI (aA (aI P) 13)
noncomputable def DL (e:Expr):Expr:=(eP e).1
noncomputable def pL (e:Expr):Expr:=(eP e).2.1
noncomputable def oV (P:E8):Expr:=pL (DL (jk P))
noncomputable def dk (P:E8) (x:List E6):Prop:=x=[]\/∃k v,x=[es P [110,97,109,101] k v]
noncomputable def gM (w:E9) (Y:Lw) (g b d a t:Nat) (h:List Nat) (Q:List (Int×Nat)->Prop) (i e:Nat) (lo:List E6) (l:Nat) (f:List (Int×Nat)):af:={d:=20,α:=List (Int×Nat)×Nat×List E6×Nat,c:=dE (oV w.params) 0 d a (eU (jk w.params) (aq w.params Y) g [(⟨⟨[104,111,117,114,115]⟩⟩,Y.c2)]) b [(⟨⟨[104,111,117,114,115]⟩⟩,Y.c2)],need:=[(d,cq h t i),(b,oD lo l),(a,ae (f.map iv) e),(Y.c2,aj Y.H),(Y.H,dO w.params (.type "dict") none iv Y.mh Y.er)],new:=λx=>[(b,oD x.2.2.1 x.2.2.2),(a,ae (x.1.map iv) x.2.1),(Y.c2,aj Y.H),(Y.H,dO w.params (.type "dict") none iv Y.mh Y.er)],post:=λx=>Q x.1/\dk w.params x.2.2.1}
theorem CY (w:E9) (Y:Lw) (j m e g t:Nat) (d:List Nat) (Q:List (Int×Nat)->Prop) (hk:∀c∈d,∃v,look? Y.mh c=some v):∀(r:List Nat) (i a l:Nat) (lo:List E6) (b:List (Int×Nat)),d.drop i=r->b.length+r.length<=900->dk w.params lo->(∀o,o.map (λx=>x.1)=b.map (λx=>x.1)++r.map (aa Y.mh)->Q o)->ab (env w) (gM w Y j m e g t d Q i a lo l b):=by
 let N:∀{w:E9} {lo:List E6} {Y:Lw} {j m e g t:Nat} {d:List Nat} {Q:List (Int×Nat)->Prop} {i a l:Nat} {b:List (Int×Nat)} (c:Nat) (v:Int×Nat) (h:d[i]? =some c) (G:look? Y.mh c=some v) (u:b.length<=1000) (y:∀(k:Nat) (f:Fb) (a l:Nat),ab (env w) (gM w Y j m e g t d Q (i+1) a [es w.params [110,97,109,101] k f] l (b++[v]))),PP (env w) (gM w Y j m e g t d Q i a lo l b):= @λw lo Y j m e g t d Q i a l b c v h G u y _ p=>
  .seg 68736258049 λE=>.use _ (eH w e t i d c h) [0] [] λA q=>.seg 0x5001005005005002004002002 λO=>.use _ (cu w Y.H (Fz "dict") none Y.er c A Y.mh v G) [4] [] λW S=>.seg 16385 λP=>.use _ (jb w g a b v (by omega)) [3] [] λX T=>.seg 0 λR=>.use _ (y (kT lo (O 0)) (GT (Str.mk (Array.mk [c])) A) (a+1) (kE lo l)) [2,2,0,1,0] [] λn B=>have U:Q n.1:=(Fx B);have V:dk w.params n.2.2.1:=(Fg B);p (n.1,n.2.1,n.2.2.1,n.2.2.2) B [] [0,0,0,0] []
 intro r
 induction r with
 | nil=>
  intro i a l lo b s u D C
  have H:Q b:=C b (by simp)
  rcases D with rfl | ⟨k,f,rfl⟩
  .exact ct (λ_ p=>.seg 68736258049 λE=>.use _ (cJ w e t i d (aV s)) [0] [] λA q=>.seg 2 λO=>p (b,a,[],l) ⟨H,.inl rfl⟩ [] [3,3,3,3] [])
  .exact ct (λ_ p=>.seg 68736258049 λE=>.use _ (cJ w e t i d (aV s)) [0] [] λA q=>.seg 2 λO=>p (b,a,[es w.params [110,97,109,101] k f],l) ⟨H,.inr ⟨k,f,rfl⟩⟩ [] [3,3,3,3] [])
 | cons c r y=>
  intro i a l lo b s u D C
  obtain⟨F,q⟩:=aQ s
  rw[Fd]at u
  obtain⟨v,I⟩:=hk c (FD F)
  have J:aa Y.mh c=v.1:=by unfold aa;rw[I];rfl
  have M:∀(k:Nat) (f:Fb) (a l:Nat),ab (env w) (gM w Y j m e g t d Q (i+1) a [es w.params [110,97,109,101] k f] l (b++[v])):=λk f a l=>y (i+1) a l _ _ q (by simp;omega) (.inr ⟨k,f,rfl⟩) λo L=>C o (by
   rw[L,Ff,Fp]
   show _=_++(aa Y.mh c::r.map (aa Y.mh))
   rw[J];rfl)
  rcases D with rfl | ⟨k,f,rfl⟩<;>exact av (N c v F I (by omega) M)
theorem CX (w:E9) (Y:Lw) (d e i b t:Nat) (a:List Nat) (hk:∀c∈a,∃v,look? Y.mh c=some v) (g:a.length<=900) (f l:Nat):ab (env w) {gM w Y d e i b t a (λo=>o.map (λx=>x.1)=a.map (aa Y.mh)) 0 f [] l []with c:=bB (oV w.params) 0 i b (eU (jk w.params) (aq w.params Y) d [(⟨⟨[104,111,117,114,115]⟩⟩,Y.c2)]) e [(⟨⟨[104,111,117,114,115]⟩⟩,Y.c2)]}:=
 dq nl (o:=cq a t 0) rfl (by simp[gM]) (by kernel_rfl) (by kernel_rfl) rfl (CY w Y d e i b t a _ hk a 0 f l [] [] rfl (by simp;omega) (.inl rfl) λo h=>by simpa using h)
noncomputable def iN (w:E9) (Y:Lw) (b d a:Nat) (Q:List (Int×Nat)->Prop) (i e:Nat) (lo:List E6) (l:Nat) (f:List (Int×Nat)):af:={d:=40,α:=List (Int×Nat)×Nat×List E6×Nat,c:=dE (jk w.params) 0 d a (aq w.params Y) b [(⟨⟨[104,111,117,114,115]⟩⟩,Y.c2)],need:=[(d,aW "list_iterator" Y.W i),(b,oD lo l),(a,ae (f.map iv) e),(Y.W,ae (Y.ws.map bf) Y.wn),(Y.c2,aj Y.H),(Y.H,dO w.params (.type "dict") none iv Y.mh Y.er)],new:=λx=>[(b,oD x.2.2.1 x.2.2.2),(a,ae (x.1.map iv) x.2.1),(Y.W,ae (Y.ws.map bf) Y.wn),(Y.c2,aj Y.H),(Y.H,dO w.params (.type "dict") none iv Y.mh Y.er)],post:=λx=>Q x.1/\eW w.params x.2.2.1}
noncomputable def fs (m:MI) (W:List (List Nat)):List Int:=W.map λx=>(x.map (aa m)).sum
theorem CV (w:E9) (Y:Lw) (j e f:Nat) (Q:List (Int×Nat)->Prop) (hk:∀x∈Y.ws,x.1.length<=900/\(∀c∈x.1,c<128)/\∀c∈x.1,∃Ix,look? Y.mh c=some Ix):∀(r:List (List Nat×Nat)) (i a b:Nat) (lo:List E6) (d:List (Int×Nat)),Y.ws.drop i=r->d.length+r.length<=900->eW w.params lo->(∀o,o.map (λx=>x.1)=d.map (λx=>x.1)++fs Y.mh (r.map (λx=>x.1))->Q o)->ab (env w) (iN w Y j e f Q i a lo b d):=by
 let Iw:∀{w:E9} {lo:List E6} {Y:Lw} {j e f:Nat} {Q:List (Int×Nat)->Prop} {i a b:Nat} {d:List (Int×Nat)} (x:List Nat×Nat) (h:Y.ws[i]? =some x) (L:∀c∈x.1,c<128) (E:d.length<=1000) (D:∀(A e f a b:Nat),ab (env w) {gM w Y j A e f x.2 x.1 (λo=>o.map (λx=>x.1)=x.1.map (aa Y.mh)) 0 a [] b []with c:=bB (oV w.params) 0 e f (eU (jk w.params) (aq w.params Y) j [(⟨⟨[104,111,117,114,115]⟩⟩,Y.c2)]) A [(⟨⟨[104,111,117,114,115]⟩⟩,Y.c2)]}) (s:∀(k:Nat) (v:Fb) (a b u:Nat),ab (env w) (iN w Y j e f Q (i+1) a [es w.params [119,97,121] k v] b (d++[((x.1.map (aa Y.mh)).sum,u)]))),PP (env w) (iN w Y j e f Q i a lo b d):= @λw lo Y j e f Q i a b d x h L E D s _ q=>
  .seg 68736258049 λI=>.use _ (cr w e Y.W i Y.wn bf Y.ws x h) [0,2] [] λR B=>.seg 0x1003000000003003 λy=>.use _ (fL w (x.1) (x.2) L) [] [] λx4 h4=>.seg 1 λp=>.use _ (D (p 1) x4 (p 0) 0 0) [2,0,0,4,4] [] λm M=>have Z:(λ(o:List (Int×Nat))=>Gx (λ(x:Int×Nat)=>x.1) o=Gx (aa Y.mh) x.1) m.1:=(Fx M);have gt:dk w.params m.2.2.1:=(Fg M);have P:(m.1.map (λx:Int×Nat=>x.1)).sum=(x.1.map (aa Y.mh)).sum:=congrArg List.sum Z; .or _ _ (gt) (λH=>.view [0] [] _ _ _ _ ((bC (a:=p 1) (congrArg (λl=>oD l m.2.2.2) H))) (.seg 0x1001002001002002001001001 λO=>.use _ (jK w (O 0) (p 0) (m.2.1) (O 2) 0 (O 1) (m.1) (List.sum (Gx (aa Y.mh) x.1)) P) [1,2,0] [] λt h9=>.seg 32769 λS=>.use _ (jb w f a d ((List.sum (Gx (aa Y.mh) x.1),t)) (by omega)) [7] [] λIy V=>.seg 0 λT=>.use _ (s (kT lo (y 0)) (GT (Str.mk (Array.mk x.1)) x.2) (a+1) (kE lo b) t) [5,6,0,4,2,2] [] λg n=>have W:Q g.1:=(Fx n);have X:eW w.params g.2.2.1:=(Fg n);q (g.1,g.2.1,g.2.2.1,g.2.2.2) n [] [0,0,0,0,0] [])) (λH=>.pick _ _ (H) λki io=>.pick _ _ (io) λvi Iv=>.view [0] [] _ _ _ _ ((bC (a:=p 1) (congrArg (λl=>oD l m.2.2.2) Iv))) (.seg 0x1001002001002002001001001001001 λO=>.use _ (jK w (O 0) (p 0) (m.2.1) (O 2) 0 (O 1) (m.1) (List.sum (Gx (aa Y.mh) x.1)) P) [1,2,0] [] λt h9=>.seg 32769 λS=>.use _ (jb w f a d ((List.sum (Gx (aa Y.mh) x.1),t)) (by omega)) [7] [] λIy V=>.seg 0 λT=>.use _ (s (kT lo (y 0)) (GT (Str.mk (Array.mk x.1)) x.2) (a+1) (kE lo b) t) [5,6,0,4,2,2] [] λg n=>have W:Q g.1:=(Fx n);have X:eW w.params g.2.2.1:=(Fg n);q (g.1,g.2.1,g.2.2.1,g.2.2.2) n [] [0,0,0,0,0] []))
 intro r
 induction r with
 | nil=>
  intro i a b lo d C E G F
  have N:Q d:=F d (by simp[fs])
  rcases G with rfl | ⟨k,v,rfl⟩
  .exact ct (λ_ q=>.seg 68736258049 λI=>.use _ (ch w e Y.W i Y.wn bf Y.ws (aV C)) [0,2] [] λR B=>.seg 3 λy=>q (d,a,[],b) ⟨N,.inl rfl⟩ [] [4,4,1,3,3] [])
  .exact ct (λ_ q=>.seg 68736258049 λI=>.use _ (ch w e Y.W i Y.wn bf Y.ws (aV C)) [0,2] [] λR B=>.seg 3 λy=>q (d,a,[es w.params [119,97,121] k v],b) ⟨N,.inr ⟨k,v,rfl⟩⟩ [] [4,4,1,3,3] [])
 | cons x r s=>
  intro i a b lo d C E G F
  obtain⟨J,B⟩:=aQ C
  rw[Fd]at E
  obtain⟨b1,U,b3⟩:=hk x (FD J)
  have D:=λ(A e f a b:Nat)=>CX w Y j A e f x.2 x.1 b3 b1 a b
  have nx:∀(k:Nat) (v:Fb) (a b u:Nat),ab (env w) (iN w Y j e f Q (i+1) a [es w.params [119,97,121] k v] b (d++[((x.1.map (aa Y.mh)).sum,u)])):=λk v a b u=>s (i+1) a b _ _ B (by simp;omega) (.inr ⟨k,v,rfl⟩) λo ho=>F o (by
   rw[ho,Ff,Fp];rfl)
  rcases G with rfl | ⟨k,v,rfl⟩<;>exact av (Iw x J U (by omega) D nx)
theorem CU (w:E9) (Y:Lw) (b a:Nat) (hk:∀x∈Y.ws,x.1.length<=900/\(∀c∈x.1,c<128)/\∀c∈x.1,∃v,look? Y.mh c=some v) (e:Y.ws.length<=900) (d l:Nat):ab (env w) {iN w Y b Y.it a (λo=>o.map (λx=>x.1)=fs Y.mh (Y.ws.map (λx=>x.1))) 0 d [] l []with c:=bB (jk w.params) 0 Y.it a (aq w.params Y) b [(⟨⟨[104,111,117,114,115]⟩⟩,Y.c2)]}:=
 dq gI (o:=aW "list_iterator" Y.W 0) rfl (by simp[iN]) (by kernel_rfl) (by kernel_rfl) rfl (CV w Y b Y.it a _ hk Y.ws 0 d l [] [] rfl (by simp;omega) (.inl rfl) λo h=>by simpa using h)
noncomputable def cb (N:List NL) (a:List Nat):List (List Nat):=a.foldl (fu N) [[]]
noncomputable def yx (w:E9) (Y:Lw) (a t:Nat):af:={d:=55,α:=List (List Nat×Nat)×List (Int×Nat)×(Nat×Nat)×(Nat×Nat)×(Nat×Nat),c:=.block (((aI w.params).drop 11).take 3) (aq w.params Y),need:=[(Y.c1,aK (.str ⟨⟨Y.cps⟩⟩ Y.tN)),(Y.c2,aj Y.H),(Y.c5,aj Y.nd),(Y.c7,aK (.str ⟨⟨[a]⟩⟩ t)),(Y.c8,br),(Y.c9,br),(Y.nd,dO w.params (.type "dict") none .ref (aM Y.N) Y.en),(Y.H,dO w.params (.type "dict") none iv Y.mh Y.er)],new:=λx=>[(Y.c1,aK (.str ⟨⟨Y.cps⟩⟩ Y.tN)),(Y.c2,aj Y.H),(Y.c5,aj Y.nd),(Y.c7,aK (.str ⟨⟨[x.2.2.1.1]⟩⟩ x.2.2.1.2)),(Y.c8,aj x.2.2.2.1.1),(Y.c9,aj x.2.2.2.2.1),(Y.nd,dO w.params (.type "dict") none .ref (aM Y.N) Y.en),(Y.H,dO w.params (.type "dict") none iv Y.mh Y.er),(x.2.2.2.1.1,ae (x.1.map bf) x.2.2.2.1.2),(x.2.2.2.2.1,ae (x.2.1.map iv) x.2.2.2.2.2)],post:=λx=>x.1.map (λx=>x.1)=cb Y.N Y.cps/\x.2.1.map (λx=>x.1)=fs Y.mh (x.1.map (λx=>x.1)),needB:=[bh Y.N],putB:=λx=>[bh Y.N]}
theorem xf {e:bu} {T:af} (a:Code) (t:Sem Gq) (d:bV e T) (h:(∀B p,dP ⟨e.D,⟨pq,e.w.params⟩,e.kt,B,none,T.d⟩ d (.run a p .base t T.need) T.needB)=(∀B p,eg ⟨e.D,⟨pq,e.w.params⟩,e.kt,B,none,T.d⟩ d (.run a p .base t T.need) T.needB)):fy e T a t:=
 λb i j f k p s F P g=>by
  have q:=h.mpr (λB p=>mV _ d _ _) b.below p
  have m:wp (FT pq e.w) (b.goto a) t (FP (FT pq e.w) b e.kt F .base a) (FE (FT pq e.w) b e.kt F .base) p s:=nU j f k g d (.run a p .base t T.need) T.needB s trivial (a9.start P) (cZ.refl s) q
  rw[<-i]at m
  exact m
theorem xd {e:bu} {T:af} (a:Code) (t:Sem Gq) (d:bV e T) (h:∀b,(∀B p,dP ⟨e.D,⟨pq,cM e.w.params b⟩,e.kt,B,none,T.d⟩ d (.run a p .base t T.need) T.needB)=(∀B p,eg ⟨e.D,⟨pq,cM e.w.params b⟩,e.kt,B,none,T.d⟩ d (.run a p .base t T.need) T.needB)):fy e T a t:=by
 have q:=h (e.w.params.followText "special-get-raises")
 rw[nj]at q
 exact xf a t d q
noncomputable def vF {e:bu} {T:af} (a:Code) (t:Sem Gq) (b:PP e T) (P:E8):Prop:=∀B p,dP ⟨e.D,⟨pq,P⟩,e.kt,B,none,T.d⟩ (b T .fin) (.run a p .base t T.need) T.needB
noncomputable def qu {e:bu} {T:af} (a:Code) (t:Sem Gq) (b:PP e T) (P:E8):Prop:=∀B p,eg ⟨e.D,⟨pq,P⟩,e.kt,B,none,T.d⟩ (b T .fin) (.run a p .base t T.need) T.needB
theorem qH {e:bu} {T:af} (a:Code) (t:Sem Gq) (d:PP e T) (h:vF a t d (cM e.w.params false)=qu a t d (cM e.w.params false):=by kernel_rfl) (f:vF a t d (cM e.w.params true)=qu a t d (cM e.w.params true):=by kernel_rfl):fy e T a t:=xd a t (d T .fin) (λb=>match b with| false=>h | true=>f)
noncomputable def EW {e:bu} {T:af} (a:bV e T):bV e T:=match a with|.seg N k=>.seg (N/4096) k | x=>x
section
variable {w:E9} {T:af} {d:Nat} {Γ:Ctx} {p:Pos} {s0 s:Fe} {own:List Addr} {A r:List ao}
theorem E1 (u:List Nat) {st:List Stmt} {e:Env} {g:Code} (h:fy (env w) T g (Dn (.block st e))) (m:Γ.code=g) (j:∀es,T.outer=some es->envsOf Γ.below=es) (H:bt (env w) d Γ) (C:T.d<=d) (G:Go (env w).kt s0 own s A.flatten) (o:take u (bg T.need++T.needB) A (· =r)) {f0:Flow} (n:∀x,T.r x=.ok f0)
 {Q:Flow->Pos->Fe->Prop} {E:Fb->Pos->Fe->Prop} (k:∀x a p,T.post x->Go (env w).kt s0 own a (bp T x r).flatten->Q f0 p a):wp (FT pq w) Γ (Hd st e) Q E p s:=by
 have l:dQ T.d Γ:=⟨by have:=H.hl.cnt;omega,by have:=H.hl.units;omega⟩
 have b:=G.perm (gS o)
 have q:=h Γ m H.hh j l p s (λr a=>match r with|.ok f=>∀p,Q f p a |.error x=>False) b.sub.pre (λx a t A=>by
  rw[n]
  exactλp=>k x a p t (Go.eq (b.stepR A) (eK x r)))
 have y:=l.cnt
 have B:=l.units
 have v:=mJ (jc w.params) (.block st e) Γ (by omega) (by omega) p s _ _ q
 have i:wp (FT pq w) Γ ((Hd st e).onRaise (λx=>do HU x e;Hf x)>>=λf=>pure (.done f)) (finPost (FT pq w) Γ λr a=>match r with|.ok f=>∀p,Q f p a |.error x=>False) (λx _ a=>False) p s:=v
 rw[E7,Gu]at i
 refine Fu _ _ _ (λf p s h=>h p) (λx p s h=>?_) _ _ i
 exact(mM _ p s (Fu _ _ _ (λ_ _ _ h=>h) (λ_ _ _ h=>h) _ _ h)).elim
end
noncomputable def fa (P:E8) (k a b:Nat) (v d e:Fb):List E6:=[es P [115,99,114,105,112,116] k v,es P [115,105,122,101] a d,es P [99,101,108,108,115] b e]
noncomputable def fj (P:E8) (Y:Lw):List E6:=[es P [106] Y.k5 Y.v5,es P [116,117,114,110,101,100] Y.k6 (.ref Y.T)]
theorem lf {ev:Env} {a:Addr} {es:List E6} {ep:Nat} {sl:SL}:([(a,bv es ep sl)]++([]:List ao).flatten).Perm (([]:ao)++[a8 [⟨ev,a,bD es ep,sl⟩]].flatten):=.refl _
theorem DF (P:E8) (Y:Lw) (o:Obj) (h:o.isFreed=false):cn (aq P Y,Y.fr,o):=⟨rfl,(by
 show(cW (kg P)).scope.kind≠ .module
 have:(cW (kg P)).scope.kind=.function:=(by kernel_rfl)
 rw[this];exactλz=>nomatch z),h⟩
noncomputable def jU (w:E9) (Y:Lw) (k:List E6):af:={d:=55,α:=Nat×Nat×Nat,c:=.block [aA (aI w.params) 14] (aq w.params Y),need:=[(Y.fr,bv (fa w.params Y.k1 Y.k2 Y.k3 Y.v1 Y.v2 Y.v3++(k++(fj w.params Y++[]))) Y.fe Y.sl),(Y.c9,aj Y.V),(Y.V,ae (Y.hs.map iv) Y.vn)],new:=λx=>[(Y.fr,bv (fa w.params Y.k1 Y.k2 Y.k3 Y.v1 Y.v2 Y.v3++(k++(fj w.params Y++[es w.params [108,111,110,103,101,115,116] x.1 (.int Y.lg x.2.1)]))) x.2.2 Y.sl),(Y.c9,aj Y.V),(Y.V,ae (Y.hs.map iv) Y.vn)]}
theorem zx (w:E9) (Y:Lw) (k:Nat) (v:Fb) (h:cU Y.hs=Y.lg) (b:Y.hs≠[]):ax (env w) (jU w Y [es w.params [107] k v]) (Dn (jU w Y [es w.params [107] k v]).c):=aG _ (λ_ d=>.seg 0x1001003001003003001001002000000 λO=>.use _ (i6 w (O 0) Y.V Y.vn (O 1) 0 Y.hs Y.lg b h) [1,3,0] [] λx e=>.seg 8194 λa=>d (a 0,x,Y.fe+1) trivial [] [1,1,0] [])
theorem zw (w:E9) (Y:Lw) (h:cU Y.hs=Y.lg) (b:Y.hs≠[]):ax (env w) (jU w Y []) (Dn (jU w Y []).c):=aG _ (λ_ d=>.seg 0x1001003001003003001001002000000 λO=>.use _ (i6 w (O 0) Y.V Y.vn (O 1) 0 Y.hs Y.lg b h) [1,3,0] [] λx e=>.seg 8194 λa=>d (a 0,x,Y.fe+1) trivial [] [1,1,0] [])
theorem l6 (w:E9) (Y:Lw) (es:List E6) (s:SL) (nd g f:Nat) (a:List Nat) (t:Nat) (N:List NL) (e:Nat) (b:MI) (d:Nat) (C:bE N a Y.mh b) (i:∀c∈a,c<128):ab (env w) (r4 w nd g f a t N e Y.mh Y.er b d [⟨(aq w.params Y),Y.fr,bD es Y.fe,s⟩] [((aq w.params Y),Y.fr,bD es Y.fe)]):=
 BQ w nd g f a t N e Y.mh Y.er b d _ _ C rfl (n4 (DF w.params Y _ rfl) (λ_ h=>nomatch h)) i
noncomputable def nz (w:E9) (Y:Lw) (e:Nat) (N:List NL) (k:List E6):af:={d:=125,α:=(List Lv×Nat×Nat)×(List Lv×Nat×Nat)×(Nat×Nat×SL),c:=.block (((aI w.params).drop 15).take 2) (aq w.params Y),need:=[(Y.fr,bv (fa w.params Y.k1 Y.k2 Y.k3 Y.v1 Y.v2 Y.v3++(k++(fj w.params Y++[es w.params [108,111,110,103,101,115,116] Y.k7 (.int Y.lg Y.tl)]))) Y.fe Y.sl),(Y.c1,aK (.str ⟨⟨Y.cps⟩⟩ Y.tN)),(Y.c2,aj Y.H),(Y.c3,aj Y.E),(Y.c4,aj Y.G),(Y.c5,aj Y.nd),(Y.c10,br),(Y.nd,dO w.params (.type "dict") none .ref (aM Y.N) Y.en),(Y.T,dO w.params (.type "dict") none .ref (aM N) e),(Y.H,dO w.params (.type "dict") none iv Y.mh Y.er),(Y.E,dO w.params (.type "dict") none iv Y.me Y.ee),(Y.G,dO w.params (.type "dict") none iv Y.ml Y.el)],new:=λx=>[(Y.fr,bv (fa w.params Y.k1 Y.k2 Y.k3 Y.v1 Y.v2 Y.v3++(k++(fj w.params Y++[es w.params [108,111,110,103,101,115,116] Y.k7 (.int Y.lg Y.tl),es w.params [98,97,99,107] x.2.2.1 (.ref x.2.1.2.1)]))) x.2.2.2.1 x.2.2.2.2),(Y.c1,aK (.str ⟨⟨Y.cps⟩⟩ Y.tN)),(Y.c2,aj Y.H),(Y.c3,aj Y.E),(Y.c4,aj Y.G),(Y.c5,aj Y.nd),(Y.c10,aj x.1.2.1),(Y.nd,dO w.params (.type "dict") none .ref (aM Y.N) Y.en),(Y.T,dO w.params (.type "dict") none .ref (aM N) e),(Y.H,dO w.params (.type "dict") none iv Y.mh Y.er),(Y.E,dO w.params (.type "dict") none iv Y.me Y.ee),(Y.G,dO w.params (.type "dict") none iv Y.ml Y.el),(x.1.2.1,ae ((aD x.1.1).map .ref) x.1.2.2),(x.2.1.2.1,ae ((aD x.2.1.1).map .ref) x.2.1.2.2)],post:=λx=>cA Y.cps (λc=>ad (au Y.N c)) (aa Y.mh) Y.me x.1.1/\cA Y.cps.reverse (λc=>ad (au N c)) (aa Y.mh) Y.ml x.2.1.1,needB:=[bh Y.N,bh N],putB:=λx=>[bh Y.N,bh N,bq w.params x.1.1,bq w.params x.2.1.1],outer:=some []}
theorem zu (w:E9) (Y:Lw) (e:Nat) (N:List NL) (k:Nat) (v:Fb) (C:bE Y.N Y.cps Y.mh Y.me) (g:bE N Y.cps.reverse Y.mh Y.ml) (i:∀c∈Y.cps,c<128) (j:∀c∈Y.cps.reverse,c<128) (m:Y.cps.length=3\/Y.cps.length=4\/Y.cps.length=5):fy (env w) (nz w Y e N [es w.params [107] k v]) (.func (aI w.params) (aq w.params Y)) (Dn (.block (((aI w.params).drop 15).take 2) (aq w.params Y))):=qH _ _ (λ_ r=>.seg 0x4003006002000 λs=>.view [0] [] _ _ _ _ ((lf (ev:=(aq w.params Y)) (a:=Y.fr) (es:=(fa w.params Y.k1 Y.k2 Y.k3 Y.v1 Y.v2 Y.v3++([es w.params [107] k v]++(fj w.params Y++[es w.params [108,111,110,103,101,115,116] Y.k7 (.int Y.lg Y.tl)])))) (ep:=Y.fe) (sl:=Y.sl))) (.use _ (l6 w Y (fa w.params Y.k1 Y.k2 Y.k3 Y.v1 Y.v2 Y.v3++([es w.params [107] k v]++(fj w.params Y++[es w.params [108,111,110,103,101,115,116] Y.k7 (Gh Y.lg Y.tl)]))) Y.sl Y.nd Y.H Y.E Y.cps Y.tN Y.N Y.en Y.me Y.ee C i) [6,7,7] [1,0] λx d=>have u:cA Y.cps (λ(c:Nat)=>ad (au Y.N c)) (aa Y.mh) Y.me x.2.2.1:=(Fx d);have l:aC x.2.2.2=[(aq w.params Y,Y.fr,bD (fa w.params Y.k1 Y.k2 Y.k3 Y.v1 Y.v2 Y.v3++([es w.params [107] k v]++(fj w.params Y++[es w.params [108,111,110,103,101,115,116] Y.k7 (Gh Y.lg Y.tl)]))) Y.fe)]:=(Fg d); .pick _ _ (iB l) λp hp=>have B:x.2.2.2=aF.mk (aq w.params Y) Y.fr (bD (fa w.params Y.k1 Y.k2 Y.k3 Y.v1 Y.v2 Y.v3++([es w.params [107] k v]++(fj w.params Y++[es w.params [108,111,110,103,101,115,116] Y.k7 (Gh Y.lg Y.tl)]))) Y.fe) p.1::p.2:=(Fx hp);have D:aC p.2=[]:=(Fg hp); .view [] [2] _ _ _ _ (ip hp.1) (.seg 0x100100100600000b00b λb=>.use _ (qY w Y.cps Y.tN (b 2) (b 1) (HJ Y.cps) rfl m) [0] [] λo y=>.seg 167804930 λt=>.view [1] [] _ _ _ _ ((lf (ev:=(aq w.params Y)) (a:=Y.fr) (es:=(fa w.params Y.k1 Y.k2 Y.k3 Y.v1 Y.v2 Y.v3++([es w.params [107] k v]++(fj w.params Y++[es w.params [108,111,110,103,101,115,116] Y.k7 (.int Y.lg Y.tl)])))) (ep:=Y.fe) (sl:=p.1))) (.use _ (l6 w Y (fa w.params Y.k1 Y.k2 Y.k3 Y.v1 Y.v2 Y.v3++([es w.params [107] k v]++(fj w.params Y++[es w.params [108,111,110,103,101,115,116] Y.k7 (Gh Y.lg Y.tl)]))) (p.1) Y.T Y.H Y.G (HJ Y.cps) o N e Y.ml Y.el g j) [11,2,10] [4,0] λa f=>have A:cA (HJ Y.cps) (λ(c:Nat)=>ad (au N c)) (aa Y.mh) Y.ml a.2.2.1:=(Fx f);have n:aC a.2.2.2=[(aq w.params Y,Y.fr,bD (fa w.params Y.k1 Y.k2 Y.k3 Y.v1 Y.v2 Y.v3++([es w.params [107] k v]++(fj w.params Y++[es w.params [108,111,110,103,101,115,116] Y.k7 (Gh Y.lg Y.tl)]))) Y.fe)]:=(Fg f); .pick _ _ (iB n) λq h=>have E:a.2.2.2=aF.mk (aq w.params Y) Y.fr (bD (fa w.params Y.k1 Y.k2 Y.k3 Y.v1 Y.v2 Y.v3++([es w.params [107] k v]++(fj w.params Y++[es w.params [108,111,110,103,101,115,116] Y.k7 (Gh Y.lg Y.tl)]))) Y.fe) q.1::q.2:=(Fx h);have F:aC q.2=[]:=(Fg h); .view [] [2] _ _ _ _ (ip h.1) (.seg 4097 λO=>r (((x.2.2.1,x.1,x.2.1),(a.2.2.1,a.1,a.2.1),O 0,Y.fe+1,q.1)) (show cA Y.cps (λ(c:Nat)=>ad (au Y.N c)) (aa Y.mh) Y.me ((x.2.2.1,x.1,x.2.1),(a.2.2.1,a.1,a.2.1),O 0,Y.fe+1,q.1).1.1/\cA (HJ Y.cps) (λ(c:Nat)=>ad (au N c)) (aa Y.mh) Y.ml ((x.2.2.1,x.1,x.2.1),(a.2.2.1,a.1,a.2.1),O 0,Y.fe+1,q.1).2.1.1 from(by trivial)) [] [0,8,8,8,8,8,8,5,0,0,3,0,2,0] [4,1,3,1])))))
theorem zt (w:E9) (Y:Lw) (e:Nat) (N:List NL) (C:bE Y.N Y.cps Y.mh Y.me) (g:bE N Y.cps.reverse Y.mh Y.ml) (i:∀c∈Y.cps,c<128) (j:∀c∈Y.cps.reverse,c<128) (l:Y.cps.length=3\/Y.cps.length=4\/Y.cps.length=5):fy (env w) (nz w Y e N []) (.func (aI w.params) (aq w.params Y)) (Dn (.block (((aI w.params).drop 15).take 2) (aq w.params Y))):=qH _ _ (λ_ o=>.seg 0x4003006002000 λr=>.view [0] [] _ _ _ _ ((lf (ev:=(aq w.params Y)) (a:=Y.fr) (es:=(fa w.params Y.k1 Y.k2 Y.k3 Y.v1 Y.v2 Y.v3++([]++(fj w.params Y++[es w.params [108,111,110,103,101,115,116] Y.k7 (.int Y.lg Y.tl)])))) (ep:=Y.fe) (sl:=Y.sl))) (.use _ (l6 w Y (fa w.params Y.k1 Y.k2 Y.k3 Y.v1 Y.v2 Y.v3++([]++(fj w.params Y++[es w.params [108,111,110,103,101,115,116] Y.k7 (Gh Y.lg Y.tl)]))) Y.sl Y.nd Y.H Y.E Y.cps Y.tN Y.N Y.en Y.me Y.ee C i) [6,7,7] [1,0] λx d=>have t:cA Y.cps (λ(c:Nat)=>ad (au Y.N c)) (aa Y.mh) Y.me x.2.2.1:=(Fx d);have k:aC x.2.2.2=[(aq w.params Y,Y.fr,bD (fa w.params Y.k1 Y.k2 Y.k3 Y.v1 Y.v2 Y.v3++([]++(fj w.params Y++[es w.params [108,111,110,103,101,115,116] Y.k7 (Gh Y.lg Y.tl)]))) Y.fe)]:=(Fg d); .pick _ _ (iB k) λp hp=>have y:x.2.2.2=aF.mk (aq w.params Y) Y.fr (bD (fa w.params Y.k1 Y.k2 Y.k3 Y.v1 Y.v2 Y.v3++([]++(fj w.params Y++[es w.params [108,111,110,103,101,115,116] Y.k7 (Gh Y.lg Y.tl)]))) Y.fe) p.1::p.2:=(Fx hp);have A:aC p.2=[]:=(Fg hp); .view [] [2] _ _ _ _ (ip hp.1) (.seg 0x100100100600000b00b λb=>.use _ (qY w Y.cps Y.tN (b 2) (b 1) (HJ Y.cps) rfl l) [0] [] λn u=>.seg 167804930 λs=>.view [1] [] _ _ _ _ ((lf (ev:=(aq w.params Y)) (a:=Y.fr) (es:=(fa w.params Y.k1 Y.k2 Y.k3 Y.v1 Y.v2 Y.v3++([]++(fj w.params Y++[es w.params [108,111,110,103,101,115,116] Y.k7 (.int Y.lg Y.tl)])))) (ep:=Y.fe) (sl:=p.1))) (.use _ (l6 w Y (fa w.params Y.k1 Y.k2 Y.k3 Y.v1 Y.v2 Y.v3++([]++(fj w.params Y++[es w.params [108,111,110,103,101,115,116] Y.k7 (Gh Y.lg Y.tl)]))) (p.1) Y.T Y.H Y.G (HJ Y.cps) n N e Y.ml Y.el g j) [11,2,10] [4,0] λa f=>have v:cA (HJ Y.cps) (λ(c:Nat)=>ad (au N c)) (aa Y.mh) Y.ml a.2.2.1:=(Fx f);have m:aC a.2.2.2=[(aq w.params Y,Y.fr,bD (fa w.params Y.k1 Y.k2 Y.k3 Y.v1 Y.v2 Y.v3++([]++(fj w.params Y++[es w.params [108,111,110,103,101,115,116] Y.k7 (Gh Y.lg Y.tl)]))) Y.fe)]:=(Fg f); .pick _ _ (iB m) λq h=>have B:a.2.2.2=aF.mk (aq w.params Y) Y.fr (bD (fa w.params Y.k1 Y.k2 Y.k3 Y.v1 Y.v2 Y.v3++([]++(fj w.params Y++[es w.params [108,111,110,103,101,115,116] Y.k7 (Gh Y.lg Y.tl)]))) Y.fe) q.1::q.2:=(Fx h);have D:aC q.2=[]:=(Fg h); .view [] [2] _ _ _ _ (ip h.1) (.seg 4097 λO=>o (((x.2.2.1,x.1,x.2.1),(a.2.2.1,a.1,a.2.1),O 0,Y.fe+1,q.1)) (show cA Y.cps (λ(c:Nat)=>ad (au Y.N c)) (aa Y.mh) Y.me ((x.2.2.1,x.1,x.2.1),(a.2.2.1,a.1,a.2.1),O 0,Y.fe+1,q.1).1.1/\cA (HJ Y.cps) (λ(c:Nat)=>ad (au N c)) (aa Y.mh) Y.ml ((x.2.2.1,x.1,x.2.1),(a.2.2.1,a.1,a.2.1),O 0,Y.fe+1,q.1).2.1.1 from(by trivial)) [] [0,8,8,8,8,8,8,5,0,0,3,0,2,0] [4,1,3,1])))))
noncomputable def BP (e:Expr):Expr:=match e with|.BinOp l _ _ _=>l | _=>e
noncomputable def e8 (P:E8):List Stmt:=aY (aA (aI P) 19)
noncomputable def o1 (P:E8):Expr:=pL (BP (bI (aA (e8 P) 0)))
noncomputable def oX (P:E8):Expr:=pL (sQ (bI (aA (e8 P) 2)))
noncomputable def oY (P:E8):Expr:=fR (bI (aA (e8 P) 1))
noncomputable def dG (P:E8) (x:List E6):Prop:=x=[]\/∃k v,x=[es P [107] k v]
noncomputable def dL (n:Nat) (x:List Nat):Bool:=x.getLast?.toList==[n]
noncomputable def dK (n:Nat) (x:List Nat):Bool:=decide (n∈x)
noncomputable def bT (p:List Nat->Bool):List (List Nat)->List Int->List Int
 | x::ws,h::a=>if p x=true then h::bT p ws a else bT p ws a
 | _,_=>[]
noncomputable def gd (w:E9) (Y:Lw) (b d a n t:Nat) (Q:List (Int×Nat)->Prop) (i:Nat) (l:Int) (h j k e:Nat) (lo:List E6) (g:Nat) (f:List (Int×Nat)):af:={d:=20,α:=List (Int×Nat)×Nat×List E6×Nat,c:=dE (o1 w.params) 0 d a (aq w.params Y) b [(⟨⟨[119,97,121,115]⟩⟩,Y.c8),(⟨⟨[110,97,109,101]⟩⟩,Y.c7),(⟨⟨[104,101,97,118,121]⟩⟩,Y.c9)],need:=[(d,bG ((i:Nat):Int) l 1 h j k),(b,oD lo g),(a,ae (f.map iv) e),(Y.c7,aK (.str ⟨⟨[n]⟩⟩ t)),(Y.c8,aj Y.W),(Y.c9,aj Y.V),(Y.W,ae (Y.ws.map bf) Y.wn),(Y.V,ae (Y.hs.map iv) Y.vn)],new:=λx=>[(b,oD x.2.2.1 x.2.2.2),(a,ae (x.1.map iv) x.2.1),(Y.c7,aK (.str ⟨⟨[n]⟩⟩ t)),(Y.c8,aj Y.W),(Y.c9,aj Y.V),(Y.W,ae (Y.ws.map bf) Y.wn),(Y.V,ae (Y.hs.map iv) Y.vn)],post:=λx=>Q x.1/\dG w.params x.2.2.1}
noncomputable def ga (w:E9) (Y:Lw) (b d a n t:Nat) (Q:List (Int×Nat)->Prop) (i:Nat) (l:Int) (h j k e:Nat) (lo:List E6) (g:Nat) (f:List (Int×Nat)):af:={d:=20,α:=List (Int×Nat)×Nat×List E6×Nat,c:=dE (oX w.params) 0 d a (aq w.params Y) b [(⟨⟨[119,97,121,115]⟩⟩,Y.c8),(⟨⟨[110,97,109,101]⟩⟩,Y.c7),(⟨⟨[104,101,97,118,121]⟩⟩,Y.c9)],need:=[(d,bG ((i:Nat):Int) l 1 h j k),(b,oD lo g),(a,ae (f.map iv) e),(Y.c7,aK (.str ⟨⟨[n]⟩⟩ t)),(Y.c8,aj Y.W),(Y.c9,aj Y.V),(Y.W,ae (Y.ws.map bf) Y.wn),(Y.V,ae (Y.hs.map iv) Y.vn)],new:=λx=>[(b,oD x.2.2.1 x.2.2.2),(a,ae (x.1.map iv) x.2.1),(Y.c7,aK (.str ⟨⟨[n]⟩⟩ t)),(Y.c8,aj Y.W),(Y.c9,aj Y.V),(Y.W,ae (Y.ws.map bf) Y.wn),(Y.V,ae (Y.hs.map iv) Y.vn)],post:=λx=>Q x.1/\dG w.params x.2.2.1}
theorem no (p:List Nat->Bool) (x:List Nat) (ws:List (List Nat)) (h:Int) (a:List Int):bT p (x::ws) (h::a)=if p x=true then h::bT p ws a else bT p ws a:=rfl
theorem Dg (w:E9) (Y:Lw) (r f q n p:Nat) (Q:List (Int×Nat)->Prop) (IG:Y.ws.length=Y.hs.length) (y:∀x∈Y.ws,x.1.length<=900) (U:Y.ws.length<=900):∀(C:List (List Nat×Nat)) (i:Nat) (l:Int) (g j t a d:Nat) (lo:List E6) (e:List (Int×Nat)),Y.ws.drop i=C->i<=Y.ws.length->l=(C.length:Nat)->e.length+C.length<=900->dG w.params lo->(∀o:List (Int×Nat),o.map (λx=>x.1)=e.map (λx=>x.1)++bT (dL n) (C.map (λx=>x.1)) ((Y.hs.drop i).map (λx=>x.1))->Q o)->ab (env w) (gd w Y r f q n p Q i l g j t a lo d e):=by
 let Iy:∀{w:E9} {lo:List E6} {Y:Lw} {r f q n p:Nat} {Q:List (Int×Nat)->Prop} {i:Nat} {l:Int} {g j t a d:Nat} {e:List (Int×Nat)} (x:List Nat×Nat) (h:Int×Nat) (s:0<l) (N:Y.ws[i]? =some x) (A:Y.hs[i]? =some h) (y:x.1.length<=900) (G:e.length<=1000) (U:Y.ws.length<=1000) (X:Y.hs.length<=1000) (L:i<=1000) (hp:x.1.getLast?.toList=[n]) (B:∀(k:Nat) (v:Fb) (a d:Nat),ab (env w) (gd w Y r f q n p Q (i+1) (l-1) 0 0 t a [es w.params [107] k v] d (e++[h]))),PP (env w) (gd w Y r f q n p Q i l g j t a lo d e):= @λw lo Y r f q n p Q i l g j t a d e x h s N A y G U X L hp B _ E=>
  .seg 68736258049 λV=>.use _ (bY w f (↑i:Int) l 1 g j t ((↑i:Int)+1) (l-1) s rfl rfl) [0] [] λu J=>.seg 0x7001007007007002005002002 λO=>.use _ (bH bf w Y.W Y.wn u (↑i:Int) i Y.ws x rfl N (by omega)) [6] [] λx4 h4=>.seg 16781313 λI=>.use _ (qW w (x.1) (x.2) (I 2) (I 1) ([n]) hp y) [0] [] λZ h6=>.seg 4102 λO7=>.use _ (vH w n n Z p (by trivial)) [] [] λx8 h8=>.seg 0x9001009009009004008 λO9=>.use _ (bH iv w Y.V Y.vn u (↑i:Int) i Y.hs h rfl A (by omega)) [8] [] λD R=>.seg 24577 λIz=>.use _ (jb w q a e h (by omega)) [5] [] λIJ ID=>.seg 0 λIA=>.use _ (B (kT lo (O 0)) (Gh (↑i:Int) u) (a+1) (kE lo d)) [4,4,0,3,3,3,2,0] [] λH W=>have IE:Q H.1:=(Fx W);have IF:dG w.params H.2.2.1:=(Fg W);E (H.1,H.2.1,H.2.2.1,H.2.2.2) W [] [0,0,0,0,0,0,0] []
 let Ix:∀{w:E9} {lo:List E6} {Y:Lw} {r f q n p:Nat} {Q:List (Int×Nat)->Prop} {i:Nat} {l:Int} {g j t a d:Nat} {e:List (Int×Nat)} (x:List Nat×Nat) (h:Int×Nat) (s:0<l) (N:Y.ws[i]? =some x) (A:Y.hs[i]? =some h) (y:x.1.length<=900) (G:e.length<=1000) (U:Y.ws.length<=1000) (X:Y.hs.length<=1000) (L:i<=1000) (m:List Nat) (hm:x.1.getLast?.toList=m) (hp:¬m=[n]) (B:∀(k:Nat) (v:Fb) (a d:Nat),ab (env w) (gd w Y r f q n p Q (i+1) (l-1) 0 0 t a [es w.params [107] k v] d e)),PP (env w) (gd w Y r f q n p Q i l g j t a lo d e):= @λw lo Y r f q n p Q i l g j t a d e x h s N A y G U X L m hm hp B _ E=>
  .seg 68736258049 λV=>.use _ (bY w f (↑i:Int) l 1 g j t ((↑i:Int)+1) (l-1) s rfl rfl) [0] [] λu J=>.seg 0x7001007007007002005002002 λO=>.use _ (bH bf w Y.W Y.wn u (↑i:Int) i Y.ws x rfl N (by omega)) [6] [] λx4 h4=>.seg 16781313 λI=>.use _ (qW w (x.1) (x.2) (I 2) (I 1) m hm y) [0] [] λZ h6=>.seg 4102 λO7=>.use _ (jM w m ([n]) Z p hp) [] [] λx8 h8=>.seg 0 λO9=>.use _ (B (kT lo (O 0)) (Gh (↑i:Int) u) a (kE lo d)) [2,2,2,2,2,2,1,1] [] λD R=>have IB:Q D.1:=(Fx R);have IC:dG w.params D.2.2.1:=(Fg R);E (D.1,D.2.1,D.2.2.1,D.2.2.2) R [] [0,0,0,0,0,0,0] []
 intro C
 induction C with
 | nil=>
  intro i l g j t a d lo e hd L s G T S
  have hq:Q e:=S e (by simp[bT])
  have M:¬0<l:=by rw[s];simp
  rcases T with rfl | ⟨k,v,rfl⟩
  .exact ct (λ_ E=>.seg 68736258049 λV=>.use _ (cg w f (↑i:Int) l 1 g j t M) [0] [] λu J=>.seg 2 λO=>E (e,a,[],d) ⟨hq,.inl rfl⟩ [] [3,3,3,3,3,3,3] [])
  .exact ct (λ_ E=>.seg 68736258049 λV=>.use _ (cg w f (↑i:Int) l 1 g j t M) [0] [] λu J=>.seg 2 λO=>E (e,a,[es w.params [107] k v],d) ⟨hq,.inr ⟨k,v,rfl⟩⟩ [] [3,3,3,3,3,3,3] [])
 | cons x C B=>
  intro i l g j t a d lo e hd L s G T S
  obtain⟨P,J⟩:=aQ hd
  rw[Fd]at G s
  have II:i<Y.ws.length:=(Fa.mp P).1
  have Iv:i<Y.hs.length:=by omega
  have A:Y.hs[i]? =some Y.hs[i]:=Fh Iv
  have M:0<l:=by omega
  have Iw:=y x (FD P)
  rw[Hx Iv,Fw,Fw]at S
  have nx:=λ(b:Bool) (F:dL n x.1=b) (k:Nat) (v:Fb) (a d:Nat) (gt:List (Int×Nat)) (io:gt=if b=true then e++[Y.hs[i]]else e)=>B (i+1) (l-1) 0 0 t a d [es w.params [107] k v] gt J (by omega) (by omega) (by rw[io];split<;>(try rw[FW,List.length_singleton])<;>omega) (.inr ⟨k,v,rfl⟩) λo ho=>S o (by
   rw[ho,io,no,F]
   cases b<;>simp[Ff])
  cases F:dL n x.1 with
  | true=>
   have hp:x.1.getLast?.toList=[n]:=by simpa[dL]using F
   rcases T with rfl | ⟨k,v,rfl⟩<;>exact av (Iy x Y.hs[i] M P A Iw (by omega) (by omega) (by omega) (by omega) hp λk v a d=>nx true F k v a d _ rfl)
  | false=>
   have hp:¬x.1.getLast?.toList=[n]:=by simpa[dL]using F
   rcases T with rfl | ⟨k,v,rfl⟩<;>exact av (Ix x Y.hs[i] M P A Iw (by omega) (by omega) (by omega) (by omega) _ rfl hp λk v a d=>nx false F k v a d _ rfl)
theorem Df (w:E9) (Y:Lw) (b i a n j:Nat) (p:Y.ws.length=Y.hs.length) (k:∀x∈Y.ws,x.1.length<=900) (q:Y.ws.length<=900) (l:Int) (t d e f g:Nat) (m:l=(Y.ws.length:Nat)):ab (env w) {gd w Y b i a n j (λo=>o.map (λx=>x.1)=bT (dL n) (Y.ws.map (λx=>x.1)) (Y.hs.map (λx=>x.1))) 0 l t d e f [] g []with c:=bB (o1 w.params) 0 i a (aq w.params Y) b [(⟨⟨[119,97,121,115]⟩⟩,Y.c8),(⟨⟨[110,97,109,101]⟩⟩,Y.c7),(⟨⟨[104,101,97,118,121]⟩⟩,Y.c9)]}:=
 dq jP (o:=bG ((0:Nat):Int) l 1 t d e) rfl (by simp[gd]) (by kernel_rfl) (by kernel_rfl) rfl (Dg w Y b i a n j _ p k q Y.ws 0 l t d e f g [] [] rfl (by omega) m (by simp;omega) (.inl rfl) λo h=>by simpa using h)
theorem Dc (w:E9) (Y:Lw) (q f p n m:Nat) (Q:List (Int×Nat)->Prop) (ID:Y.ws.length=Y.hs.length) (H:∀x∈Y.ws,x.1.length<=900) (S:Y.ws.length<=900):∀(A:List (List Nat×Nat)) (i:Nat) (l:Int) (g j t a d:Nat) (lo:List E6) (e:List (Int×Nat)),Y.ws.drop i=A->i<=Y.ws.length->l=(A.length:Nat)->e.length+A.length<=900->dG w.params lo->(∀o:List (Int×Nat),o.map (λx=>x.1)=e.map (λx=>x.1)++bT (dK n) (A.map (λx=>x.1)) ((Y.hs.drop i).map (λx=>x.1))->Q o)->ab (env w) (ga w Y q f p n m Q i l g j t a lo d e):=by
 let Iw:∀{w:E9} {lo:List E6} {Y:Lw} {q f p n m:Nat} {Q:List (Int×Nat)->Prop} {i:Nat} {l:Int} {g j t a d:Nat} {e:List (Int×Nat)} (x:List Nat×Nat) (h:Int×Nat) (r:0<l) (L:Y.ws[i]? =some x) (u:Y.hs[i]? =some h) (H:x.1.length<=900) (E:e.length<=1000) (S:Y.ws.length<=1000) (V:Y.hs.length<=1000) (I:i<=1000) (hp:n∈x.1) (y:∀(k:Nat) (v:Fb) (a d:Nat),ab (env w) (ga w Y q f p n m Q (i+1) (l-1) 0 0 t a [es w.params [107] k v] d (e++[h]))),PP (env w) (ga w Y q f p n m Q i l g j t a lo d e):= @λw lo Y q f p n m Q i l g j t a d e x h r L u H E S V I hp y _ C=>
  .seg 68736258049 λT=>.use _ (bY w f (↑i:Int) l 1 g j t ((↑i:Int)+1) (l-1) r rfl rfl) [0] [] λs G=>.seg 0x7001007007007002005004002002 λO=>.use _ (bH bf w Y.W Y.wn s (↑i:Int) i Y.ws x rfl L (by omega)) [6] [] λx4 h4=>.seg 1 λO5=>.use _ (xL w (x.1) n (x.2) m hp) [] [] λx6 h6=>.seg 0x8001008008008003007 λO7=>.use _ (bH iv w Y.V Y.vn s (↑i:Int) i Y.hs h rfl u (by omega)) [7] [] λB N=>.seg 20481 λO9=>.use _ (jb w p a e h (by omega)) [4] [] λIF Iy=>.seg 0 λIx=>.use _ (y (kT lo (O 0)) (Gh (↑i:Int) s) (a+1) (kE lo d)) [3,3,0,2,2,2,1,0] [] λF U=>have Iz:Q F.1:=(Fx U);have IA:dG w.params F.2.2.1:=(Fg U);C (F.1,F.2.1,F.2.2.1,F.2.2.2) U [] [0,0,0,0,0,0,0] []
 let Iv:∀{w:E9} {lo:List E6} {Y:Lw} {q f p n m:Nat} {Q:List (Int×Nat)->Prop} {i:Nat} {l:Int} {g j t a d:Nat} {e:List (Int×Nat)} (x:List Nat×Nat) (h:Int×Nat) (r:0<l) (L:Y.ws[i]? =some x) (u:Y.hs[i]? =some h) (H:x.1.length<=900) (E:e.length<=1000) (S:Y.ws.length<=1000) (V:Y.hs.length<=1000) (I:i<=1000) (hp:¬n∈x.1) (y:∀(k:Nat) (v:Fb) (a d:Nat),ab (env w) (ga w Y q f p n m Q (i+1) (l-1) 0 0 t a [es w.params [107] k v] d e)),PP (env w) (ga w Y q f p n m Q i l g j t a lo d e):= @λw lo Y q f p n m Q i l g j t a d e x h r L u H E S V I hp y _ C=>
  .seg 68736258049 λT=>.use _ (bY w f (↑i:Int) l 1 g j t ((↑i:Int)+1) (l-1) r rfl rfl) [0] [] λs G=>.seg 0x7001007007007002005004002002 λO=>.use _ (bH bf w Y.W Y.wn s (↑i:Int) i Y.ws x rfl L (by omega)) [6] [] λx4 h4=>.seg 1 λO5=>.use _ (xM w (x.1) n (x.2) m hp) [] [] λx6 h6=>.seg 0 λO7=>.use _ (y (kT lo (O 0)) (Gh (↑i:Int) s) a (kE lo d)) [1,1,1,1,1,1,0,0] [] λB N=>have IB:Q B.1:=(Fx N);have IC:dG w.params B.2.2.1:=(Fg N);C (B.1,B.2.1,B.2.2.1,B.2.2.2) N [] [0,0,0,0,0,0,0] []
 intro A
 induction A with
 | nil=>
  intro i l g j t a d lo e Z I r E R P
  have hq:Q e:=P e (by simp[bT])
  have J:¬0<l:=by rw[r];simp
  rcases R with rfl | ⟨k,v,rfl⟩
  .exact ct (λ_ C=>.seg 68736258049 λT=>.use _ (cg w f (↑i:Int) l 1 g j t J) [0] [] λs G=>.seg 2 λO=>C (e,a,[],d) ⟨hq,.inl rfl⟩ [] [3,3,3,3,3,3,3] [])
  .exact ct (λ_ C=>.seg 68736258049 λT=>.use _ (cg w f (↑i:Int) l 1 g j t J) [0] [] λs G=>.seg 2 λO=>C (e,a,[es w.params [107] k v],d) ⟨hq,.inr ⟨k,v,rfl⟩⟩ [] [3,3,3,3,3,3,3] [])
 | cons x A y=>
  intro i l g j t a d lo e Z I r E R P
  obtain⟨M,G⟩:=aQ Z
  rw[Fd]at E r
  have IE:i<Y.ws.length:=(Fa.mp M).1
  have gt:i<Y.hs.length:=by omega
  have u:Y.hs[i]? =some Y.hs[i]:=Fh gt
  have J:0<l:=by omega
  have io:=H x (FD M)
  rw[Hx gt,Fw,Fw]at P
  have nx:=λ(b:Bool) (D:dK n x.1=b) (k:Nat) (v:Fb) (a d:Nat) (W:List (Int×Nat)) (X:W=if b=true then e++[Y.hs[i]]else e)=>y (i+1) (l-1) 0 0 t a d [es w.params [107] k v] W G (by omega) (by omega) (by rw[X];split<;>(try rw[FW,List.length_singleton])<;>omega) (.inr ⟨k,v,rfl⟩) λo ho=>P o (by
   rw[ho,X,no,D]
   cases b<;>simp[Ff])
  cases D:dK n x.1 with
  | true=>
   have hp:n∈x.1:=by simpa[dK]using D
   rcases R with rfl | ⟨k,v,rfl⟩<;>exact av (Iw x Y.hs[i] J M u io (by omega) (by omega) (by omega) (by omega) hp λk v a d=>nx true D k v a d _ rfl)
  | false=>
   have hp:¬n∈x.1:=by simpa[dK]using D
   rcases R with rfl | ⟨k,v,rfl⟩<;>exact av (Iv x Y.hs[i] J M u io (by omega) (by omega) (by omega) (by omega) hp λk v a d=>nx false D k v a d _ rfl)
theorem Db (w:E9) (Y:Lw) (b i a n j:Nat) (p:Y.ws.length=Y.hs.length) (k:∀x∈Y.ws,x.1.length<=900) (q:Y.ws.length<=900) (l:Int) (t d e f g:Nat) (m:l=(Y.ws.length:Nat)):ab (env w) {ga w Y b i a n j (λo=>o.map (λx=>x.1)=bT (dK n) (Y.ws.map (λx=>x.1)) (Y.hs.map (λx=>x.1))) 0 l t d e f [] g []with c:=bB (oX w.params) 0 i a (aq w.params Y) b [(⟨⟨[119,97,121,115]⟩⟩,Y.c8),(⟨⟨[110,97,109,101]⟩⟩,Y.c7),(⟨⟨[104,101,97,118,121]⟩⟩,Y.c9)]}:=
 dq jP (o:=bG ((0:Nat):Int) l 1 t d e) rfl (by simp[ga]) (by kernel_rfl) (by kernel_rfl) rfl (Dc w Y b i a n j _ p k q Y.ws 0 l t d e f g [] [] rfl (by omega) m (by simp;omega) (.inl rfl) λo h=>by simpa using h)
theorem tR (P:E8):∀{L:List Lv} {i:Nat} {l:Lv},L[i]? =some l->∃R,(bq P L).Perm ([(l.a,cO P l.dd l.m l.ep)]++R)
 | [],_,_,h=>by simp at h
 | x::L,0,l,h=>by
  simp at h;subst h
  exact⟨(x.dd,oD [] x.de)::bq P L,.refl _⟩
 | x::L,i+1,l,h=>by
  obtain⟨R,a⟩:=tR P (L:=L) (i:=i) (l:=l) (by simpa using h)
  refine⟨x.cells P++R, ?_⟩
  show(x.cells P++bq P L).Perm _
  refine(List.Perm.append_left _ a).trans ?_
  exact(List.perm_append_comm_assoc (x.cells P) [(l.a,cO P l.dd l.m l.ep)] R)
noncomputable def gb (w:E9) (Y:Lw) (b d a n t:Nat) (Q:List (Int×Nat)->Prop) (i:Nat) (l:Int) (h j k e:Nat) (lo:List E6) (g:Nat) (f:List (Int×Nat)):af:={d:=45,α:=List (Int×Nat)×Nat×List E6×Nat,c:=dE (oY w.params) 0 d a (aq w.params Y) b [(⟨⟨[110,97,109,101]⟩⟩,Y.c7),(⟨⟨[102,114,111,110,116]⟩⟩,Y.c10),(⟨⟨[101,97,114,108,121]⟩⟩,Y.c3)],need:=[(d,bG ((i:Nat):Int) l 1 h j k),(b,oD lo g),(a,ae (f.map iv) e),(Y.c7,aK (.str ⟨⟨[n]⟩⟩ t)),(Y.c10,aj Y.FA),(Y.c3,aj Y.E),(Y.FA,ae ((aD Y.LV).map .ref) Y.fan),(Y.E,dO w.params (.type "dict") none iv Y.me Y.ee)],new:=λx=>[(b,oD x.2.2.1 x.2.2.2),(a,ae (x.1.map iv) x.2.1),(Y.c7,aK (.str ⟨⟨[n]⟩⟩ t)),(Y.c10,aj Y.FA),(Y.c3,aj Y.E),(Y.FA,ae ((aD Y.LV).map .ref) Y.fan),(Y.E,dO w.params (.type "dict") none iv Y.me Y.ee)],post:=λx=>Q x.1/\dG w.params x.2.2.1,needB:=[bq w.params Y.LV],putB:=λ_=>[bq w.params Y.LV]}
noncomputable def et (n:Nat) (e:Int):Nat->List Lv->List Int
 | i,l::L=>if aa l.m n=e then((i:Nat):Int)::et n e (i+1) L else et n e (i+1) L
 | _,[]=>[]
theorem De (w:E9) (Y:Lw) (r g q n p:Nat) (Q:List (Int×Nat)->Prop) (v:Int×Nat) (A:look? Y.me n=some v) (P:Y.LV.length<=900):∀(E:List Lv) (i:Nat) (a:Int) (j m t b e:Nat) (lo:List E6) (d:List (Int×Nat)),Y.LV.drop i=E->a=(E.length:Nat)->d.length+E.length<=900->dG w.params lo->(∀o:List (Int×Nat),o.map (λx=>x.1)=d.map (λx=>x.1)++et n v.1 i E->Q o)->ab (env w) (gb w Y r g q n p Q i a j m t b lo e d):=by
 let Ix:∀{w:E9} {lo:List E6} {Y:Lw} {r g q n p:Nat} {Q:List (Int×Nat)->Prop} {i:Nat} {a:Int} {j m t b e:Nat} {d:List (Int×Nat)} (l:Lv) (R:ao) (v:Int×Nat) (s:0<a) (B:(aD Y.LV)[i]? =some l.a) (h:(bq w.params Y.LV).Perm ([(l.a,cO w.params l.dd l.m l.ep)]++R)) (A:look? Y.me n=some v) (I:d.length<=1000) (P:(aD Y.LV).length<=1000) (V:i<=1000) (hp:aa l.m n=v.1) (C:∀(k:Nat) (f:Fb) (b e u:Nat),ab (env w) (gb w Y r g q n p Q (i+1) (a-1) 0 0 t b [es w.params [107] k f] e (d++[(((i:Nat):Int),u)]))),PP (env w) (gb w Y r g q n p Q i a j m t b lo e d):= @λw lo Y r g q n p Q i a j m t b e d l R v s B h A I P V hp C _ G=>
  .view [] [0] _ _ _ _ (bw h) (.seg 137455738881 λS=>.use _ (bY w g (↑i:Int) a 1 j m t ((↑i:Int)+1) (a-1) s rfl rfl) [1] [] λy H=>.seg 0x8001008008008003006003003 λO=>.use _ (bH Fs w Y.FA Y.fan y (↑i:Int) i (aD Y.LV) (l.a) rfl B (by omega)) [7] [] λx4 h4=>.seg 0x3001000000000003000003000000000003006 λO5=>.use _ (dF w (l.a) (l.dd) (l.m) (l.ep) n p) [2] [] λX h6=>.seg 0x9001009009009006008001 λO7=>.use _ (cu w Y.E (Fz "dict") none Y.ee n p Y.me v A) [8] [] λx8 h8=>.seg 1 λO9=>.use _ (g7 w (aa l.m n) (v.1) X (v.2) hp) [] [] λIy Iv=>.seg 100667397 λio=>.use _ (jb w q b d (((↑i:Int),y)) (by omega)) [5] [] λF M=>.seg 0 λIz=>.view [2] [0] _ _ _ _ (aX h.symm) (.use _ (C (kT lo (O 0)) (Gh (↑i:Int) y) (b+1) (kE lo e) y) [3,3,0,2,2,2,1,0] [0] λJ U=>have IC:Q J.1:=(Fx U);have ID:dG w.params J.2.2.1:=(Fg U);G (J.1,J.2.1,J.2.2.1,J.2.2.2) U [] [0,0,0,0,0,0,0] [0]))
 let Iw:∀{w:E9} {lo:List E6} {Y:Lw} {r g q n p:Nat} {Q:List (Int×Nat)->Prop} {i:Nat} {a:Int} {j m t b e:Nat} {d:List (Int×Nat)} (l:Lv) (R:ao) (v:Int×Nat) (s:0<a) (B:(aD Y.LV)[i]? =some l.a) (h:(bq w.params Y.LV).Perm ([(l.a,cO w.params l.dd l.m l.ep)]++R)) (A:look? Y.me n=some v) (I:d.length<=1000) (P:(aD Y.LV).length<=1000) (V:i<=1000) (hp:¬aa l.m n=v.1) (C:∀(k:Nat) (f:Fb) (b e:Nat),ab (env w) (gb w Y r g q n p Q (i+1) (a-1) 0 0 t b [es w.params [107] k f] e d)),PP (env w) (gb w Y r g q n p Q i a j m t b lo e d):= @λw lo Y r g q n p Q i a j m t b e d l R v s B h A I P V hp C _ G=>
  .view [] [0] _ _ _ _ (bw h) (.seg 137455738881 λS=>.use _ (bY w g (↑i:Int) a 1 j m t ((↑i:Int)+1) (a-1) s rfl rfl) [1] [] λy H=>.seg 0x8001008008008003006003003 λO=>.use _ (bH Fs w Y.FA Y.fan y (↑i:Int) i (aD Y.LV) (l.a) rfl B (by omega)) [7] [] λx4 h4=>.seg 0x3001000000000003000003000000000003006 λO5=>.use _ (dF w (l.a) (l.dd) (l.m) (l.ep) n p) [2] [] λX h6=>.seg 0x9001009009009006008001 λO7=>.use _ (cu w Y.E (Fz "dict") none Y.ee n p Y.me v A) [8] [] λx8 h8=>.seg 1 λO9=>.use _ (g8 w (aa l.m n) (v.1) X (v.2) hp) [] [] λIy Iv=>.seg 0 λio=>.view [1] [0] _ _ _ _ (aX h.symm) (.use _ (C (kT lo (O 0)) (Gh (↑i:Int) y) b (kE lo e)) [2,2,2,2,2,2,1,0] [0] λF M=>have IA:Q F.1:=(Fx M);have IB:dG w.params F.2.2.1:=(Fg M);G (F.1,F.2.1,F.2.2.1,F.2.2.2) M [] [0,0,0,0,0,0,0] [0]))
 intro E
 induction E with
 | nil=>
  intro i a j m t b e lo d Z s I N D
  have hq:Q d:=D d (by simp[et])
  have L:¬0<a:=by rw[s];simp
  rcases N with rfl | ⟨k,f,rfl⟩
  .exact ct (λ_ G=>.seg 68736258049 λS=>.use _ (cg w g (↑i:Int) a 1 j m t L) [0] [] λy H=>.seg 2 λO=>G (d,b,[],e) ⟨hq,.inl rfl⟩ [] [3,3,3,3,3,3,3] [0])
  .exact ct (λ_ G=>.seg 68736258049 λS=>.use _ (cg w g (↑i:Int) a 1 j m t L) [0] [] λy H=>.seg 2 λO=>G (d,b,[es w.params [107] k f],e) ⟨hq,.inr ⟨k,f,rfl⟩⟩ [] [3,3,3,3,3,3,3] [0])
 | cons l E C=>
  intro i a j m t b e lo d Z s I N D
  obtain⟨T,H⟩:=aQ Z
  rw[Fd]at I s
  have IE:i<Y.LV.length:=(Fa.mp T).1
  have L:0<a:=by omega
  obtain⟨R,h⟩:=tR w.params T
  have B:(aD Y.LV)[i]? =some l.a:=by unfold aD;rw[Fl,T];rfl
  have gt:(aD Y.LV).length<=1000:=by unfold aD;rw[Fq];omega
  unfold et at D
  by_cases hp:aa l.m n=v.1
  .rw [if_pos hp]at D
   have W:=λ(k:Nat) (f:Fb) (b e u:Nat)=>C (i+1) (a-1) 0 0 t b e [es w.params [107] k f] (d++[(((i:Nat):Int),u)]) H (by omega) (by rw[FW,List.length_singleton];omega) (.inr ⟨k,f,rfl⟩) λo h=>D o (by rw[h,Ff,Fp];rfl)
   rcases N with rfl | ⟨k,f,rfl⟩<;>exact av (Ix l R v L B h A (by omega) gt (by omega) hp W)
  .rw [if_neg hp]at D
   have W:=λ(k:Nat) (f:Fb) (b e:Nat)=>C (i+1) (a-1) 0 0 t b e [es w.params [107] k f] d H (by omega) (by omega) (.inr ⟨k,f,rfl⟩) λo h=>D o h
   rcases N with rfl | ⟨k,f,rfl⟩<;>exact av (Iw l R v L B h A (by omega) gt (by omega) hp W)
theorem Dd (w:E9) (Y:Lw) (b i a n j:Nat) (v:Int×Nat) (m:look? Y.me n=some v) (p:Y.LV.length<=900) (l:Int) (t d e f g:Nat) (k:l=(Y.LV.length:Nat)):ab (env w) {gb w Y b i a n j (λo=>o.map (λx=>x.1)=et n v.1 0 Y.LV) 0 l t d e f [] g []with c:=bB (oY w.params) 0 i a (aq w.params Y) b [(⟨⟨[110,97,109,101]⟩⟩,Y.c7),(⟨⟨[102,114,111,110,116]⟩⟩,Y.c10),(⟨⟨[101,97,114,108,121]⟩⟩,Y.c3)]}:=
 dq jP (o:=bG ((0:Nat):Int) l 1 t d e) rfl (by simp[gb]) (by kernel_rfl) (by kernel_rfl) rfl (De w Y b i a n j _ v m p Y.LV 0 l t d e f g [] [] rfl k (by simp;omega) (.inl rfl) λo h=>by simpa using h)
noncomputable def KF (P:E8) (x:List E6):Prop:=x=[]\/∃k v,x=[es P [107] k v]
noncomputable def AF (P:E8) (x:List E6):Prop:=x=[]\/∃k v,x=[es P [97,104,101,97,100] k v]
noncomputable def bz (P:E8) (Y:Lw) (l:Int) (k m:List E6) (f:Nat):Obj:=bv (fa P Y.k1 Y.k2 Y.k3 Y.v1 Y.v2 Y.v3++(k++(fj P Y++([es P [108,111,110,103,101,115,116] Y.k7 (.int l Y.tl),es P [98,97,99,107] Y.k8 (.ref Y.bk)]++m)))) f Y.sl
noncomputable def sG (w:E9) (Y:Lw) (n t:Nat) (l:Int) (k b:List E6) (f:Nat) (a:Int):af:={d:=60,α:=Nat×Nat×Nat,c:=.block [aA (e8 w.params) 0] (aq w.params Y),need:=[(Y.fr,bz w.params Y l k b f),(Y.c2,aj Y.H),(Y.c7,aK (.str ⟨⟨[n]⟩⟩ t)),(Y.c8,aj Y.W),(Y.c9,aj Y.V),(Y.H,dO w.params (.type "dict") none iv Y.mh Y.er),(Y.W,ae (Y.ws.map bf) Y.wn),(Y.V,ae (Y.hs.map iv) Y.vn)],new:=λx=>[(Y.fr,bz w.params Y l k [es w.params [97,104,101,97,100] x.1 (.int a x.2.1)] x.2.2),(Y.c2,aj Y.H),(Y.c7,aK (.str ⟨⟨[n]⟩⟩ t)),(Y.c8,aj Y.W),(Y.c9,aj Y.V),(Y.H,dO w.params (.type "dict") none iv Y.mh Y.er),(Y.W,ae (Y.ws.map bf) Y.wn),(Y.V,ae (Y.hs.map iv) Y.vn)]}
noncomputable def iS (a:Int):Nat->List Int
 | 0=>[]
 | n+1=>a::iS (a+1) n
noncomputable def nM (i S:Nat) (v l:Int) (n:Nat) (a:Nat):af:={d:=20,α:=List (Int×Nat)×Nat,c:=.builtin "list.extend.loop" ⟨[.ref S,.ref i,.none],[]⟩,need:=[(i,bG v l 1 0 0 0),(S,ae [] a)],r:=λ_=>.ok (.ret .none),new:=λx=>[(S,ae (x.1.map iv) x.2)],post:=λx=>x.1.map (λx=>x.1)=iS v n}
theorem DD (w:E9) (i S:Nat) (v l:Int) (n:Nat) (b:Nat) (r:l=(n:Nat)) (o:n=0\/n=1\/n=2\/n=3):ab (env w) (nM i S v l n b):=by
 rcases o with rfl | rfl | rfl | rfl
 .exact ct (λ_ a=>.seg 68736258049 λO=>.use _ (cg w i v l 1 0 0 0 (by omega)) [0] [] λx h=>.seg 2 λe=>a ([],b) rfl [] [3] [])
 .exact ct (λ_ a=>.seg 68736258049 λO=>.use _ (bY w i v l 1 0 0 0 (v+1) (l-1) (by omega) rfl rfl) [0] [] λx h=>.seg 0x1001001001002002002 λe=>.use _ (cg w i (v+1) (l-1) 1 0 0 0 (by omega)) [0] [] λd g=>.seg 2 λf=>a (([(v,x)],b+1)) rfl [] [3] [])
 .exact ct (λ_ a=>.seg 68736258049 λO=>.use _ (bY w i v l 1 0 0 0 (v+1) (l-1) (by omega) rfl rfl) [0] [] λx h=>.seg 0x1001001001002002002 λe=>.use _ (bY w i (v+1) (l-1) 1 0 0 0 ((v+1)+1) ((l-1)-1) (by omega) rfl rfl) [0] [] λd g=>.seg 0x1001001001002002002 λf=>.use _ (cg w i ((v+1)+1) ((l-1)-1) 1 0 0 0 (by omega)) [0] [] λj m=>.seg 2 λk=>a (([(v,x),((v+1),d)],b+1+1)) rfl [] [3] [])
 .exact ct (λ_ a=>.seg 68736258049 λO=>.use _ (bY w i v l 1 0 0 0 (v+1) (l-1) (by omega) rfl rfl) [0] [] λx h=>.seg 0x1001001001002002002 λe=>.use _ (bY w i (v+1) (l-1) 1 0 0 0 ((v+1)+1) ((l-1)-1) (by omega) rfl rfl) [0] [] λd g=>.seg 0x1001001001002002002 λf=>.use _ (bY w i ((v+1)+1) ((l-1)-1) 1 0 0 0 (((v+1)+1)+1) (((l-1)-1)-1) (by omega) rfl rfl) [0] [] λj m=>.seg 0x1001001001002002002 λk=>.use _ (cg w i (((v+1)+1)+1) (((l-1)-1)-1) 1 0 0 0 (by omega)) [0] [] λs q=>.seg 2 λp=>a (([(v,x),((v+1),d),(((v+1)+1),j)],b+1+1+1)) rfl [] [3] [])
noncomputable def fh (a b:Int) (t u k:Nat):Obj:={cls:=.type "range",data:=.fields #[.int a t,.int b u,.int 1 k]}
noncomputable def lD (S R d:Nat) (a b:Int) (t u k n:Nat):af:={d:=20,α:=List (Int×Nat)×Nat,c:=.builtin "list.__init__" ⟨[.ref S,.ref R],[]⟩,need:=[(S,ae [] d),(R,fh a b t u k)],r:=λ_=>.ok (.ret .none),new:=λx=>[(S,ae (x.1.map iv) x.2)],post:=λx=>x.1.map (λx=>x.1)=iS a n}
theorem BO (w:E9) (S R d:Nat) (a b:Int) (t u k n:Nat) (ha:0<=a/\a<=1000) (hb:a+((n:Nat):Int)=b) (hn:n=0\/n=1\/n=2\/n=3):ab (env w) (lD S R d a b t u k n):=by
 intro g Y q hE v p s y P Q
 have q:g.handled=none:=q.resolve_left (λz=>nomatch z)
 have Iv:bt (env w) 20 g:=⟨q,v⟩
 have B:Go (env w).kt s (lD S R d a b t u k n).own s [(S,ae [] d),(R,fh a b t u k)]:=Go.start P
 have o:s.heap.get? S=some (ae [] d):=P.has (S,_) E2
 have T:s.heap.get? R=some (fh a b t u k):=P.has (R,_) (E4 _ E2)
 have X:S≠R:=λe=>by rw[e,T]at o;simp[fh,ae]at o
 rw[F3]
 show wp _ _ (FM table g.code) _ _ p s
 rw[show g.code=.builtin "list.__init__" ⟨[.ref S,.ref R],[]⟩from Y,aE _ _ F.entry_list_init]
 show wp _ _ (Fy (.ref S)>>=_) _ _ p s
 unfold Fy
 rw[E7]
 refine aL (E3 (FN o rfl (E5 λp=>?_)))
 show wp _ _ (updateSeq S (λ_=> #[])>>=λ_=>letGo (#[]:Array Fb).toList.reverse>>=λ_=>Hj (.ref S) (.ref R) .none) _ _ p s
 rw[E7]
 refine aL (GV o rfl (λp=>?_) (by simp[Gw]) (by simp[Gw]))
 have C:FJ (λ_=>(#[]:Array Fb)) (ae [] d)=ae [] d:=e9 (vs':=[]) rfl
 have h:Go (env w).kt s (lD S R d a b t u k n).own {s with heap:=s.heap.update S (FJ λ_=> #[])} [(S,ae [] d),(R,fh a b t u k)]:=by
  have A:=(ap.start B.pre).set (FJ λ_=>(#[]:Array Fb)) (by exact E2) (by rw[C];rfl)
  rw[C]at A
  exact Go.step B A
 generalize Iy:({s with heap:=s.heap.update S (FJ λ_=> #[])}:Fe)=f at h⊢
 rw[E7]
 refine aL (H9 λp=>?_)
 have Iw:f.heap.get? S=some (ae [] d):=h.inv.has (S,_) E2
 have H:f.heap.get? R=some (fh a b t u k):=h.inv.has (R,_) (E4 _ E2)
 unfold Hj
 rw[E7]
 refine aL (wpAny_typeOf (T:="range") ⟨_,H,rfl⟩ λp=>?_)
 have M:Builtin.List.listSameRef (.ref S) (.ref R)=false:=by simp[Builtin.List.listSameRef,X]
 have N:(Fz "range"==Fz "list")=false:=by decide
 have O:(Fz "range"==Fz "tuple")=false:=by decide
 simp only[M,N,O,Bool.or_false,Ge,if_false]
 have I:Builtin.Range.rangeSize a b 1=((n:Nat):Int):=by rw[rangeSize_one];split<;>omega
 rw[E7]
 refine aL (wpAny_pyIter_range H (small_one (by omega) (by omega) (by omega) (by omega)) λp=>?_)
 rw[I]
 have i:=Go.step h ((ap.start h.pre).push (bG a ((n:Nat):Int) 1 0 0 0) rfl)
 show wp _ _ _ _ _ p ({f with heap:=f.heap.push (bG a ((n:Nat):Int) 1 0 0 0)}:Fe)
 generalize Iz:({f with heap:=f.heap.push (bG a ((n:Nat):Int) 1 0 0 0)}:Fe)=l at i⊢
 have U:l.heap.get? R=some (fh a b t u k):=i.inv.has (R,_) (E4 _ (E4 _ E2))
 have Ix:l.heap.get? S=some (ae [] d):=i.inv.has (S,_) (E4 _ E2)
 rw[E7,HQ]
 refine aL (wpAny_hint_range U I (by omega) λp=>?_)
 have j:=Go.step i ((ap.start i.pre).toks (l.toks+1+1))
 generalize IA:({l with toks:=l.toks+1+1}:Fe)=r at j⊢
 have V:r.heap.get? S=some (ae [] d):=j.inv.has (S,_) (E4 _ E2)
 have J:∀(d:Nat) (s4:Fe) (p:Pos),Go (env w).kt s (lD S R d a b t u k n).own s4 [(f.heap.objs.size,bG a ((n:Nat):Int) 1 0 0 0),(S,ae [] d),(R,fh a b t u k)]->finPost (FT pq w) g y (.again (.builtin "list.extend.loop" ⟨[.ref S,.ref f.heap.objs.size,.none],[]⟩)) p s4:=by
  intro d s4 p G
  have gt:=DD w f.heap.objs.size S a ((n:Nat):Int) n d rfl hn (g.goto (.builtin "list.extend.loop" ⟨[.ref S,.ref f.heap.objs.size,.none],[]⟩)) rfl (.inr q) (λes Z=>nomatch Z) ⟨v.cnt,v.units⟩ p s4 y (Go.sub (U:=(nM f.heap.objs.size S a ((n:Nat):Int) n d).all) (r:=[(R,fh a b t u k)]) (Go.eq G rfl)).pre (λio s5 hy m=>Q io s5 hy ((Go.stepR (U:=(nM f.heap.objs.size S a ((n:Nat):Int) n d).all) (r:=[(R,fh a b t u k)]) (Go.eq G rfl) m).sub).after)
  exact⟨plainId_quiet F.plain_extend_loop _,gt⟩
 split
 .rw [E7]
  refine aL (GZ λp=>?_)
  show wp _ _ ((updateSeq S (·.push .none)>>=λ_=>updateSeq S (·.pop))>>=_) _ _ p r
  rw[E7,E7]
  refine aL (GV V rfl (λp=>?_) (by simp[Gw]) (by simp[Gw]))
  have D:FJ (·.push FY) (ae [] d)=ae [.none] (d+1):=e9 (vs':=[.none]) rfl
  have x:=(ap.start (j.perm (.swap ..)).pre).set (FJ (·.push FY)) (by exact E2) (by rw[D];rfl)
  rw[D]at x
  have G:=Go.step (j.perm (.swap ..)) x
  generalize IB:({r with heap:=r.heap.update S (FJ (·.push FY))}:Fe)=s4 at G⊢
  have W:s4.heap.get? S=some (ae [.none] (d+1)):=G.inv.has (S,_) E2
  refine aL (GV W rfl (λp=>?_) (by simp[Gw]) (by simp[Gw]))
  have E:FJ (·.pop) (ae [.none] (d+1))=ae [] (d+1+1):=e9 (vs':=[]) rfl
  have m:=(ap.start G.pre).set (FJ (·.pop)) (by exact E2) (by rw[E];rfl)
  rw[E]at m
  have L:=Go.step G m
  exact J (d+1+1) _ p (L.perm (.swap ..))
 .exact J _ _ p j
noncomputable def rG (w:E9) (Y:Lw) (n d k t:Nat) (a:Int) (l:Int) (b:List E6) (f:Nat) (e:Int):af:={d:=60,α:=Nat×List (Int×Nat)×Nat,need:=[(Y.fr,bz w.params Y l b [es w.params [97,104,101,97,100] k (.int a t)] f),(Y.c3,aj Y.E),(Y.c7,aK (.str ⟨⟨[n]⟩⟩ d)),(Y.c10,aj Y.FA),(Y.E,dO w.params (.type "dict") none iv Y.me Y.ee),(Y.FA,ae ((aD Y.LV).map .ref) Y.fan)],r:=λx=>.ok (.ret (.ref x.1)),new:=λx=>[(Y.fr,bz w.params Y l b [es w.params [97,104,101,97,100] k (.int a t)] f),(Y.c3,aj Y.E),(Y.c7,aK (.str ⟨⟨[n]⟩⟩ d)),(Y.c10,aj Y.FA),(Y.E,dO w.params (.type "dict") none iv Y.me Y.ee),(Y.FA,ae ((aD Y.LV).map .ref) Y.fan),(x.1,ae (x.2.1.map iv) x.2.2)],post:=λx=>x.2.1.map (λx=>x.1)=et n e 0 Y.LV,needB:=[bq w.params Y.LV],putB:=λ_=>[bq w.params Y.LV]}
noncomputable def rE (w:E9) (Y:Lw) (d e k t:Nat) (a:Int) (l:Int) (b:List E6) (f:Nat) (n:Nat):af:={d:=60,α:=Nat×List (Int×Nat)×Nat,need:=[(Y.fr,bz w.params Y l b [es w.params [97,104,101,97,100] k (.int a t)] f),(Y.c2,aj Y.H),(Y.c7,aK (.str ⟨⟨[d]⟩⟩ e)),(Y.H,dO w.params (.type "dict") none iv Y.mh Y.er)],r:=λx=>.ok (.ret (.ref x.1)),new:=λx=>[(Y.fr,bz w.params Y l b [es w.params [97,104,101,97,100] k (.int a t)] f),(Y.c2,aj Y.H),(Y.c7,aK (.str ⟨⟨[d]⟩⟩ e)),(Y.H,dO w.params (.type "dict") none iv Y.mh Y.er),(x.1,ae (x.2.1.map iv) x.2.2)],post:=λx=>x.2.1.map (λx=>x.1)=iS a n}
noncomputable def rI (w:E9) (Y:Lw) (n d k t:Nat) (a:Int) (l:Int) (b:List E6) (f:Nat) (m:MI) (s:Nat) (z:Int):af:={d:=60,α:=Nat×Nat×Nat,c:=.block [aA (e8 w.params) 2] (aq w.params Y),need:=[(Y.fr,bz w.params Y l b [es w.params [97,104,101,97,100] k (.int a t)] f),(Y.c7,aK (.str ⟨⟨[n]⟩⟩ d)),(Y.c8,aj Y.W),(Y.c9,aj Y.V),(Y.c11,aj Y.SD),(Y.W,ae (Y.ws.map bf) Y.wn),(Y.V,ae (Y.hs.map iv) Y.vn),(Y.SD,dO w.params (.type "dict") none iv m s)],new:=λx=>[(Y.fr,bz w.params Y l b [es w.params [97,104,101,97,100] k (.int a t)] f),(Y.c7,aK (.str ⟨⟨[n]⟩⟩ d)),(Y.c8,aj Y.W),(Y.c9,aj Y.V),(Y.c11,aj Y.SD),(Y.W,ae (Y.ws.map bf) Y.wn),(Y.V,ae (Y.hs.map iv) Y.vn),(Y.SD,dO w.params (.type "dict") none iv (aw m n x.1 (z,x.2.1)) x.2.2)]}
noncomputable def jH {A:Type} (a:List Nat) (l:List A):Option (List A×List A):=match a with
 | []=>some ([],l)
 | i::a=>match fn l i with
  | some y=>match jH a (gw l i)with
   | some (q,r)=>some (y::q,r)
   | none=>none
  | none=>none
theorem eG {A:Type}:∀{d:List Nat} {l e r:List A},jH d l=some (e,r)->take d e l (· =r)
 | [],l,e,r,h=>by
  unfold jH at h
  injection h with h;injection h with a b
  subst a;exact b
 | i::d,l,e,r,h=>by
  unfold jH at h
  cases a:fn l i with
  | none=>rw[a]at h;cases h
  | some y=>
   rw[a]at h
   dsimp only at h
   cases b:jH d (gw l i)with
   | none=>rw[b]at h;cases h
   | some z=>
    obtain⟨q,j⟩:=z
    rw[b]at h
    injection h with h;injection h with f g
    subst f;subst g
    show(match fn l i with| some x=>x=y/\take d q (gw l i) (· =j) | none=>False)
    rw[a]
    exact⟨rfl,eG b⟩
noncomputable def yr (b:Nat) (a:List Nat) (t i c:Nat):af:={d:=5,α:=Nat,need:=[(b,cq a t i)],r:=λu=>.ok (.ret (.str ⟨⟨[c]⟩⟩ u)),put:=λu=>[cq a t (i+1)]}
theorem Bg {w:E9} {b t i c:Nat} {a:List Nat} (h:a[i]? =some c):ax (env w) (yr b a t i c) (tF (tN b)):=tk _ (λ_ d=>.seg 16781313 λO=>.use _ (eH w b t i a c h) [0] [] λx f=>.seg 0 λe=>d (x) trivial [0] [] [])
theorem q9 {w:E9} {T:af} (h:ab (env w) T) {b:Ctx} {d:Code} (j:T.c=d) (k:b.handled=none) (l:T.outer=none) (f:dQ T.d b) {g s:Fe} {own:List Addr} {A r:List ao} {p:Pos} (o:List Nat) (G:Go (env w).kt g own s A.flatten) (m:take o (bg T.need++T.needB) A (· =r)) {F:HI->Fe->Prop}
 (i:∀x a,T.post x->Go (env w).kt g own a (bp T x r).flatten->F (T.r x) a):wpCode (FT pq w) (b.goto d) F p s:=by
 have e:=G.perm (gS m)
 exact h (b.goto d) j.symm (.inr k) (λes z=>by rw[l]at z;cases z) ⟨f.cnt,f.units⟩ p s F e.sub.pre λx a n A=>i x a n (Go.eq (e.stepR A) (eK x r))
theorem EN (w:E9) (Y:Lw) (n t:Nat) (s:Int) (k J:List E6) (gt:KF w.params k) (X:AF w.params J) (f:Nat) (a:Int) (v:Int×Nat) (g:look? Y.mh n=some v) (M:Int) (e:∀o:List (Int×Nat),o.map (λx=>x.1)=bT (dL n) (Y.ws.map (λx=>x.1)) (Y.hs.map (λx=>x.1))->o≠[]/\cU o=M) (h:M-v.1=a) (io:Y.ws.length=Y.hs.length) (B:∀x∈Y.ws,x.1.length<=900) (q:Y.ws.length<=900):ax (env w) (sG w Y n t s k J f a) (Dn (.block [aA (e8 w.params) 0] (aq w.params Y))):=by
 let Iw:∀{w:E9} {lo:List E6} {k:List E6} {Y:Lw} {n t:Nat} {s:Int} {f:Nat} {a:Int} (v:Int×Nat) (g:look? Y.mh n=some v) (M:Int) (e:∀o:List (Int×Nat),o.map (λx=>x.1)=bT (dL n) (Y.ws.map (λx=>x.1)) (Y.hs.map (λx=>x.1))->o≠[]/\cU o=M) (h:M-v.1=a) (q:Y.ws.length<=900) (p:∀(m r j:Nat) (i:Int) (E F G A C:Nat),i=(Y.ws.length:Nat)->ab (env w) {gd w Y m r j n t (λo=>o.map (λx=>x.1)=bT (dL n) (Y.ws.map (λx=>x.1)) (Y.hs.map (λx=>x.1))) 0 i E F G A [] C []with c:=bB (o1 w.params) 0 r j (aq w.params Y) m [(⟨⟨[119,97,121,115]⟩⟩,Y.c8),(⟨⟨[110,97,109,101]⟩⟩,Y.c7),(⟨⟨[104,101,97,118,121]⟩⟩,Y.c9)]}),PP (env w) (sG w Y n t s k lo f a):= @λw lo k Y n t s f a v g M e h q p _ R=>
  .seg 0x1004000000000000000000 λO1=>.use _ (dv bf w Y.W Y.wn Y.ws (Fo Y.ws) rfl (by omega)) [6] [] λx2 h2=>.seg 0x1001001001001001001001001001001001001001 λy=>.use _ (gQ w (y 2) 0 ((↑(Fo Y.ws):Int)) (y 0) x2 (y 1) (if 0<(↑(Fo Y.ws):Int)then(↑(Fo Y.ws):Int)-0 else 0) (by trivial) (by omega) rfl) [0] [] λx4 h4=>.seg 2 λO=>.use _ (p (O 1) x4 (O 0) (if 0<(↑(Fo Y.ws):Int)then(↑(Fo Y.ws):Int)-0 else 0) 0 0 0 0 0 (by omega)) [3,0,0,4,4,4,1,4] [] λb P=>have Q:(λ(o:List (Int×Nat))=>Gx (λ(x:Int×Nat)=>x.1) o=bT (dL n) (Gx (λ(x:List Nat×Nat)=>x.1) Y.ws) (Gx (λ(x:Int×Nat)=>x.1) Y.hs)) b.1:=(Fx P);have W:dG w.params b.2.2.1:=(Fg P);have L:b.1≠[]:=(e _ Q).1;have N:cU b.1=M:=(e _ Q).2; .or _ _ (W) (λD=>.view [0] [] _ _ _ _ ((bC (a:=O 1) (congrArg (λl=>oD l b.2.2.2) D))) (.seg 0x1001002001002002001001001 λd=>.use _ (i6 w (d 0) (O 0) (b.2.1) (d 1) 0 (b.1) M L N) [1,2,0] [] λI B=>.seg 0xb00100b00b00b00300a λS=>.use _ (cu w Y.H (Fz "dict") none Y.er n t Y.mh v g) [10] [] λIx U=>.seg 1 λT=>.use _ (bx w M (v.1) I (v.2) a h) [] [] λH V=>.seg 40970 λu=>R ((kT lo (u 0)),H,(kE lo f)) trivial [] [9,9,3,3,3,0,2,2] [])) (λD=>.pick _ _ (D) λki Z=>.pick _ _ (Z) λvi Iv=>.view [0] [] _ _ _ _ ((bC (a:=O 1) (congrArg (λl=>oD l b.2.2.2) Iv))) (.seg 0x1001002001002002001001001001001 λd=>.use _ (i6 w (d 0) (O 0) (b.2.1) (d 1) 0 (b.1) M L N) [1,2,0] [] λI B=>.seg 0xb00100b00b00b00300a λS=>.use _ (cu w Y.H (Fz "dict") none Y.er n t Y.mh v g) [10] [] λIx U=>.seg 1 λT=>.use _ (bx w M (v.1) I (v.2) a h) [] [] λH V=>.seg 40970 λu=>R ((kT lo (u 0)),H,(kE lo f)) trivial [] [9,9,3,3,3,0,2,2] []))
 have p:=λ(m r j:Nat) (i:Int) (E F G A C:Nat) (hl:i=(Y.ws.length:Nat))=>Df w Y m r j n t io B q i E F G A C hl
 rcases gt with rfl | ⟨k4,v4,rfl⟩<;>rcases X with rfl | ⟨k9,v9,rfl⟩<;>exact aG _ (Iw v g M e h q p)
theorem xq (w:E9) (Y:Lw) (n t m p:Nat) (a:Int) (b:Int) (k:List E6) (L:KF w.params k) (h:Nat) (v:Int×Nat) (M:look? Y.me n=some v) (s:b=(Y.LV.length:Nat)) (P:Y.LV.length<=900):ax (env w) (rG w Y n t m p a b k h v.1) (tV (Is (fR (bI (aA (e8 w.params) 1))) (aq w.params Y))):=by
 let Q:∀{w:E9} {k:List E6} {Y:Lw} {n t m p:Nat} {a:Int} {b:Int} {h:Nat} {e:Int} (s:0<=b/\b<=1000) (F:(if 0<b then b-0 else 0)=b) (i:∀(g j f:Nat) (A B C r u:Nat),ab (env w) {gb w Y g j f n t (λo=>o.map (λx=>x.1)=et n e 0 Y.LV) 0 b A B C r [] u []with c:=bB (oY w.params) 0 j f (aq w.params Y) g [(⟨⟨[110,97,109,101]⟩⟩,Y.c7),(⟨⟨[102,114,111,110,116]⟩⟩,Y.c10),(⟨⟨[101,97,114,108,121]⟩⟩,Y.c3)]}),PP (env w) (rG w Y n t m p a b k h e):= @λw k Y n t m p a b h e s F i _ G=>
  .seg 0x1001001001001001001001001001001001001001001000000 λq=>
  .use _ (gQ w (q 2) 0 b (q 0) Y.tl (q 1) b (by trivial) (by omega) F) [0] [] λR S=>
  .seg 2 λO=>
  .use _ (i (O 1) R (O 0) 0 0 0 0 0) [3,0,0,3,3,2,3,2] [0] λd D=>have E:(λ(o:List (Int×Nat))=>Gx (λ(x:Int×Nat)=>x.1) o=et n e 0 Y.LV) d.1:=(Fx D);have I:dG w.params d.2.2.1:=(Fg D);
  .or _ _ (I)
  (λy=>.view [0] [] _ _ _ _ ((bC (a:=O 1) (congrArg (λl=>oD l d.2.2.2) y)))
  (.seg 1 λH=>
  G (O 0,d.1,d.2.1) E [] [8,4,2,2,3,2,1] [0]))
  (λy=>.pick _ _ (y) λU J=>
  .pick _ _ (J) λW N=>
  .view [0] [] _ _ _ _ ((bC (a:=O 1) (congrArg (λl=>oD l d.2.2.2) N)))
  (.seg 16781313 λH=>
  G (O 0,d.1,d.2.1) E [] [8,4,2,2,3,2,1] [0]))
 have i:=λ(g j f:Nat) (A B C r u:Nat)=>Dd w Y g j f n t v M P b A B C r u s
 rcases L with rfl | ⟨T,V,rfl⟩<;>exact aG _ (Q (by omega) (by split<;>omega) i)
theorem xh (w:E9) (Y:Lw) (d e i t:Nat) (a:Int) (l:Int) (k:List E6) (q:KF w.params k) (f:Nat) (v:Int×Nat) (g:look? Y.mh d=some v) (n:Nat) (h:0<=a/\a<=1000) (r:v.1=(n:Nat)) (j:n<=3):ax (env w) (rE w Y d e i t a l k f n) (tV (Is (dM (bI (aA (e8 w.params) 1))) (aq w.params Y))):=by
 let s:∀{w:E9} {k:List E6} {Y:Lw} {d e i t:Nat} {a:Int} {l:Int} {f:Nat} (v:Int×Nat) (g:look? Y.mh d=some v) {n:Nat} (b:Int) (h:0<=a/\a<=1000) (o:a+v.1=b) (m:a+((n:Nat):Int)=b) (j:n=0\/n=1\/n=2\/n=3),PP (env w) (rE w Y d e i t a l k f n):= @λw k Y d e i t a l f v g n b h o m j _ y=>
  .seg 0x4001004004004003002001001000000000000 λA=>
  .use _ (cu w Y.H (Fz "dict") none Y.er d e Y.mh v g) [3] [] λH D=>
  .seg 1 λB=>
  .use _ (b8 w a (v.1) t (v.2) b o) [] [] λu E=>
  .seg 0x1001001001001001001001001001001001001001001001001001 λO=>
  .use _ (BO w (O 2) (O 1) 0 a b t u (O 0) n h m j) [0,0] [] λx p=>
  .seg 0 λC=>
  y (O 2,x.1,x.2) p [] [2,2,2,1,0] []
 rcases q with rfl | ⟨F,G,rfl⟩<;>exact aG _ (s v g _ h rfl (by rw[r]) (by omega))
theorem xX (w:E9) (Y:Lw) (n t y A:Nat) (a:Int) (d:Int) (k:List E6) (Iv:KF w.params k) (q:Nat) (m:MI) (s:Nat) (z:Int) (M:Int) (h:∀o:List (Int×Nat),o.map (λx=>x.1)=bT (dK n) (Y.ws.map (λx=>x.1)) (Y.hs.map (λx=>x.1))->o≠[]/\cU o=M) (f:d-M=z) (Iw:Y.ws.length=Y.hs.length) (D:∀x∈Y.ws,x.1.length<=900) (u:Y.ws.length<=900) (E:m.length<=900):ax (env w) (rI w Y n t y A a d k q m s z) (Dn (.block [aA (e8 w.params) 2] (aq w.params Y))):=by
 let Iy:∀{w:E9} {k:List E6} {Y:Lw} {n t y A:Nat} {a:Int} {d:Int} {q:Nat} {m:MI} {s:Nat} {z:Int} (M:Int) (h:∀o:List (Int×Nat),o.map (λx=>x.1)=bT (dK n) (Y.ws.map (λx=>x.1)) (Y.hs.map (λx=>x.1))->o≠[]/\cU o=M) (f:d-M=z) (u:Y.ws.length<=900) (E:m.length<=900) (r:∀(p v j:Nat) (g:Int) (H I J C F:Nat),g=(Y.ws.length:Nat)->ab (env w) {ga w Y p v j n t (λo=>o.map (λx=>x.1)=bT (dK n) (Y.ws.map (λx=>x.1)) (Y.hs.map (λx=>x.1))) 0 g H I J C [] F []with c:=bB (oX w.params) 0 v j (aq w.params Y) p [(⟨⟨[119,97,121,115]⟩⟩,Y.c8),(⟨⟨[110,97,109,101]⟩⟩,Y.c7),(⟨⟨[104,101,97,118,121]⟩⟩,Y.c9)]}),PP (env w) (rI w Y n t y A a d k q m s z):= @λw k Y n t y A a d q m s z M h f u E r _ T=>
  .seg 0x1003000000000000000000001 λO1=>
  .use _ (dv bf w Y.W Y.wn Y.ws (Fo Y.ws) rfl (by omega)) [5] [] λx2 h2=>
  .seg 0x1001001001001001001001001001001001001001 λB=>
  .use _ (gQ w (B 2) 0 ((↑(Fo Y.ws):Int)) (B 0) x2 (B 1) (if 0<(↑(Fo Y.ws):Int)then(↑(Fo Y.ws):Int)-0 else 0) (by trivial) (by omega) rfl) [0] [] λx4 h4=>
  .seg 2 λO=>
  .use _ (r (O 1) x4 (O 0) (if 0<(↑(Fo Y.ws):Int)then(↑(Fo Y.ws):Int)-0 else 0) 0 0 0 0 0 (by omega)) [3,0,0,3,3,3,1,3] [] λb R=>have S:(λ(o:List (Int×Nat))=>Gx (λ(x:Int×Nat)=>x.1) o=bT (dK n) (Gx (λ(x:List Nat×Nat)=>x.1) Y.ws) (Gx (λ(x:Int×Nat)=>x.1) Y.hs)) b.1:=(Fx R);have gt:dG w.params b.2.2.1:=(Fg R);
  have P:b.1≠[]:=(h _ S).1;
  have Q:cU b.1=M:=(h _ S).2;
  .or _ _ (gt)
  (λG=>.view [0] [] _ _ _ _ ((bC (a:=O 1) (congrArg (λl=>oD l b.2.2.2) G)))
  (.seg 0x1001002001002002001001001 λe=>
  .use _ (i6 w (e 0) (O 0) (b.2.1) (e 1) 0 (b.1) M P Q) [1,2,0] [] λN D=>
  .seg 1 λU=>
  .use _ (bx w d M Y.tl N z f) [] [] λi X=>
  .seg 0xb00100b00b00300a λV=>
  .use _ (f6 w Y.SD none s n t m z i (by omega)) [10] [] λL Z=>
  .seg 0 λW=>
  T (t,i,L) trivial [] [9,3,3,3,6,3,3,0] []))
  (λG=>.pick _ _ (G) λki io=>
  .pick _ _ (io) λvi Ix=>
  .view [0] [] _ _ _ _ ((bC (a:=O 1) (congrArg (λl=>oD l b.2.2.2) Ix)))
  (.seg 0x1001002001002002001001001001001 λe=>
  .use _ (i6 w (e 0) (O 0) (b.2.1) (e 1) 0 (b.1) M P Q) [1,2,0] [] λN D=>
  .seg 1 λU=>
  .use _ (bx w d M Y.tl N z f) [] [] λi X=>
  .seg 0xb00100b00b00300a λV=>
  .use _ (f6 w Y.SD none s n t m z i (by omega)) [10] [] λL Z=>
  .seg 0 λW=>
  T (t,i,L) trivial [] [9,3,3,3,6,3,3,0] []))
 have r:=λ(p v j:Nat) (g:Int) (H I J C F:Nat) (hl:g=(Y.ws.length:Nat))=>Db w Y p v j n t Iw D u g H I J C F hl
 rcases Iv with rfl | ⟨k4,v4,rfl⟩<;>exact aG _ (Iy M h f u E r)
noncomputable def zf (Y:Lw) (o:Obj) (v:Fb):af:={d:=5,α:=Unit,need:=[(Y.c7,o)],put:=λ_=>[aK v]}
noncomputable def gK (w:E9) (Y:Lw) (a S:Nat) (l:Int) (Q:MI->Prop) (k b:List E6) (i f d t s:Nat) (m:MI):af:={d:=75,α:=MI×(Nat×Int×Nat)×Nat×Nat×Nat×Nat,c:=bR (aA (aI w.params) 19) (.ref a) (aq w.params Y),need:=[(a,cq Y.cps Y.tN i),(Y.fr,bz w.params Y l k b f),(Y.c2,aj Y.H),(Y.c3,aj Y.E),(Y.c7,aK (.str ⟨⟨[d]⟩⟩ t)),(Y.c8,aj Y.W),(Y.c9,aj Y.V),(Y.c10,aj Y.FA),(Y.c11,aj S),(Y.H,dO w.params (.type "dict") none iv Y.mh Y.er),(Y.E,dO w.params (.type "dict") none iv Y.me Y.ee),(Y.W,ae (Y.ws.map bf) Y.wn),(Y.V,ae (Y.hs.map iv) Y.vn),(Y.FA,ae ((aD Y.LV).map .ref) Y.fan),(S,dO w.params (.type "dict") none iv m s)],new:=λx=>[(Y.fr,bz w.params Y l k [es w.params [97,104,101,97,100] x.2.1.1 (.int x.2.1.2.1 x.2.1.2.2)] x.2.2.1),(Y.c2,aj Y.H),(Y.c3,aj Y.E),(Y.c7,aK (.str ⟨⟨[x.2.2.2.1]⟩⟩ x.2.2.2.2.1)),(Y.c8,aj Y.W),(Y.c9,aj Y.V),(Y.c10,aj Y.FA),(Y.c11,aj S),(Y.H,dO w.params (.type "dict") none iv Y.mh Y.er),(Y.E,dO w.params (.type "dict") none iv Y.me Y.ee),(Y.W,ae (Y.ws.map bf) Y.wn),(Y.V,ae (Y.hs.map iv) Y.vn),(Y.FA,ae ((aD Y.LV).map .ref) Y.fan),(S,dO w.params (.type "dict") none iv x.1 x.2.2.2.2.2)],post:=λx=>Q x.1,needB:=[bq w.params Y.LV],putB:=λ_=>[bq w.params Y.LV]}
theorem yd (w:E9) (Y:Lw) (Q:MI->Prop) (d:List E6) (j:KF w.params d) (k e:Nat) (a:Int) (i f b t s:Nat) (m:MI) (h:Y.cps[i]? =none) (g:Q m):ab (env w) (gK w Y Y.it Y.SD Y.lg Q d [es w.params [97,104,101,97,100] k (.int a e)] i f b t s m):=by
 rcases j with rfl | ⟨q,v,rfl⟩<;>exact av (λ_ l=>.seg 68736258049 λO=>.use _ (cJ w Y.it Y.tN i Y.cps h) [0] [] λx p=>.seg 2 λn=>.seg 1 λo=>l ((m,(k,a,e),f,b,t,s)) g [] [3,3,3,3,3,3,3,3,3,3,3,3,3,3] [0])
theorem xZ (P:E8) (Y:Lw) (e:Env):bR (aA (aI P) 19) (.ref Y.it) e=.forLoop (ej (aA (aI P) 19)) (.ref Y.it) (e8 P) [] e:=by kernel_rfl
theorem xY (P:E8) (i v:Fb):Gr (ej (aA (aI P) 19)) i v=pure ():=l7 (by kernel_rfl) i v
structure kQ (c:Nat) (mh me:MI) (ws:List (List Nat×Nat)) (hs:List (Int×Nat)) (LV:List Lv) (lg a z:Int):Prop where
 a0:0<=a/\a<=1000
 hh:∃v:Int×Nat,look? mh c=some v/\0<=v.1/\v.1<=3/\(∀o:List (Int×Nat),o.map (λx=>x.1)=bT (dL c) (ws.map (λx=>x.1)) (hs.map (λx=>x.1))->o≠[]/\cU o-v.1=a)
 he:∃v:Int×Nat,look? me c=some v/\∃k,look? mh c=some k/\et c v.1 0 LV=iS a k.1.toNat
 hz:∀o:List (Int×Nat),o.map (λx=>x.1)=bT (dK c) (ws.map (λx=>x.1)) (hs.map (λx=>x.1))->o≠[]/\lg-cU o=z
theorem ya (w:E9) (Y:Lw) (l:Int) (Q:MI->Prop) (k p:List E6) (n:KF w.params k) (T:AF w.params p) (i j A H s:Nat) (m:MI) (c:Nat) (a z:Int) (U:Y.cps[i]? =some c) (C:kQ c Y.mh Y.me Y.ws Y.hs Y.LV l a z) (V:l=(Y.LV.length:Nat)) (P:Y.LV.length<=900) (E:Y.ws.length=Y.hs.length) (B:∀x∈Y.ws,x.1.length<=900) (G:Y.ws.length<=900) (X:m.length<=900) (Z:∀(k9 ta j u x y s:Nat),ab (env w) (gK w Y Y.it Y.SD l Q k [es w.params [97,104,101,97,100] k9 (.int a ta)] (i+1) j c u s (aw m c x (z,y)))):ab (env w) (gK w Y Y.it Y.SD l Q k p i j A H s m):=by
 obtain⟨v,q,gt,io,D⟩:=C.hh
 obtain⟨ve,W,vk,F,N⟩:=C.he
 obtain rfl:v=vk:=by rw[q]at F;cases F;rfl
 obtain⟨M,R⟩:∃M,M-v.1=a:=⟨a+v.1,by omega⟩
 obtain⟨I,S⟩:∃M,l-M=z:=⟨l-z,by omega⟩
 exact gC (xZ w.params Y _) (xY w.params) (v1:=λu=>.str ⟨⟨[c]⟩⟩ u) (Bg (t:=Y.tN) U) (λu _=>tk _ (λ_ t=>.seg 4097 λO=>t () trivial [0] [] []:PP (env w) (zf Y (aK (.str ⟨⟨[A]⟩⟩ H)) (.str ⟨⟨[c]⟩⟩ u)))) (N:=λb:Nat×Nat×Nat×Nat×Nat×Nat×Nat=>gK w Y Y.it Y.SD l Q k [es w.params [97,104,101,97,100] b.1 (.int a b.2.1)] (i+1) b.2.2.1 c b.2.2.2.1 b.2.2.2.2.2.2 (aw m c b.2.2.2.2.1 (z,b.2.2.2.2.2.1))) (P:=λ_=>True) (λb _=>Z _ _ _ _ _ _ _) rfl (λb y h=>⟨y,h,rfl,rfl⟩) (λb=>⟨rfl,rfl,rfl⟩) [0] [4] (λu _ _ _=>
  .blk _ _ ((EN w Y c u l k p n T j a v q M (λo g=>⟨(D o g).1,by have:=(D o g).2;omega⟩) R E B G).c _) .next 1 [2,2,0,2,2,4,5,5] λd _=>
  .cmp _ _ (λ(e f:Nat×List (Int×Nat)×Nat)=>{bl [(e.1,ae (e.2.1.map iv) e.2.2),(f.1,ae (f.2.1.map iv) f.2.2)] (.ret (.bool false))with d:=20}) .NotEq _ (λx:Nat×List (Int×Nat)×Nat=>x.1) (λx:Nat×List (Int×Nat)×Nat=>x.1) true false [0,8,1,7,8,8,9] [0,7,1,8] [9,4] (xq w Y c u d.1 d.2.1 a l k n d.2.2 ve W V P) (xh w Y c u d.1 d.2.1 a l k n d.2.2 v q v.1.toNat C.a0 (by omega) (by omega)) (λ_ _=>rfl)
  (λe f J L=>aG _ (λ_ t=>.seg 281543712972801 λO=>.use _ (BM w e.1 e.2.2 f.1 f.2.2 e.2.1 f.2.1 (J.trans (N.trans L.symm))) [0,0] [] λd h2=>.seg 0 λO3=>t () trivial [0,0] [] [])) λ_ _ _ _ _ _=>
  .blk _ _ ((xX w Y c u d.1 d.2.1 a l k n d.2.2 m s z I (λo g=>⟨(C.hz o g).1,by have:=(C.hz o g).2;omega⟩) S E B G X).c _) .next 1 [2,3,9,9,12,9,9,10] λr _=>
  .fin (.inl (d.1,d.2.1,d.2.2,u,r.1,r.2.1,r.2.2)) trivial 99 [17,0,9,10,0,0,0,7,0,5,5,0,0,3,0,2]) (by kernel_rfl)
theorem ef {m:MI} {l:List Nat} {f:Nat->Int} (h:aH m=l.map λc=>(c,f c)):ak m=l:=by
 have:=congrArg (Gx (λx:Nat×Int=>x.1)) h
 unfold aH at this
 unfold ak
 rw[GU,GU]at this
 simpa[Function.comp_def]using this
theorem yc (w:E9) (Y:Lw) (Q:MI->Prop) (n:List E6) (p:KF w.params n) (J:Y.cps.Nodup) (H:Y.lg=(Y.LV.length:Nat)) (D:Y.LV.length<=900) (G:Y.ws.length=Y.hs.length) (A:∀x∈Y.ws,x.1.length<=900) (L:Y.ws.length<=900) (N:Y.cps.length<=5) (zF:Nat->Int) (B:∀c∈Y.cps,∃a,kQ c Y.mh Y.me Y.ws Y.hs Y.LV Y.lg a (zF c)) (E:∀m,aH m=Y.cps.map (λc=>(c,zF c))->Q m):∀(r:List Nat) (i f d t s:Nat) (b:List E6) (m:MI),Y.cps.drop i=r->i<=Y.cps.length->AF w.params b->(r=[]->∃k a j,b=[es w.params [97,104,101,97,100] k (.int a j)])->aH m=(Y.cps.take i).map (λc=>(c,zF c))->ab (env w) (gK w Y Y.it Y.SD Y.lg Q n b i f d t s m):=by
 intro r
 induction r with
 | nil=>
  intro i f d t s b m l F o q h
  obtain⟨k,a,j,rfl⟩:=q rfl
  have e:i=Y.cps.length:=by have:=congrArg Fo l;rw[Ha]at this;simp at this;omega
  rw[e,GJ]at h
  exact yd w Y Q n p k j a i f d t s m (aV l) (E m h)
 | cons c r M=>
  intro i f d t s b m l F o q h
  obtain⟨g,v⟩:=aQ l
  have O:i<Y.cps.length:=(Fa.mp g).1
  obtain⟨a,C⟩:=B c (FD g)
  have hk:ak m=Y.cps.take i:=ef h
  have I:m.length<=900:=by have:=congrArg Fo hk;unfold ak at this;rw[Fq,FQ]at this;omega
  refine ya w Y Y.lg Q n b p o i f d t s m c a (zF c) g C H D G A L I λk j f u x y s=>?_
  refine M (i+1) f c u s _ _ v (by omega) (.inr ⟨k,_,rfl⟩) (λ_=>⟨k,a,j,rfl⟩) ?_
  rw[fi (by rw[hk];exact hY J g),f5 g]
  unfold aH at h⊢
  rw[Ff,Ff,h];rfl
theorem yb (w:E9) (Y:Lw) (Q:MI->Prop) (k:List E6) (i:KF w.params k) (n:Y.cps.Nodup) (l:Y.lg=(Y.LV.length:Nat)) (f:Y.LV.length<=900) (j:Y.ws.length=Y.hs.length) (d:∀x∈Y.ws,x.1.length<=900) (p:Y.ws.length<=900) (h:Y.cps.length<=5) (zF:Nat->Int) (e:∀c∈Y.cps,∃a,kQ c Y.mh Y.me Y.ws Y.hs Y.LV Y.lg a (zF c)) (g:∀m,aH m=Y.cps.map (λc=>(c,zF c))->Q m) (o:Y.cps≠[]) (b t:Nat):ab (env w) (gK w Y Y.it Y.SD Y.lg Q k [] 0 Y.fe b t Y.se []):=
 yc w Y Q k i n l f j d p h zF e g Y.cps 0 Y.fe b t Y.se [] [] rfl (Gi _) (.inl rfl) (λz=>absurd z o) rfl
noncomputable def rO (w:E9) (Y:Lw) (L:List Lv) (k:List E6) (f a t:Nat) (zF:Nat->Int):af:={d:=90,α:=MI×(Nat×Int×Nat)×Nat×Nat×Nat×Nat×Nat,c:=.block (((aI w.params).drop 17).take 3) (aq w.params Y),need:=[(Y.fr,bz w.params Y Y.lg k [] f),(Y.c1,aK (.str ⟨⟨Y.cps⟩⟩ Y.tN)),(Y.c2,aj Y.H),(Y.c3,aj Y.E),(Y.c7,aK (.str ⟨⟨[a]⟩⟩ t)),(Y.c8,aj Y.W),(Y.c9,aj Y.V),(Y.c10,aj Y.FA),(Y.c11,br),(Y.H,dO w.params (.type "dict") none iv Y.mh Y.er),(Y.E,dO w.params (.type "dict") none iv Y.me Y.ee),(Y.W,ae (Y.ws.map bf) Y.wn),(Y.V,ae (Y.hs.map iv) Y.vn),(Y.FA,ae ((aD Y.LV).map .ref) Y.fan),(Y.bk,ae ((aD L).map .ref) Y.n2)],new:=λx=>[(Y.fr,bz w.params Y Y.lg k [es w.params [97,104,101,97,100] x.2.1.1 (.int x.2.1.2.1 x.2.1.2.2)] x.2.2.1),(Y.c1,aK (.str ⟨⟨Y.cps⟩⟩ Y.tN)),(Y.c2,aj Y.H),(Y.c3,aj Y.E),(Y.c7,aK (.str ⟨⟨[x.2.2.2.1]⟩⟩ x.2.2.2.2.1)),(Y.c8,aj Y.W),(Y.c9,aj Y.V),(Y.c10,aj Y.FA),(Y.c11,aj x.2.2.2.2.2.2),(Y.H,dO w.params (.type "dict") none iv Y.mh Y.er),(Y.E,dO w.params (.type "dict") none iv Y.me Y.ee),(Y.W,ae (Y.ws.map bf) Y.wn),(Y.V,ae (Y.hs.map iv) Y.vn),(Y.FA,ae ((aD Y.LV).map .ref) Y.fan),(Y.bk,ae ((aD L).map .ref) Y.n2),(x.2.2.2.2.2.2,dO w.params (.type "dict") none iv x.1 x.2.2.2.2.2.1)],post:=λx=>aH x.1=Y.cps.map (λc=>(c,zF c)),needB:=[bq w.params Y.LV],putB:=λ_=>[bq w.params Y.LV]}
noncomputable def eE (m a b:MI):Prop:=match a with| []=>b=m | _::_=>ik m a b
noncomputable def yj (P:E8) (S d de g o a f:Nat) (b m:MI) (e:Nat):af:={d:=45,α:=MI×Nat,c:=.call (.ref 936) ⟨[.ref S,.ref o],[]⟩,need:=[(S,cO P d b g),(d,oD [] de),(o,cO P a m e),(a,oD [] f)],r:=λ_=>.ok (.ret .none),put:=λz=>[cO P d z.1 z.2,oD [] de,cO P a m e,oD [] f],post:=λz=>eE m b z.1}
theorem iq (w:E9) (S d de b o f g:Nat) (a m:MI) (e:Nat) (k:m.length<=8) (l:(ak m).Nodup) (j:a.length<=8):ab (env w) (yj w.params S d de b o f g a m e):=by
 cases a with
 | nil=>exact av (λ_ i=>.use _ (w1 w S d b o f g m e k l) [0,1,1] [] λx h=>i (m,x) rfl [0,2,0,0] [] [])
 | cons x a=>exact av (λ_ i=>.use _ (wZ w S d de b o f g (x::a) m e a.length (Fd) j (by omega)) [0,0,0,0] [] λx h=>i x h [0,0,0,0] [] [])
theorem oK (P:E8):∀{L:List Lv} {i:Nat} {l:Lv},L[i]? =some l->∃R,(bq P L).Perm ([(l.a,cO P l.dd l.m l.ep),(l.dd,oD [] l.de)]++R)
 | [],_,_,h=>by simp at h
 | x::L,0,l,h=>by
  simp at h;subst h
  exact⟨bq P L,.refl _⟩
 | x::L,i+1,l,h=>by
  obtain⟨R,a⟩:=oK P (L:=L) (i:=i) (l:=l) (by simpa using h)
  refine⟨x.cells P++R, ?_⟩
  show(x.cells P++bq P L).Perm _
  refine(List.Perm.append_left _ a).trans ?_
  exact(List.perm_append_comm_assoc (x.cells P) [(l.a,cO P l.dd l.m l.ep),(l.dd,oD [] l.de)] R)
noncomputable def KM (P:E8) (k m:List E6):Prop:=(KF P k/\m=[])\/(k=[]/\KF P m)
noncomputable def gL (w:E9) (Y:Lw) (e k f d M m a J j:Nat) (b L:List Lv) (Q:MI->MI->Prop) (i:Nat) (o:Int) (t s u:Nat) (n q:List E6) (g:Nat) (r:MI) (p:Nat) (l:MI) (h:Nat):af:={d:=110,α:=(MI×Nat)×(MI×Nat)×(List E6×List E6)×Nat,c:=bR (aA (aI w.params) 22) (.ref e) (aq w.params Y),need:=[(e,bG ((i:Nat):Int) o 1 t s u),(Y.fr,bz w.params Y Y.lg n ([es w.params [97,104,101,97,100] Y.k9 (.int Y.a Y.ta),es w.params [109,101,101,116,115] k (.ref d),es w.params [106,111,105,110,115] f (.ref a)]++q) g),(Y.c10,aj Y.FA),(Y.FA,ae ((aD b).map .ref) Y.fan),(Y.bk,ae ((aD L).map .ref) Y.n2),(d,cO w.params M r p),(M,oD [] m),(a,cO w.params J l h),(J,oD [] j)],new:=λx=>[(Y.fr,bz w.params Y Y.lg x.2.2.1.1 ([es w.params [97,104,101,97,100] Y.k9 (.int Y.a Y.ta),es w.params [109,101,101,116,115] k (.ref d),es w.params [106,111,105,110,115] f (.ref a)]++x.2.2.1.2) x.2.2.2),(Y.c10,aj Y.FA),(Y.FA,ae ((aD b).map .ref) Y.fan),(Y.bk,ae ((aD L).map .ref) Y.n2),(d,cO w.params M x.1.1 x.1.2),(M,oD [] m),(a,cO w.params J x.2.1.1 x.2.1.2),(J,oD [] j)],post:=λx=>Q x.1.1 x.2.1.1/\KM w.params x.2.2.1.1 x.2.2.1.2,needB:=[bq w.params b,bq w.params L],putB:=λ_=>[bq w.params b,bq w.params L]}
structure pX (LV L2:List Lv) (I:Nat->MI->MI->Prop):Prop where
 len:L2.length=LV.length
 l9:LV.length<=900
 ok:∀i l1 l2,LV[i]? =some l1->L2[LV.length-1-i]? =some l2->l1.m≠[]/\l1.m.length<=400/\l2.m.length<=400/\(∀m',bM bn l2.m l1.m [] m'->m'.length<=8/\(ak m').Nodup)/\(∀m',(∃acc1,bM bm l2.m l1.m [] acc1/\ds ce l1.m l2.m acc1 m')->m'.length<=8/\(ak m').Nodup)
 few:∀i mm jj,I i mm jj->mm.length<=8/\jj.length<=8
 next:∀i l1 l2 mm jj mm2 jj2 m1 m2,LV[i]? =some l1->L2[LV.length-1-i]? =some l2->I i mm jj->bM bn l2.m l1.m [] m1->eE m1 mm mm2->(∃acc1,bM bm l2.m l1.m [] acc1/\ds ce l1.m l2.m acc1 m2)->eE m2 jj jj2->I (i+1) mm2 jj2
theorem Cg (w:E9) (Y:Lw) (p S T v M A u J y:Nat) (L f:List Lv) (Q:MI->MI->Prop) (Jo:Y.lg=(L.length:Nat)) (IG:Nat->MI->MI->Prop) (Iy:pX L f IG) (hQ:∀m d,IG L.length m d->Q m d):∀(IA:List Lv) (i:Nat) (e:Int) (q r t:Nat) (kk mk:List E6) (g:Nat) (m:MI) (k:Nat) (d:MI) (h:Nat),L.drop i=IA->i<=L.length->e=(IA.length:Nat)->KM w.params kk mk->IG i m d->ab (env w) (gL w Y p S T v M A u J y L f Q i e q r t kk mk g m k d h):=by
 let Jc:∀{w:E9} {Y:Lw} {p S T v M A u J y:Nat} {L f:List Lv} {Q:MI->MI->Prop} {i:Nat} {e:Int} {q r t:Nat} {g:Nat} {m:MI} {k:Nat} {d:MI} {h:Nat} (U:¬0<e) (hQ:Q m d),PP (env w) (gL w Y p S T v M A u J y L f Q i e q r t [] [] g m k d h):= @λw Y p S T v M A u J y L f Q i e q r t g m k d h U hQ _ I=>
  .seg 68736258049 λO1=>
  .use _ (cg w p (↑i:Int) e 1 q r t U) [0] [] λn h2=>
  .seg 2 λO3=>
  .seg 1 λO4=>
  I (((m,k),(d,h),([],[]),g)) ⟨hQ,.inr ⟨rfl,.inl rfl⟩⟩ [] [3,3,3,3,3,3,3,3] [0,0]
 let Je:∀{w:E9} {Y:Lw} {p S T v M A u J y:Nat} {L f:List Lv} {Q:MI->MI->Prop} {i:Nat} {e:Int} {q r t:Nat} {g:Nat} {m:MI} {k:Nat} {d:MI} {h:Nat} (a l:Lv) (R1 R2:ao) (j:Nat) (q1:Int) (U:0<e) (IK:Y.lg-1=q1) (IL:q1-((i:Nat):Int)=((j:Nat):Int)) (P:(aD L)[i]? =some a.a) (R:(aD f)[j]? =some l.a) (Jk:(aD L).length<=1000) (Jl:(aD f).length<=1000) (hi:i<=1000) (W:j<=1000) (N:(bq w.params L).Perm ([(a.a,cO w.params a.dd a.m a.ep),(a.dd,oD [] a.de)]++R1)) (O:(bq w.params f).Perm ([(l.a,cO w.params l.dd l.m l.ep),(l.dd,oD [] l.de)]++R2)) (IM:a.m≠[]) (IN:a.m.length<=400) (IP:l.m.length<=400) (Jb:m.length<=8) (IE:d.length<=8) (hA:∀m',bM bn l.m a.m [] m'->m'.length<=8/\(ak m').Nodup) (hO:∀m',(∃s,bM bm l.m a.m [] s/\ds ce a.m l.m s m')->m'.length<=8/\(ak m').Nodup) (ih:∀(o IB g k h:Nat) (E B C D:MI),bM bn l.m a.m [] C->eE C m E->(∃s,bM bm l.m a.m [] s/\ds ce a.m l.m s D)->eE D d B->ab (env w) (gL w Y p S T v M A u J y L f Q (i+1) (e-1) 0 0 t [] [es w.params [107] o (.int ((i:Nat):Int) IB)] g E k B h)),PP (env w) (gL w Y p S T v M A u J y L f Q i e q r t [] [] g m k d h):= @λw Y p S T v M A u J y L f Q i e q r t g m k d h a l R1 R2 j q1 U IK IL P R Jk Jl hi W N O IM IN IP Jb IE hA hO ih _ I=>
  .view [] [0] _ _ _ _ (bw N)
  (.view [] [1] _ _ _ _ (bw O)
  (.seg 343614181377 λO1=>
  .use _ (bY w p (↑i:Int) e 1 q r t ((↑i:Int)+1) (e-1) U rfl rfl) [4] [] λn h2=>
  .seg 0x800100800800800600700b00a00000000000000a00000000000a00000000000a006006006 λO3=>
  .use _ (bH Fs w Y.FA Y.fan n (↑i:Int) i (aD L) (a.a) rfl P (by omega)) [7] [] λx4 h4=>
  .seg 16805895 λO5=>
  .use _ (bx w Y.lg 1 Y.tl (O5 0) q1 IK) [] [] λx6 h6=>
  .seg 4103 λO7=>
  .use _ (bx w q1 (↑i:Int) x6 n (↑j:Int) IL) [] [] λx8 h8=>
  .seg 0x9001009009009 λO9=>
  .use _ (bH Fs w Y.bk Y.n2 x8 (↑j:Int) j (aD f) (l.a) rfl R (by omega)) [8] [] λJf I0=>
  .seg 0x6000000000000004006 λIS=>
  .use _ (pE w (a.a) (a.dd) (a.de) (a.ep) (l.a) (l.dd) (l.de) (l.ep) (a.m) (l.m) IM IN IP) [5,5,3,3] [] λx F=>
  have Z:x.2.2.2.2.1.length<=8:=(hA x.2.2.2.2.1 F).1;
  have a2:(ak x.2.2.2.2.1).Nodup:=(hA x.2.2.2.2.1 F).2;
  .seg 0 λIT=>
  .use _ (iq w v M A k (x.1) (x.2.1) (x.2.2.2.1) m (x.2.2.2.2.1) (x.2.2.1) Z a2 Jb) [11,11,4,4] [] λX I3=>
  .seg 0xa00100a00a00a00c00d00f00e00000000000000e00000000000e00000000000e00c λIU=>
  .use _ (bH Fs w Y.FA Y.fan n (↑i:Int) i (aD L) (a.a) rfl P (by omega)) [9] [] λJg I4=>
  .seg 16826380 λIz=>
  .use _ (bx w Y.lg 1 Y.tl (Iz 0) q1 IK) [] [] λIC I5=>
  .seg 4108 λIV=>
  .use _ (bx w q1 (↑i:Int) IC n (↑j:Int) IL) [] [] λID I6=>
  .seg 0xa00100a00a00a λIW=>
  .use _ (bH Fs w Y.bk Y.n2 ID (↑j:Int) j (aD f) (l.a) rfl R (by omega)) [9] [] λJh I7=>
  .seg 0x7000000000000009007 λIX=>
  .use _ (pD w (a.a) (a.dd) (a.de) (a.ep) (l.a) (l.dd) (l.de) (l.ep) (a.m) (l.m) IM IN IP) [6,6,6,6] [] λb G=>
  have b1:b.2.2.2.2.1.length<=8:=(hO b.2.2.2.2.1 G).1;
  have b2:(ak b.2.2.2.2.1).Nodup:=(hO b.2.2.2.2.1 G).2;
  .seg 0 λIY=>
  .use _ (iq w u J y h (b.1) (b.2.1) (b.2.2.2.1) d (b.2.2.2.2.1) (b.2.2.1) b1 b2 IE) [15,15,4,4] [] λx26 I8=>
  .seg 0 λIZ=>
  .view [4,4] [1] _ _ _ _ (aX N.symm)
  (.view [4,4] [1] _ _ _ _ (aX O.symm)
  (.use _ (ih (O3 0) n (g+1) (X.2) (x26.2) (X.1) (x26.1) (x.2.2.2.2.1) (b.2.2.2.2.1) F (by trivial) G (by trivial)) [10,10,10,5,4,4,4,0,0] [1,0] λx28 H=>have I9:Q x28.1.1 x28.2.1.1:=(Fx H);have Ja:KM w.params x28.2.2.1.1 x28.2.2.1.2:=(Fg H);
  I (((x28.1.1,x28.1.2),(x28.2.1.1,x28.2.1.2),(x28.2.2.1.1,x28.2.2.1.2),x28.2.2.2)) H [] [0,0,0,0,0,0,0,0] [0,0]))))
 intro IA
 induction IA with
 | nil=>
  intro i e q r t kk mk g m k d h hd hi U hk hI
  have Ji:i=L.length:=by have:=congrArg Fo hd;rw[Ha]at this;simp at this;omega
  have hq:=hQ m d (Ji▸hI)
  have V:¬0<e:=by rw[U];simp
  rcases hk with⟨rfl | ⟨o,v4,rfl⟩,rfl⟩ | ⟨rfl,rfl | ⟨o,v4,rfl⟩⟩
  .exact ct (Jc V hq)
  .exact ct (λ_ I=>.seg 68736258049 λO1=>.use _ (cg w p (↑i:Int) e 1 q r t V) [0] [] λn h2=>.seg 2 λO3=>.seg 1 λO4=>I (((m,k),(d,h),([es w.params [107] o v4],[]),g)) ⟨hq,.inl ⟨.inr ⟨o,v4,rfl⟩,rfl⟩⟩ [] [3,3,3,3,3,3,3,3] [0,0])
  .exact ct (Jc V hq)
  .exact ct (λ_ I=>.seg 68736258049 λO1=>.use _ (cg w p (↑i:Int) e 1 q r t V) [0] [] λn h2=>.seg 2 λO3=>.seg 1 λO4=>I (((m,k),(d,h),([],[es w.params [107] o v4]),g)) ⟨hq,.inr ⟨rfl,.inr ⟨o,v4,rfl⟩⟩⟩ [] [3,3,3,3,3,3,3,3] [0,0])
 | cons a IA ih=>
  intro i e q r t kk mk g m k d h hd hi U hk hI
  obtain⟨h1,h2⟩:=aQ hd
  have Jp:i<L.length:=(Fa.mp h1).1
  have Jm:=Iy.len
  have h9:=Iy.l9
  rw[Fd]at U
  obtain⟨j,hj⟩:∃j,L.length-1-i=j:=⟨_,rfl⟩
  have IE:j<f.length:=by omega
  obtain⟨l,IF⟩:∃l,f[j]? =some l:=⟨_,Fh IE⟩
  obtain⟨gt,io,Iv,Iw,Ix⟩:=Iy.ok i a l h1 (by rw[hj];exact IF)
  obtain⟨b1,b2⟩:=Iy.few i m d hI
  obtain⟨R1,N⟩:=oK w.params h1
  obtain⟨R2,O⟩:=oK w.params IF
  have P:(aD L)[i]? =some a.a:=by unfold aD;rw[Fl,h1];rfl
  have R:(aD f)[j]? =some l.a:=by unfold aD;rw[Fl,IF];rfl
  have z1:(aD L).length<=1000:=by unfold aD;rw[Fq];omega
  have z2:(aD f).length<=1000:=by unfold aD;rw[Fq];omega
  have nx:=λ(kk mk:List E6) (hk:KM w.params kk mk) (g k h:Nat) (E B C D:MI) (Z:bM bn l.m a.m [] C) (a2:eE C m E) (a3:∃s,bM bm l.m a.m [] s/\ds ce a.m l.m s D) (a4:eE D d B)=>
   ih (i+1) (e-1) 0 0 t kk mk g E k B h h2 (by omega) (by omega) hk (Iy.next i a l m d E B C D h1 (by rw[hj];exact IF) hI Z a2 a3 a4)
  have V:0<e:=by omega
  have W:Y.lg-1-((i:Nat):Int)=((j:Nat):Int):=by omega
  rcases hk with⟨rfl | ⟨o,v4,rfl⟩,rfl⟩ | ⟨rfl,rfl | ⟨o,v4,rfl⟩⟩
  .exact av (Je a l R1 R2 j _ V rfl W P R z1 z2 (by omega) (by omega) N O gt io Iv b1 b2 Iw Ix λo IB=>nx _ _ (.inr ⟨rfl,.inr ⟨o,_,rfl⟩⟩))
  .exact av (have hi:i<=1000:=(by omega);have Jj:j<=1000:=(by omega);λ_ I=>.view [] [0] _ _ _ _ (bw N) (.view [] [1] _ _ _ _ (bw O) (.seg 343614181377 λO1=>.use _ (bY w p (↑i:Int) e 1 q r t ((↑i:Int)+1) (e-1) V rfl rfl) [4] [] λn h2=>.seg 0x800100800800800600700b00a00000000000000a00000000000a00000000000a006006006 λO3=>.use _ (bH Fs w Y.FA Y.fan n (↑i:Int) i (aD L) (a.a) rfl P (by omega)) [7] [] λx4 h4=>.seg 16805895 λO5=>.use _ (bx w Y.lg 1 Y.tl (O5 0) (Y.lg-1) rfl) [] [] λx6 h6=>.seg 4103 λO7=>.use _ (bx w (Y.lg-1) (↑i:Int) x6 n (↑j:Int) W) [] [] λx8 h8=>.seg 0x9001009009009 λO9=>.use _ (bH Fs w Y.bk Y.n2 x8 (↑j:Int) j (aD f) (l.a) rfl R (by omega)) [8] [] λJf I0=>.seg 0x6000000000000004006 λIS=>.use _ (pE w (a.a) (a.dd) (a.de) (a.ep) (l.a) (l.dd) (l.de) (l.ep) (a.m) (l.m) gt io Iv) [5,5,3,3] [] λx F=>have Z:x.2.2.2.2.1.length<=8:=(Iw x.2.2.2.2.1 F).1;have a2:(ak x.2.2.2.2.1).Nodup:=(Iw x.2.2.2.2.1 F).2; .seg 0 λIT=>.use _ (iq w v M A k (x.1) (x.2.1) (x.2.2.2.1) m (x.2.2.2.2.1) (x.2.2.1) Z a2 b1) [11,11,4,4] [] λX I3=>.seg 0xa00100a00a00a00c00d00f00e00000000000000e00000000000e00000000000e00c λIU=>.use _ (bH Fs w Y.FA Y.fan n (↑i:Int) i (aD L) (a.a) rfl P (by omega)) [9] [] λJg I4=>.seg 16826380 λIz=>.use _ (bx w Y.lg 1 Y.tl (Iz 0) (Y.lg-1) rfl) [] [] λIC I5=>.seg 4108 λIV=>.use _ (bx w (Y.lg-1) (↑i:Int) IC n (↑j:Int) W) [] [] λID I6=>.seg 0xa00100a00a00a λIW=>.use _ (bH Fs w Y.bk Y.n2 ID (↑j:Int) j (aD f) (l.a) rfl R (by omega)) [9] [] λJh I7=>.seg 0x7000000000000009007 λIX=>.use _ (pD w (a.a) (a.dd) (a.de) (a.ep) (l.a) (l.dd) (l.de) (l.ep) (a.m) (l.m) gt io Iv) [6,6,6,6] [] λb G=>have II:b.2.2.2.2.1.length<=8:=(Ix b.2.2.2.2.1 G).1;have IJ:(ak b.2.2.2.2.1).Nodup:=(Ix b.2.2.2.2.1 G).2; .seg 0 λIY=>.use _ (iq w u J y h (b.1) (b.2.1) (b.2.2.2.1) d (b.2.2.2.2.1) (b.2.2.1) II IJ b2) [15,15,4,4] [] λx26 I8=>.seg 0 λIZ=>.view [4,4] [1] _ _ _ _ (aX N.symm) (.view [4,4] [1] _ _ _ _ (aX O.symm) (.use _ ((λo IB=>nx _ _ (.inl ⟨.inr ⟨o,_,rfl⟩,rfl⟩):∀(IQ IR g k h:Nat) (E B C D:MI),bM bn l.m a.m [] C->eE C m E->(∃s,bM bm l.m a.m [] s/\ds ce a.m l.m s D)->eE D d B->ab (env w) (gL w Y p S T v M A u J y L f Q (i+1) (e-1) 0 0 t [es w.params [107] IQ (.int ((i:Nat):Int) IR)] [] g E k B h)) o n g (X.2) (x26.2) (X.1) (x26.1) (x.2.2.2.2.1) (b.2.2.2.2.1) F (by trivial) G (by trivial)) [10,10,10,5,4,4,4,0,0] [1,0] λx28 H=>have I9:Q x28.1.1 x28.2.1.1:=(Fx H);have Ja:KM w.params x28.2.2.1.1 x28.2.2.1.2:=(Fg H);I (((x28.1.1,x28.1.2),(x28.2.1.1,x28.2.1.2),(x28.2.2.1.1,x28.2.2.1.2),x28.2.2.2)) H [] [0,0,0,0,0,0,0,0] [0,0])))))
  .exact av (Je a l R1 R2 j _ V rfl W P R z1 z2 (by omega) (by omega) N O gt io Iv b1 b2 Iw Ix λo IB=>nx _ _ (.inr ⟨rfl,.inr ⟨o,_,rfl⟩⟩))
  .exact av (have hi:i<=1000:=(by omega);have Jj:j<=1000:=(by omega);λ_ I=>.view [] [0] _ _ _ _ (bw N) (.view [] [1] _ _ _ _ (bw O) (.seg 343614181377 λO1=>.use _ (bY w p (↑i:Int) e 1 q r t ((↑i:Int)+1) (e-1) V rfl rfl) [4] [] λn h2=>.seg 0x800100800800800600700b00a00000000000000a00000000000a00000000000a006006006 λO3=>.use _ (bH Fs w Y.FA Y.fan n (↑i:Int) i (aD L) (a.a) rfl P (by omega)) [7] [] λx4 h4=>.seg 16805895 λO5=>.use _ (bx w Y.lg 1 Y.tl (O5 0) (Y.lg-1) rfl) [] [] λx6 h6=>.seg 4103 λO7=>.use _ (bx w (Y.lg-1) (↑i:Int) x6 n (↑j:Int) W) [] [] λx8 h8=>.seg 0x9001009009009 λO9=>.use _ (bH Fs w Y.bk Y.n2 x8 (↑j:Int) j (aD f) (l.a) rfl R (by omega)) [8] [] λJf I0=>.seg 0x6000000000000004006 λIS=>.use _ (pE w (a.a) (a.dd) (a.de) (a.ep) (l.a) (l.dd) (l.de) (l.ep) (a.m) (l.m) gt io Iv) [5,5,3,3] [] λx F=>have Z:x.2.2.2.2.1.length<=8:=(Iw x.2.2.2.2.1 F).1;have a2:(ak x.2.2.2.2.1).Nodup:=(Iw x.2.2.2.2.1 F).2; .seg 0 λIT=>.use _ (iq w v M A k (x.1) (x.2.1) (x.2.2.2.1) m (x.2.2.2.2.1) (x.2.2.1) Z a2 b1) [11,11,4,4] [] λX I3=>.seg 0xa00100a00a00a00c00d00f00e00000000000000e00000000000e00000000000e00c λIU=>.use _ (bH Fs w Y.FA Y.fan n (↑i:Int) i (aD L) (a.a) rfl P (by omega)) [9] [] λJg I4=>.seg 16826380 λIz=>.use _ (bx w Y.lg 1 Y.tl (Iz 0) (Y.lg-1) rfl) [] [] λIC I5=>.seg 4108 λIV=>.use _ (bx w (Y.lg-1) (↑i:Int) IC n (↑j:Int) W) [] [] λID I6=>.seg 0xa00100a00a00a λIW=>.use _ (bH Fs w Y.bk Y.n2 ID (↑j:Int) j (aD f) (l.a) rfl R (by omega)) [9] [] λJh I7=>.seg 0x7000000000000009007 λIX=>.use _ (pD w (a.a) (a.dd) (a.de) (a.ep) (l.a) (l.dd) (l.de) (l.ep) (a.m) (l.m) gt io Iv) [6,6,6,6] [] λb G=>have II:b.2.2.2.2.1.length<=8:=(Ix b.2.2.2.2.1 G).1;have IJ:(ak b.2.2.2.2.1).Nodup:=(Ix b.2.2.2.2.1 G).2; .seg 0 λIY=>.use _ (iq w u J y h (b.1) (b.2.1) (b.2.2.2.1) d (b.2.2.2.2.1) (b.2.2.1) II IJ b2) [15,15,4,4] [] λx26 I8=>.seg 0 λIZ=>.view [4,4] [1] _ _ _ _ (aX N.symm) (.view [4,4] [1] _ _ _ _ (aX O.symm) (.use _ ((λo IB=>nx _ _ (.inr ⟨rfl,.inr ⟨o,_,rfl⟩⟩):∀(IQ IR g k h:Nat) (E B C D:MI),bM bn l.m a.m [] C->eE C m E->(∃s,bM bm l.m a.m [] s/\ds ce a.m l.m s D)->eE D d B->ab (env w) (gL w Y p S T v M A u J y L f Q (i+1) (e-1) 0 0 t [] [es w.params [107] IQ (.int ((i:Nat):Int) IR)] g E k B h)) o n g (X.2) (x26.2) (X.1) (x26.1) (x.2.2.2.2.1) (b.2.2.2.2.1) F (by trivial) G (by trivial)) [10,10,10,5,4,4,4,0,0] [1,0] λx28 H=>have I9:Q x28.1.1 x28.2.1.1:=(Fx H);have Ja:KM w.params x28.2.2.1.1 x28.2.2.1.2:=(Fg H);I (((x28.1.1,x28.1.2),(x28.2.1.1,x28.2.1.2),(x28.2.2.1.1,x28.2.2.1.2),x28.2.2.2)) H [] [0,0,0,0,0,0,0,0] [0,0])))))
noncomputable def rM (w:E9) (Y:Lw) (L:List Lv) (k:List E6) (f:Nat) (Q:MI->MI->Prop):af:={d:=130,α:=(MI×Nat×Nat×Nat×Nat)×(MI×Nat×Nat×Nat×Nat)×(List E6×List E6)×Nat×Nat×Nat,c:=.block (((aI w.params).drop 20).take 3) (aq w.params Y),need:=[(Y.fr,bz w.params Y Y.lg k [es w.params [97,104,101,97,100] Y.k9 (.int Y.a Y.ta)] f),(Y.c10,aj Y.FA),(Y.FA,ae ((aD Y.LV).map .ref) Y.fan),(Y.bk,ae ((aD L).map .ref) Y.n2)],new:=λx=>[(Y.fr,bz w.params Y Y.lg x.2.2.1.1 ([es w.params [97,104,101,97,100] Y.k9 (.int Y.a Y.ta),es w.params [109,101,101,116,115] (x.2.2.2.2.1) (.ref x.1.2.2.1),es w.params [106,111,105,110,115] (x.2.2.2.2.2) (.ref x.2.1.2.2.1)]++x.2.2.1.2) x.2.2.2.1),(Y.c10,aj Y.FA),(Y.FA,ae ((aD Y.LV).map .ref) Y.fan),(Y.bk,ae ((aD L).map .ref) Y.n2),(x.1.2.2.1,cO w.params x.1.2.2.2.1 x.1.1 x.1.2.1),(x.1.2.2.2.1,oD [] x.1.2.2.2.2),(x.2.1.2.2.1,cO w.params x.2.1.2.2.2.1 x.2.1.1 x.2.1.2.1),(x.2.1.2.2.2.1,oD [] x.2.1.2.2.2.2)],post:=λx=>Q x.1.1 x.2.1.1/\KM w.params x.2.2.1.1 x.2.2.1.2,needB:=[bq w.params Y.LV,bq w.params L],putB:=λ_=>[bq w.params Y.LV,bq w.params L]}
theorem zp (w:E9) (Y:Lw) (L:List Lv) (k:List E6) (i:KF w.params k) (f:Nat) (Q:MI->MI->Prop) (h:Y.lg=(Y.LV.length:Nat)) (I:Nat->MI->MI->Prop) (C:pX Y.LV L I) (D:I 0 [] []) (E:∀A y,I Y.LV.length A y->Q A y):ax (env w) (rM w Y L k f Q) (Dn (.block (((aI w.params).drop 20).take 3) (aq w.params Y))):=by
 let B:∀{w:E9} {k:List E6} {Y:Lw} {L:List Lv} {f:Nat} {Q:MI->MI->Prop} (h:0<=Y.lg/\Y.lg<=1000) (v:(if 0<Y.lg then Y.lg-0 else 0)=Y.lg) (hk:∀(j n o e M p d J l:Nat) (t r s f q m:Nat),ab (env w) (gL w Y j n o e M p d J l Y.LV L Q 0 Y.lg t r s k [] f [] q [] m)),PP (env w) (rM w Y L k f Q):= @λw k Y L f Q h v hk _ N=>
  .seg 0 λP=>
  .use _ (jx w) [] [] λa T=>
  .seg 12291 λu=>
  .use _ (jx w) [] [] λb U=>
  .seg 0x1001001001001001001001001001001001001001005000000005005 λO=>
  .use _ (gQ w (O 3) 0 Y.lg (O 1) Y.tl (O 2) Y.lg (by trivial) (by omega) v) [0] [] λH V=>
  .seg 2 λR=>
  .use _ (hk H (u 0) (O 0) (a.1) (a.2.1) (a.2.2) (b.1) (b.2.1) (b.2.2) 0 0 0 (f+1+1) 0 0) [1,5,5,5,5,3,3,1,1] [0,0] λx g=>have W:Q x.1.1 x.2.1.1:=(Fx g);have X:KM w.params x.2.2.1.1 x.2.2.1.2:=(Fg g);
  .seg 0 λS=>
  N (((x.1.1,x.1.2,a.1,a.2.1,a.2.2),(x.2.1.1,x.2.1.2,b.1,b.2.1,b.2.2),(x.2.2.1.1,x.2.2.1.2),x.2.2.2,u 0,O 0)) g [] [0,0,0,0,0,0,0,0] [0,0]
 have Z:=C.l9
 have hk:=λ(k:List E6) (i:KM w.params k []) (j n o e M p d J l:Nat) (t r s f q m:Nat)=>Cg w Y j n o e M p d J l Y.LV L Q h I C E Y.LV 0 Y.lg t r s k [] f [] q [] m rfl (Gi _) h i D
 rcases i with rfl | ⟨F,G,rfl⟩
 .exact aG _ (B (by omega) (by split<;>omega) (hk _ (.inr ⟨rfl,.inl rfl⟩)))
 .exact aG _ (B (by omega) (by split<;>omega) (hk _ (.inl ⟨.inr ⟨F,G,rfl⟩,rfl⟩)))
noncomputable def rH (w:E9) (Y:Lw):af:={d:=120,α:=MI×Nat×Nat×Nat×Nat,c:=.block [aA (aI w.params) 23] (aq w.params Y),need:=[(Y.c12,br),(Y.c2,aj Y.H),(Y.c11,aj Y.SD),(Y.H,dO w.params (.type "dict") none iv Y.mh Y.er),(Y.SD,dO w.params (.type "dict") none iv Y.ms Y.se)],new:=λx=>[(Y.c12,aj x.2.2.1),(Y.c2,aj Y.H),(Y.c11,aj Y.SD),(Y.H,dO w.params (.type "dict") none iv Y.mh Y.er),(Y.SD,dO w.params (.type "dict") none iv Y.ms Y.se),(x.2.2.1,cO w.params x.2.2.2.1 x.1 x.2.1),(x.2.2.2.1,oD [] x.2.2.2.2)],post:=λx=>∃a,bM cB Y.ms Y.mh [] a/\ds dJ Y.mh Y.ms a x.1}
theorem xU (w:E9) (Y:Lw) (d:Y.mh.length<=8) (g:(ak Y.mh).Nodup) (e:Y.ms.length<=8) (i:(ak Y.ms).Nodup) (f:Y.mh≠[]):ax (env w) (rH w Y) (Dn (rH w Y).c):=aG _ (λ_ j=>.seg 8192 λO=>.use _ (px w Y.H Y.mh Y.er d g) [3] [] λa n=>.seg 24576 λk=>.use _ (px w Y.SD Y.ms Y.se e i) [6] [] λb o=>.seg 0x5000000000000002005 λl=>.use _ (ED w (a.1) (a.2.1) (a.2.2.2) (a.2.2.1) (b.1) (b.2.1) (b.2.2.2) (b.2.2.1) Y.mh Y.ms f (by omega) (by omega)) [4,4,1,1] [] λx h=>.seg 36873 λm=>j (x.2.2.2.2.1,x.2.2.1,x.1,x.2.1,x.2.2.2.1) h [] [8,8,8,7,6,4,4] [])
noncomputable def oW (P:E8):Expr:=bI (aA (aI P) 24)
noncomputable def cV (m b:MI) (a:List Nat):List Nat:=a.filter λc=>decide (aa b c<aa m c)
noncomputable def fN (w:E9) (Y:Lw) (b d a:Nat) (Q:List (Nat×Nat)->Prop) (i e:Nat) (lo:List E6) (l:Nat) (f:List (Nat×Nat)):af:={d:=30,α:=List (Nat×Nat)×Nat×List E6×Nat,c:=dE (oW w.params) 0 d a (aq w.params Y) b [(⟨⟨[115,108,97,99,107]⟩⟩,Y.c11),(⟨⟨[104,111,117,114,115]⟩⟩,Y.c2)],need:=[(d,cq Y.cps Y.tN i),(b,oD lo l),(a,ae (f.map cv) e),(Y.c2,aj Y.H),(Y.c11,aj Y.SD),(Y.H,dO w.params (.type "dict") none iv Y.mh Y.er),(Y.SD,dO w.params (.type "dict") none iv Y.ms Y.se)],new:=λx=>[(b,oD x.2.2.1 x.2.2.2),(a,ae (x.1.map cv) x.2.1),(Y.c2,aj Y.H),(Y.c11,aj Y.SD),(Y.H,dO w.params (.type "dict") none iv Y.mh Y.er),(Y.SD,dO w.params (.type "dict") none iv Y.ms Y.se)],post:=λx=>Q x.1/\dk w.params x.2.2.1}
theorem C5 (w:E9) (Y:Lw) (g e f:Nat) (Q:List (Nat×Nat)->Prop) (V:∀c∈Y.cps,(∃v,look? Y.mh c=some v)/\∃v,look? Y.ms c=some v):∀(r:List Nat) (i a l:Nat) (lo:List E6) (b:List (Nat×Nat)),Y.cps.drop i=r->b.length+r.length<=900->dk w.params lo->(∀o,ad o=ad b++cV Y.mh Y.ms r->Q o)->ab (env w) (fN w Y g e f Q i a lo l b):=by
 let W:∀{w:E9} {lo:List E6} {Y:Lw} {g e f:Nat} {Q:List (Nat×Nat)->Prop} {i a l:Nat} {b:List (Nat×Nat)} (c:Nat) (v s:Int×Nat) (h:Y.cps[i]? =some c) (y:look? Y.mh c=some v) (t:look? Y.ms c=some s) (D:b.length<=1000) (F:s.1<v.1->∀(k:Nat) (d:Fb) (a l u:Nat),ab (env w) (fN w Y g e f Q (i+1) a [es w.params [110,97,109,101] k d] l (b++[(c,u)]))) (E:¬s.1<v.1->∀(k:Nat) (d:Fb) (a l:Nat),ab (env w) (fN w Y g e f Q (i+1) a [es w.params [110,97,109,101] k d] l b)),PP (env w) (fN w Y g e f Q i a lo l b):= @λw lo Y g e f Q i a l b c v s h y t D F E _ p=>
  .seg 68736258049 λL=>.use _ (eH w e Y.tN i Y.cps c h) [0] [] λx q=>.seg 0x6001006006006002004002002 λO=>.use _ (cu w Y.H (Fz "dict") none Y.er c x Y.mh v y) [5] [] λx4 h4=>.seg 0x7001007007007003006 λO5=>.use _ (cu w Y.SD (Fz "dict") none Y.se c x Y.ms s t) [6] [] λx6 h6=>.seg 1 λO7=>.or (s.1<v.1) (¬(s.1<v.1)) (FK _) (λA=>.use _ (dx w (v.1) (s.1) (v.2) (s.2) A) [] [] λX U=>.seg 83890180 λR=>.use _ (dw w f a b (c,x) (by omega)) [4] [] λj B=>.seg 0 λZ=>.use _ (F A (kT lo (O 0)) (GT (Str.mk (Array.mk [c])) x) (a+1) (kE lo l) x) [3,3,0,2,2,1,0] [] λn G=>have Iv:Q n.1:=(Fx G);have Iw:dk w.params n.2.2.1:=(Fg G);p (n.1,n.2.1,n.2.2.1,n.2.2.2) G [] [0,0,0,0,0,0] []) (λA=>.use _ (dy w (v.1) (s.1) (v.2) (s.2) A) [] [] λX U=>.seg 0 λR=>.use _ (E A (kT lo (O 0)) (GT (Str.mk (Array.mk [c])) x) a (kE lo l)) [2,2,2,2,2,1,0] [] λj B=>have gt:Q j.1:=(Fx B);have io:dk w.params j.2.2.1:=(Fg B);p (j.1,j.2.1,j.2.2.1,j.2.2.2) B [] [0,0,0,0,0,0] [])
 intro r
 induction r with
 | nil=>
  intro i a l lo b C D I m
  have N:Q b:=m b (by simp[cV])
  rcases I with rfl | ⟨k,d,rfl⟩
  .exact ct (λ_ p=>.seg 68736258049 λL=>.use _ (cJ w e Y.tN i Y.cps (aV C)) [0] [] λx q=>.seg 2 λO=>p (b,a,[],l) ⟨N,.inl rfl⟩ [] [3,3,3,3,3,3] [])
  .exact ct (λ_ p=>.seg 68736258049 λL=>.use _ (cJ w e Y.tN i Y.cps (aV C)) [0] [] λx q=>.seg 2 λO=>p (b,a,[es w.params [110,97,109,101] k d],l) ⟨N,.inr ⟨k,d,rfl⟩⟩ [] [3,3,3,3,3,3] [])
 | cons c r P=>
  intro i a l lo b C D I m
  obtain⟨M,q⟩:=aQ C
  rw[Fd]at D
  obtain⟨⟨v,y⟩,s,t⟩:=V c (FD M)
  have T:aa Y.mh c=v.1:=by unfold aa;rw[y];rfl
  have S:aa Y.ms c=s.1:=by unfold aa;rw[t];rfl
  unfold cV at m
  rw[GK,T,S]at m
  have F:s.1<v.1->∀(k:Nat) (d:Fb) (a l u:Nat),ab (env w) (fN w Y g e f Q (i+1) a [es w.params [110,97,109,101] k d] l (b++[(c,u)])):=λH k d a l u=>P (i+1) a l _ _ q (by simp;omega) (.inr ⟨k,d,rfl⟩) λo J=>m o (by
   rw[J,if_pos (by simpa using H)]
   unfold ad
   rw[Ff,Fp];rfl)
  have E:¬s.1<v.1->∀(k:Nat) (d:Fb) (a l:Nat),ab (env w) (fN w Y g e f Q (i+1) a [es w.params [110,97,109,101] k d] l b):=λH k d a l=>P (i+1) a l _ _ q (by omega) (.inr ⟨k,d,rfl⟩) λo J=>m o (by
   rw[J,if_neg (by simpa using H)];rfl)
  rcases I with rfl | ⟨k,d,rfl⟩<;>exact av (W c v s M y t (by omega) F E)
theorem C4 (w:E9) (Y:Lw) (b i a:Nat) (e:∀c∈Y.cps,(∃v,look? Y.mh c=some v)/\∃v,look? Y.ms c=some v) (f:Y.cps.length<=10) (d l:Nat):ab (env w) {fN w Y b i a (λo=>ad o=cV Y.mh Y.ms Y.cps) 0 d [] l []with c:=bB (oW w.params) 0 i a (aq w.params Y) b [(⟨⟨[115,108,97,99,107]⟩⟩,Y.c11),(⟨⟨[104,111,117,114,115]⟩⟩,Y.c2)]}:=
 dq nl (o:=cq Y.cps Y.tN 0) rfl (by simp[fN]) (by kernel_rfl) (by kernel_rfl) rfl (C5 w Y b i a _ e Y.cps 0 d l [] [] rfl (by simp;omega) (.inl rfl) λo h=>by simpa[ad]using h)
theorem fZ (w:E9) (b l i n:Nat) (a:List (Int×Nat)) (x:Int×Nat) (h:a[i]? =some x):ab (env w) (nH "tuple_iterator" b l i (aR (a.map iv) n) (iv x)):=fK w b l i n iv a x h
theorem lq (w:E9) (a l i n:Nat) (x:List (Int×Nat)) (h:x[i]? =none):ab (env w) (nG "tuple_iterator" a l i (aR (x.map iv) n)):=ir w a l i n iv x h
theorem vr {w:E9} {b:Ctx} {k v:Expr} {g:Comprehension} {n:Scope} {m:Pos} {a:Env} {i d:Nat} (q:b.code=.compLoop (.DictComp k v [g] n m) 0 (.ref i) (.ref d) a) (t:g.ifs=[]) (o:g.is_async=0) (u:∀i v,Gr g.target i v=pure ()) {F:HI->Fe->Prop} {p:Pos} {s:Fe}
 (h:∀p,wp (FT pq w) b (pyNext (.ref i)) (λr p s=>∃j,r=some j/\∀p,wp (FT pq w) b (assign g.target a j>>=λ_=>eval k a) (λf p s=>wp (FT pq w) b (eval v a) (λl p s=>∀p,wp (FT pq w) b (dictSet d f l) (λ_ p s=>finPost (FT pq w) b F (.again (.compLoop (.DictComp k v [g] n m) 0 (.ref i) (.ref d) a)) p s) (gg w b a F) p s) (gg w b a F) p s) (gg w b a F) p s) (gg w b a F) p s):wp (FT pq w) b (FM table b.code) (finPost (FT pq w) b F) (λe _ s=>F (.error e) s) p s:=by
 rw[q]
 show wp _ _ ((compTurn (.DictComp k v [g] n m) 0 (.ref i) (.ref d) a).onRaise (λx=>do HU x a;Hf x)) _ _ p s
 rw[Gu]
 unfold compTurn
 simp only[List.getElem?_cons_zero,o,t]
 rw[E7]
 refine aL (GB λp=>?_)
 simp only[bne_self_eq_false]
 rw[if_neg Fi,E7]
 refine Fu _ _ _ (λr p s h=>?_) (λ_ _ _ h=>h) _ _ (h p)
 obtain⟨j,rfl,h⟩:=h
 show wp _ _ (Gr g.target (.ref i) j>>=λ_=>assign g.target a j>>=λ_=>_) _ _ p s
 rw[u,E7]
 refine aL (E5 λp=>?_)
 have h:=h p
 rw[E7]at h⊢
 refine Fu _ _ _ (λ_ p s h=>?_) (λ_ _ _ h=>h) _ _ h
 show wp _ _ ((eval k a>>=λf=>holding [f] (eval v a)>>=λl=>standAt {k.pos with endLine:=v.pos.endLine,endCol:=v.pos.endCol}>>=λ_=>holding [f,l] (dictSet d f l))>>=λ_=>again (.compLoop (.DictComp k v [g] n m) 0 (.ref i) (.ref d) a)) _ _ p s
 rw[E7,E7]
 refine Fu _ _ _ (λf p s h=>?_) (λ_ _ _ h=>h) _ _ h
 rw[E7,HQ]
 refine Fu _ _ _ (λl p s h=>?_) (λ_ _ _ h=>h) _ _ h
 rw[E7]
 refine aL (GB λp=>?_)
 rw[HQ]
 exact h p
theorem vP {w:E9} {A:Around} {E:Fb->Fe->Prop} {s:Fe} {W:String} {a b:Nat} {m d:MI} {G H:Nat} {Q:Bool->Fe->Prop} (k:s.heap.get? a=some (dO w.params (.type "dict") none iv m G)) (o:s.heap.get? b=some (dO w.params (.type "dict") none iv d H)) (L:1228<=a) (M:1228<=b) (N:m.length=d.length)
 (P:∀x∈m,∃v,look? d x.1=some v/\v.1=x.2.2.1) (h:Q true s):Fr (FT pq w) A (HS W a b) Q E s:=by
 unfold HS Gs
 rw[if_neg (by rw[eL L];exact Fi),if_neg (by rw[eL M];exact Fi)]
 refine E3 (E5 ?_)
 refine E3 (E5 ?_)
 refine E3 (FS k rfl ?_)
 dsimp only
 refine E3 (FS o rfl ?_)
 have R:(m.map (aS w.params iv)).toArray.size=m.length:=by simp
 have S:(d.map (aS w.params iv)).toArray.size=d.length:=by simp
 rw[R,S,if_neg (by simp[N])]
 refine E3 (Gk k rfl ?_)
 refine E3 ?_
 rw[G7]
 simp only[Std.Legacy.Range.size,Nat.sub_zero,Nat.add_sub_cancel,Nat.div_one]
 refine wpAny_forIn_list _
  (λr n g=>n.1=none/\g=s/\∃i,r=HW i (m.length-i)/\i<=m.length)
  _ ?_ ?_ _ _ ⟨rfl,rfl,0,by simp,Gi _⟩
 .rintro x r n g ⟨p,rfl,i,l,X⟩
  have u:i<m.length:=by
   rcases Nat.lt_or_ge i m.length with h | h
   .exact h
   .rw [Nat.sub_eq_zero_of_le h]at l;simp at l
  obtain⟨rfl,O⟩:x=i/\r=HW (i+1) (m.length-(i+1)):=by
   have e:m.length-i=(m.length-(i+1))+1:=by omega
   rw[e,HP]at l
   injection l with I J
   exact⟨I,J⟩
  refine E3 (FS k rfl ?_)
  obtain⟨y,B⟩:∃y,m[x]? =some y:=⟨m[x],Fh u⟩
  have C:((m.map (aS w.params iv)).toArray)[x]? =some (aS w.params iv y):=by
   rw[Fv,Fl,B];rfl
  simp only[C]
  obtain⟨v,f,T⟩:=P y (FD B)
  rw[oL]at f
  obtain⟨j,t⟩:∃j,d.findIdx? (λz=>decide (z.1=y.1))=some j:=by
   cases q:d.findIdx? (λz=>decide (z.1=y.1))with
   | none=>rw[q]at f;cases f
   | some j=>exact⟨j,rfl⟩
  rw[t]at f
  dsimp only at f
  obtain⟨z,U,V⟩:=H5.mp f
  refine E3 (Gj ?_)
  show Fr _ _ (dictFind b (.str ⟨⟨[y.1]⟩⟩ y.2.1) ((sk w).hash ⟨⟨[y.1]⟩⟩)>>=_) _ _ g
  refine E3 (kO (m:=d) o ?_)
  rw[t]
  dsimp only
  refine E3 (FS o rfl ?_)
  have D:((d.map (aS w.params iv)).toArray)[j]? =some (aS w.params iv z):=by
   rw[Fv,Fl,U];rfl
  simp only[D]
  refine Gj ?_
  show Fr _ _ (eqBool (.int y.2.2.1 y.2.2.2) (.int z.2.2.1 z.2.2.2)) _ _ g
  refine wpAny_eqBool_int ?_
  have F:(y.2.2.1==z.2.2.1)=true:=by rw[<-T,<-V];simp
  rw[F]
  simp only[Bool.not_true,Ge,if_false]
  refine E3 (Gk k rfl ?_)
  rw[if_neg (by simp)]
  exact E5 ⟨rfl,rfl,x+1,O,u⟩
 .rintro n g ⟨p,rfl,_⟩
  rw[p]
  exact E5 h
noncomputable def sw (id:String) (P:E8) (a b:Nat) (m f:MI) (e d:Nat) (r:Bool):af:={d:=5,α:=Unit,c:=.builtin id ⟨[.ref a,.ref b],[]⟩,need:=[(a,dO P (.type "dict") none iv m e),(b,dO P (.type "dict") none iv f d)],r:=λ_=>.ok (.ret (.bool r)),put:=λ_=>[dO P (.type "dict") none iv m e,dO P (.type "dict") none iv f d]}
theorem qQ:isSubtype (.type "dict") (.type "dict")=pure true:=by rw[isSubtype_type];kernel_rfl
theorem DU (w:E9) (a b:Nat) (m d:MI) (e f:Nat) (l:m.length=d.length) (n:∀x∈m,∃v,look? d x.1=some v/\v.1=x.2.2.1):ab (env w) (sw "dict.__eq__" w.params a b m d e f true):=by
 refine aN λA s G o p P g=>?_
 have i:s.heap.get? a=some (dO w.params (.type "dict") none iv m e):=P.has (a,_) E2
 have h:s.heap.get? b=some (dO w.params (.type "dict") none iv d f):=P.has (b,_) (E4 _ E2)
 have j:1228<=a:=P.ge (a,_) E2
 have k:1228<=b:=P.ge (b,_) (E4 _ E2)
 show Fr _ _ (FM table (.builtin "dict.__eq__" ⟨[.ref a,.ref b],[]⟩)) _ _ s
 rw[aE _ _ F.entry_dict_eq]
 show Fr _ _ (isInstance (.ref b) (.type "dict")>>=_) _ _ s
 refine E3 (wpAny_isInstance (T:="dict") (b:=true) ⟨_,h,rfl⟩ qQ ?_)
 simp only[Bool.not_true,Ge,if_false]
 show Fr _ _ (HS _ a b>>=_) _ _ s
 refine E3 (vP i h j k l n (E5 ?_))
 exact g () s trivial (ap.start P)
theorem DT (w:E9) (a b:Nat) (m d:MI) (e f:Nat) (l:m.length=d.length) (n:∀x∈m,∃v,look? d x.1=some v/\v.1=x.2.2.1):ab (env w) (sw "dict.__ne__" w.params a b m d e f false):=by
 refine aN λA s G o p P g=>?_
 have i:s.heap.get? a=some (dO w.params (.type "dict") none iv m e):=P.has (a,_) E2
 have h:s.heap.get? b=some (dO w.params (.type "dict") none iv d f):=P.has (b,_) (E4 _ E2)
 have j:1228<=a:=P.ge (a,_) E2
 have k:1228<=b:=P.ge (b,_) (E4 _ E2)
 show Fr _ _ (FM table (.builtin "dict.__ne__" ⟨[.ref a,.ref b],[]⟩)) _ _ s
 rw[aE _ _ F.entry_dict_ne]
 show Fr _ _ (isInstance (.ref b) (.type "dict")>>=_) _ _ s
 refine E3 (wpAny_isInstance (T:="dict") (b:=true) ⟨_,h,rfl⟩ qQ ?_)
 simp only[Bool.not_true,Ge,if_false]
 show Fr _ _ (HS _ a b>>=_) _ _ s
 refine E3 (vP i h j k l n (E5 ?_))
 exact g () s trivial (ap.start P)
noncomputable def iM (P:E8) (d g o a f:Nat) (m:List (Nat×Nat×Int×Nat)) (b:Nat):af:={d:=20,α:=Nat,c:=.builtin "dict.__init__" ⟨[.ref d,.ref o],[]⟩,need:=[(d,dO P (.type "dict") none iv [] g),(o,cO P a m b),(a,oD [] f)],r:=λ_=>.ok (.ret .none),put:=λe=>[dO P (.type "dict") none iv m e,cO P a m b,oD [] f]}
theorem pk (w:E9) (d g o a i:Nat) (m:List (Nat×Nat×Int×Nat)) (f:Nat) (E:m.length<=8) (J:(ak m).Nodup):ab (env w) (iM w.params d g o a i m f):=by
 intro n r t Q I p s O P y
 have t:n.handled=none:=t.resolve_left (λz=>nomatch z)
 have H:bt (env w) 20 n:=⟨t,I⟩
 have G:Go (env w).kt s (keys (iM w.params d g o a i m f).all) s [(d,dO w.params (.type "dict") none iv [] g),(o,cO w.params a m f),(a,oD [] i)]:=Go.start P
 have B:s.heap.get? d=some (dO w.params (.type "dict") none iv [] g):=P.has (d,_) E2
 have M:s.heap.get? o=some (cO w.params a m f):=P.has (o,_) (E4 _ E2)
 have D:1228<=o:=P.ge (o,cO w.params a m f) (E4 _ E2)
 have C:d≠o:=by
  have:=P.nd
  intro z;subst z
  exact absurd this (by simp[iM,af.all])
 have r:n.code=.builtin "dict.__init__" ⟨[.ref d,.ref o],[]⟩:=r
 rw[F3]
 show wp _ _ (FM table n.code) _ _ p s
 rw[r,aE _ _ F.entry_dict_init]
 show wp _ _ (GA "__init__" ⟨[.ref d,.ref o],[]⟩>>=_) _ _ p s
 unfold GA
 rw[E7,E7]
 refine aL (gA (d:=d) rfl P.base B (.inl rfl) λp=>?_)
 show wp _ _ (pure (d,[Fs o])) _ _ p s
 refine aL (E5 λp=>?_)
 show wp _ _ (GG "dict.__init__" d (.ref o) [] .none) _ _ p s
 unfold GG
 rw[E7]
 refine aL (pM M λp=>?_)
 have L:((cO w.params a m f).cls != .type "dict")=true:=by
  rw[show(cO w.params a m f).cls=.ref 1093 from rfl];rfl
 rw[if_pos L]
 dsimp only
 have k:=fP (ud w o a i m f) H (by show 10<=20;omega) rfl (r:=[(d,dO w.params (.type "dict") none iv [] g)]) (Go.perm G (FG (l₁:=[(d,dO w.params (.type "dict") none iv [] g)]))) (b0:=false) (λ_=>rfl) (p:=p)
  (Q:=λb p l=>b=false/\Go (env w).kt s (keys (iM w.params d g o a i m f).all) l [(o,cO w.params a m f),(a,oD [] i),(d,dO w.params (.type "dict") none iv [] g)]) (E:=λ_ _ _=>False) λ_ l p _ q=>⟨rfl,q⟩
 rw[E7]at k
 rw[E7]
 refine Fu _ _ _ (λv p l h=>?_) (λ_ _ _ h=>h.elim) _ _ k
 obtain⟨N,q⟩:v.isNone=false/\Go (env w).kt s (keys (iM w.params d g o a i m f).all) l [(o,cO w.params a m f),(a,oD [] i),(d,dO w.params (.type "dict") none iv [] g)]:=h
 rw[if_neg (by rw[N];exact Fi)]
 unfold Builtin.Dict.merge
 rw[E7,E7]
 refine fP (sS w o a m f) H (by show 10<=20;omega) rfl (r:=[(a,oD [] i),(d,dO w.params (.type "dict") none iv [] g)]) q (b0:=true) (λ_=>rfl) λ_ u p _ j=>?_
 have j:Go (env w).kt s (keys (iM w.params d g o a i m f).all) u [(o,cO w.params a m f),(a,oD [] i),(d,dO w.params (.type "dict") none iv [] g)]:=j
 have j:=Go.perm j (all':=[(d,dO w.params (.type "dict") none iv [] g),(o,cO w.params a m f),(a,oD [] i)]) (FG (l₁:=[(o,cO w.params a m f),(a,oD [] i)]))
 rw[if_pos rfl]
 show wp _ _ (Hp "dict.__init__" d o) _ _ p u
 refine aL (pO (cls:=.type "dict") (dd:=none) (f:=iv) (r:=[(a,oD [] i)]) C D (E2) j.after E J λx e A p=>?_)
 show wp _ _ (ret .none) _ _ p x
 exact y e x trivial A
noncomputable def yO (x y:Int) (t u:Nat) (z:Int):af:={d:=25,α:=Nat,c:=.builtin "max" ⟨[.int x t,.int y u],[]⟩,need:=[],r:=λv=>.ok (.ret (.int z v))}
theorem Bw (w:E9) (x y:Int) (t u:Nat) (z:Int) (p:max x y=z):ab (env w) (yO x y t u z):=by
 by_cases h:x<y
 .obtain rfl:z=y:=by omega
  exact av (λ_ a=>.seg 0x2001002001001001001001001001001001 λO=>.use _ (fZ w (O 1) (O 0) 0 0 ([(x,t),(z,u)]) (x,t) rfl) [1,1] [] λl g=>.seg 0x1001001003001003003003 λb=>.use _ (fZ w (O 1) (O 0) 1 0 ([(x,t),(z,u)]) (z,u) rfl) [0,0] [] λm i=>.seg 1 λd=>.use _ (dx w ((z,u).1) ((x,t).1) u t h) [] [] λn j=>.seg 0x1001001003001003003003 λe=>.use _ (lq w (O 1) (O 0) 2 0 ([(x,t),(z,u)]) (by trivial)) [0,0] [] λo k=>.seg 343681290243 λf=>a (u) trivial [] [] [])
 .obtain rfl:z=x:=by omega
  exact av (λ_ a=>.seg 0x2001002001001001001001001001001001 λO=>.use _ (fZ w (O 1) (O 0) 0 0 ([(z,t),(y,u)]) (z,t) rfl) [1,1] [] λl g=>.seg 0x1001001003001003003003 λb=>.use _ (fZ w (O 1) (O 0) 1 0 ([(z,t),(y,u)]) (y,u) rfl) [0,0] [] λm i=>.seg 1 λd=>.use _ (dy w ((y,u).1) ((z,t).1) u t h) [] [] λn j=>.seg 281543712976897 λe=>.use _ (lq w (O 1) (O 0) 2 0 ([(z,t),(y,u)]) (by trivial)) [0,0] [] λo k=>.seg 343681290243 λf=>a (t) trivial [] [] [])
noncomputable def yN (x y:Int) (t u:Nat) (z:Int):af:={d:=25,α:=Nat,c:=.builtin "min" ⟨[.int x t,.int y u],[]⟩,need:=[],r:=λv=>.ok (.ret (.int z v))}
theorem Bq (w:E9) (x y:Int) (t u:Nat) (z:Int) (p:min x y=z):ab (env w) (yN x y t u z):=by
 by_cases h:y<x
 .obtain rfl:z=y:=by omega
  exact av (λ_ a=>.seg 0x2001002001001001001001001001001001 λO=>.use _ (fZ w (O 1) (O 0) 0 0 ([(x,t),(z,u)]) (x,t) rfl) [1,1] [] λl g=>.seg 0x1001001003001003003003 λb=>.use _ (fZ w (O 1) (O 0) 1 0 ([(x,t),(z,u)]) (z,u) rfl) [0,0] [] λm i=>.seg 1 λd=>.use _ (gq w ((z,u).1) ((x,t).1) u t h) [] [] λn j=>.seg 0x1001001003001003003003 λe=>.use _ (lq w (O 1) (O 0) 2 0 ([(x,t),(z,u)]) (by trivial)) [0,0] [] λo k=>.seg 343681290243 λf=>a (u) trivial [] [] [])
 .obtain rfl:z=x:=by omega
  exact av (λ_ a=>.seg 0x2001002001001001001001001001001001 λO=>.use _ (fZ w (O 1) (O 0) 0 0 ([(z,t),(y,u)]) (z,t) rfl) [1,1] [] λl g=>.seg 0x1001001003001003003003 λb=>.use _ (fZ w (O 1) (O 0) 1 0 ([(z,t),(y,u)]) (y,u) rfl) [0,0] [] λm i=>.seg 1 λd=>.use _ (gr w ((y,u).1) ((z,t).1) u t h) [] [] λn j=>.seg 281543712976897 λe=>.use _ (lq w (O 1) (O 0) 2 0 ([(z,t),(y,u)]) (by trivial)) [0,0] [] λo k=>.seg 343681290243 λf=>a (t) trivial [] [] [])
noncomputable def rL (w:E9) (Y:Lw) (k m:List E6):af:={d:=60,α:=List (Nat×Nat)×Nat×Nat×Nat×Nat,c:=.block [aA (aI w.params) 24] (aq w.params Y),need:=[(Y.fr,bz w.params Y Y.lg k ([es w.params [97,104,101,97,100] Y.k9 (.int Y.a Y.ta),es w.params [109,101,101,116,115] Y.k10 (.ref Y.Mt),es w.params [106,111,105,110,115] Y.k11 (.ref Y.Jn)]++m) Y.fe),(Y.c1,aK (.str ⟨⟨Y.cps⟩⟩ Y.tN)),(Y.c2,aj Y.H),(Y.c11,aj Y.SD),(Y.H,dO w.params (.type "dict") none iv Y.mh Y.er),(Y.SD,dO w.params (.type "dict") none iv Y.ms Y.se)],new:=λx=>[(Y.fr,bz w.params Y Y.lg k ([es w.params [97,104,101,97,100] Y.k9 (.int Y.a Y.ta),es w.params [109,101,101,116,115] Y.k10 (.ref Y.Mt),es w.params [106,111,105,110,115] Y.k11 (.ref Y.Jn)]++(m++[es w.params [104,101,108,100] x.2.2.1 (.ref x.2.2.2.1)])) x.2.2.2.2),(Y.c1,aK (.str ⟨⟨Y.cps⟩⟩ Y.tN)),(Y.c2,aj Y.H),(Y.c11,aj Y.SD),(Y.H,dO w.params (.type "dict") none iv Y.mh Y.er),(Y.SD,dO w.params (.type "dict") none iv Y.ms Y.se),(x.2.2.2.1,ae (x.1.map cv) x.2.1)],post:=λx=>ad x.1=cV Y.mh Y.ms Y.cps}
theorem zn (w:E9) (Y:Lw) (k m:List E6) (hk:KM w.params k m) (h:∀c∈Y.cps,c<128) (u:∀c∈Y.cps,(∃v,look? Y.mh c=some v)/\∃v,look? Y.ms c=some v) (s:Y.cps.length<=10):ax (env w) (rL w Y k m) (Dn (.block [aA (aI w.params) 24] (aq w.params Y))):=by
 let B:∀{w:E9} {k:List E6} {m:List E6} {Y:Lw} (h:∀c∈Y.cps,c<128) (d:∀(b i a f g:Nat),ab (env w) {fN w Y b i a (λo=>ad o=cV Y.mh Y.ms Y.cps) 0 f [] g []with c:=bB (oW w.params) 0 i a (aq w.params Y) b [(⟨⟨[115,108,97,99,107]⟩⟩,Y.c11),(⟨⟨[104,111,117,114,115]⟩⟩,Y.c2)]}),PP (env w) (rL w Y k m):= @λw k m Y h d _ q=>
  .seg 4098 λE=>
  .use _ (fL w Y.cps Y.tN h) [] [] λD F=>
  .seg 1 λO=>
  .use _ (d (O 1) D (O 0) 0 0) [2,0,0,2,2,2,2] [] λx n=>have p:(λ(o:List (Nat×Nat))=>ad o=cV Y.mh Y.ms Y.cps) x.1:=(Fx n);have r:dk w.params x.2.2.1:=(Fg n);
  .or _ _ (r)
  (λj=>.view [0] [] _ _ _ _ ((bC (a:=O 1) (congrArg (λl=>oD l x.2.2.2) j)))
  (.seg 16805895 λe=>
  q (x.1,x.2.1,e 0,O 0,Y.fe+1) p [] [6,6,2,2,2,2,1] []))
  (λj=>.pick _ _ (j) λG t=>
  .pick _ _ (t) λH y=>
  .view [0] [] _ _ _ _ ((bC (a:=O 1) (congrArg (λl=>oD l x.2.2.2) y)))
  (.seg 281543712993287 λe=>
  q (x.1,x.2.1,e 0,O 0,Y.fe+1) p [] [6,6,2,2,2,2,1] []))
 have d:=λ(b i a f g:Nat)=>C4 w Y b i a u s f g
 rcases hk with⟨rfl | ⟨A,C,rfl⟩,rfl⟩ | ⟨rfl,rfl | ⟨A,C,rfl⟩⟩<;>exact aG _ (B h d)
noncomputable def mv (e:Expr):Expr:=(eP e).1
noncomputable def vu (e:Expr):Expr:=(eP e).2.1
noncomputable def fw (e:Expr):Comprehension:=(eP e).2.2.2.2.1.headD default
noncomputable def vw (e:Expr):Pos:=(eP e).2.2.1
noncomputable def di (P:E8):Expr:=dM (bI (aA (aI P) 25))
noncomputable def dh (P:E8):Expr:=dM (bI (aA (aI P) 26))
noncomputable def yS (b l i n:Nat) (a:List (Nat×Nat)) (x:Nat×Nat):af:={d:=5,α:=Unit,need:=[(b,aW "list_iterator" l i),(l,ae (a.map cv) n)],r:=λ_=>.ok (.ret (cv x)),put:=λ_=>[aW "list_iterator" l (i+1),ae (a.map cv) n]}
theorem Ed (P:E8):di P=.DictComp (mv (di P)) (vu (di P)) [fw (di P)] (nq (di P)) (vw (di P)):=by kernel_rfl
theorem Ec (P:E8):(fw (di P)).ifs=[]:=by kernel_rfl
theorem Ee (P:E8):(fw (di P)).is_async=0:=by kernel_rfl
theorem Eb (P:E8) (i v:Fb):Gr (fw (di P)).target i v=pure ():=l7 (by kernel_rfl) i v
noncomputable def y4 (w:E9) (a:Nat) (lo:List E6) (l:Nat) (x:Nat×Nat):af:={d:=5,α:=Nat×Nat,need:=[(a,oD lo l)],r:=λ_=>.ok (.ret (cv x)),put:=λy=>[oD [es w.params [110,97,109,101] y.1 (cv x)] y.2]}
noncomputable def y1 (w:E9) (Y:Lw) (a:Nat) (k l:Nat) (x:Nat×Nat) (z:Int):af:={d:=40,α:=Nat,need:=[(a,oD [es w.params [110,97,109,101] k (cv x)] l),(Y.c2,aj Y.H),(Y.c11,aj Y.SD),(Y.H,dO w.params (.type "dict") none iv Y.mh Y.er),(Y.SD,dO w.params (.type "dict") none iv Y.ms Y.se)],r:=λu=>.ok (.ret (.int z u)),new:=λ_=>[(a,oD [es w.params [110,97,109,101] k (cv x)] l),(Y.c2,aj Y.H),(Y.c11,aj Y.SD),(Y.H,dO w.params (.type "dict") none iv Y.mh Y.er),(Y.SD,dO w.params (.type "dict") none iv Y.ms Y.se)]}
theorem D6 (P:E8):dh P=.DictComp (mv (dh P)) (vu (dh P)) [fw (dh P)] (nq (dh P)) (vw (dh P)):=by kernel_rfl
theorem D5 (P:E8):(fw (dh P)).ifs=[]:=by kernel_rfl
theorem D7 (P:E8):(fw (dh P)).is_async=0:=by kernel_rfl
theorem D4 (P:E8) (i v:Fb):Gr (fw (dh P)).target i v=pure ():=l7 (by kernel_rfl) i v
noncomputable def y3 (w:E9) (a:Nat) (lo:List E6) (l:Nat) (x:Nat×Nat):af:={d:=5,α:=Nat×Nat,need:=[(a,oD lo l)],r:=λ_=>.ok (.ret (cv x)),put:=λy=>[oD [es w.params [110,97,109,101] y.1 (cv x)] y.2]}
noncomputable def y0 (w:E9) (Y:Lw) (a:Nat) (k l:Nat) (x:Nat×Nat) (z:Int):af:={d:=40,α:=Nat,need:=[(a,oD [es w.params [110,97,109,101] k (cv x)] l),(Y.c3,aj Y.E),(Y.c4,aj Y.G),(Y.c12,aj Y.Sp),(Y.E,dO w.params (.type "dict") none iv Y.me Y.ee),(Y.G,dO w.params (.type "dict") none iv Y.ml Y.el),(Y.Sp,cO w.params Y.Spd Y.mp Y.spe)],r:=λu=>.ok (.ret (.int z u)),new:=λ_=>[(a,oD [es w.params [110,97,109,101] k (cv x)] l),(Y.c3,aj Y.E),(Y.c4,aj Y.G),(Y.c12,aj Y.Sp),(Y.E,dO w.params (.type "dict") none iv Y.me Y.ee),(Y.G,dO w.params (.type "dict") none iv Y.ml Y.el),(Y.Sp,cO w.params Y.Spd Y.mp Y.spe)]}
theorem t9 {w:E9} {d:Nat} {o:Ctx} (H:bt (env w) d o) (C:5<=d) {a l i n:Nat} {g:List (Nat×Nat)} {x:Nat×Nat} (B:g[i]? =some x) {m s:Fe} {own:List Addr} {A r:List ao} {p:Pos} (k:List Nat) (G:Go (env w).kt m own s A.flatten) (D:take k [[(a,aW "list_iterator" l i)],[(l,ae (g.map cv) n)]] A (· =r)) {Q:Option Fb->Pos->Fe->Prop} {E:Fb->Pos->Fe->Prop} (v:∀b p,Go (env w).kt m own b ([(a,aW "list_iterator" l (i+1))]::[(l,ae (g.map cv) n)]::r).flatten->Q (some (cv x)) p b):wp (FT pq w) o (pyNext (.ref a)) Q E p s:=by
 have q:=Dh (t:=tN a) k (tk _ (λ_ I=>.seg 16781313 λO=>.use _ (cr w a l i n cv g x B) [0,0] [] λM L=>.seg 0 λJ=>I () trivial [0,0] [] []:PP (env w) (yS a l i n g x))) H C rfl G D (f0:=.ret (cv x)) (λ_=>rfl) (p:=p) (Q:=λf p b=>f=.ret (cv x)/\Q (some (cv x)) p b) (E:=λ_ _ _=>False) λu b p _ t=>⟨rfl,v b p t⟩
 unfold tN at q
 rw[E7]at q
 refine Fu _ _ _ (λr p F j=>?_) (λ_ _ _ h=>h.elim) _ _ q
 cases r with
 | none=>obtain⟨e,_⟩:Flow.brk=.ret (cv x)/\_:=j;cases e
 | some y=>
  obtain⟨e,h⟩:Flow.ret y=.ret (cv x)/\Q (some (cv x)) p F:=j
  injection e with e;subst e
  exact h
theorem u8 {w:E9} {v:Ctx} {a c t u e:Nat} {z:Int} {m:MI} {d s:Fe} {own:List Addr} {A r:List ao} {p:Pos} (n:List Nat) (G:Go (env w).kt d own s A.flatten) (l:take n [[(a,dO w.params (.type "dict") none iv m e)]] A (· =r)) (j:m.length<=1000)
 {Q:Unit->Pos->Fe->Prop} {E:Fb->Pos->Fe->Prop} (i:∀e g p,Go (env w).kt d own g ([(a,dO w.params (.type "dict") none iv (aw m c t (z,u)) e)]::r).flatten->Q () p g):wp (FT pq w) v (dictSet a (.str ⟨⟨[c]⟩⟩ t) (.int z u)) Q E p s:=by
 obtain⟨q,o,rfl⟩:=bW l
 have b:Go (env w).kt d own s ((a,dO w.params (.type "dict") none iv m e)::q.flatten):=G.perm o.flatten
 have k:=b.inv.has _ E2
 refine aL (vN (v:=((z,u):Int×Nat)) (f:=iv) k j λF h p=>?_)
 have h:F (dO w.params (.type "dict") none iv m e)=dO w.params (.type "dict") none iv (aw m c t (z,u)) (fv m c e):=h
 have f:=((ap.start b.pre).toks (s.toks+1)).set F (by exact E2) (by rw[h];rfl)
 rw[h]at f
 exact i (fv m c e) _ p (Go.step b f)
noncomputable def gP (w:E9) (Y:Lw) (b d a:Nat) (h:List (Nat×Nat)) (Q:MI->Prop) (i:Nat) (lo:List E6) (l:Nat) (m:MI) (e:Nat):af:={d:=50,α:=MI×Nat×List E6×Nat,c:=dE (di w.params) 0 d a (aq w.params Y) b [(⟨⟨[115,108,97,99,107]⟩⟩,Y.c11),(⟨⟨[104,111,117,114,115]⟩⟩,Y.c2)],need:=[(d,aW "list_iterator" Y.hl i),(Y.hl,ae (h.map cv) Y.hn),(b,oD lo l),(a,dO w.params (.type "dict") none iv m e),(Y.c2,aj Y.H),(Y.c11,aj Y.SD),(Y.H,dO w.params (.type "dict") none iv Y.mh Y.er),(Y.SD,dO w.params (.type "dict") none iv Y.ms Y.se)],new:=λx=>[(b,oD x.2.2.1 x.2.2.2),(a,dO w.params (.type "dict") none iv x.1 x.2.1),(Y.hl,ae (h.map cv) Y.hn),(Y.c2,aj Y.H),(Y.c11,aj Y.SD),(Y.H,dO w.params (.type "dict") none iv Y.mh Y.er),(Y.SD,dO w.params (.type "dict") none iv Y.ms Y.se)],post:=λx=>Q x.1/\dk w.params x.2.2.1}
theorem Ef (w:E9) (Y:Lw) (a k f:Nat) (j:List (Nat×Nat)) (Q:MI->Prop) (i:Nat) (lo:List E6) (l:Nat) (m:MI) (b:Nat) (J:dk w.params lo) (x:Nat×Nat) (z:Int) (h:j[i]? =some x) (v s:Int×Nat) (M:look? Y.mh x.1=some v) (L:look? Y.ms x.1=some s) (R:v.1-s.1=z) (S:m.length<=1000) (T:∀(n l u b:Nat),ab (env w) (gP w Y a k f j Q (i+1) [es w.params [110,97,109,101] n (cv x)] l (aw m x.1 x.2 (z,u)) b)):ab (env w) (gP w Y a k f j Q i lo l m b):=by
 intro r F g hE q p s0 X P E
 have g:r.handled=none:=g.resolve_left (λz=>nomatch z)
 have H:bt (env w) 50 r:=⟨g,q⟩
 have o:=congrArg (λe=>Code.compLoop e 0 (.ref k) (.ref f) (eU (di w.params) (aq w.params Y) a [(⟨⟨[115,108,97,99,107]⟩⟩,Y.c11),(⟨⟨[104,111,117,114,115]⟩⟩,Y.c2)])) (Ed w.params)
 have I:=F.trans o
 have G:=Go.eq (Go.start P) (ic _)
 rw[F3]
 refine vr I (Ec _) (Ee _) (Eb _) λp=>?_
 refine t9 H (by omega) h [0,0] G (eG rfl) λs1 p t=>⟨_,rfl,λp=>?_⟩
 have V:ax (env w) (y4 w a lo l x) (tV (assign (fw (di w.params)).target (eU (di w.params) (aq w.params Y) a [(⟨⟨[115,108,97,99,107]⟩⟩,Y.c11),(⟨⟨[104,111,117,114,115]⟩⟩,Y.c2)]) (cv x)>>=λ_=>Is (mv (di w.params)) (eU (di w.params) (aq w.params Y) a [(⟨⟨[115,108,97,99,107]⟩⟩,Y.c11),(⟨⟨[104,111,117,114,115]⟩⟩,Y.c2)]))):=by
  rcases J with rfl | ⟨n,va,rfl⟩
  .exact aG _ (λ_ d=>.seg 16781313 λO=>d (O 0,l+1) trivial [0] [] [])
  .exact aG _ (λ_ d=>.seg 16781313 λO=>d (n,l) trivial [0] [] [])
 refine ma [2] V H (by show 5<=50;omega) rfl t (eG rfl) (v0:=λ_=>cv x) (λ_=>rfl) λy s2 p _ A=>?_
 refine ma [0,3,3,3,3] (aG _ (λ_ d=>.seg 0x4001004004004001002 λO=>.use _ (cu w Y.H (Fz "dict") none Y.er (x.1) (x.2) Y.mh v M) [3] [] λx2 h2=>.seg 0x5001005005005002004 λZ=>.use _ (cu w Y.SD (Fz "dict") none Y.se (x.1) (x.2) Y.ms s L) [4] [] λx4 h4=>.seg 1 λO5=>.use _ (bx w (v.1) (s.1) (v.2) (s.2) z R) [] [] λW h6=>.seg 0 λO7=>d (W) trivial [] [2,2,2,1,0] []:PP (env w) (y1 w Y a y.1 y.2 x z))) H (by show 40<=50;omega) rfl A (eG rfl) (v0:=λu=>.int z u) (λ_=>rfl) λu s3 p _ B p=>?_
 refine u8 [7] B (eG rfl) S λb s4 p C=>?_
 refine⟨rfl,q9 (T y.1 y.2 u b) o g rfl q [6,6,1,0,0,0,0,0] C (eG rfl) λy U N D=>?_⟩
 exact E y U N (Go.sub (U:=(gP w Y a k f j Q i lo l m b).res y) (Go.eq D (eK y _).symm)).after
noncomputable def gO (w:E9) (Y:Lw) (b d a:Nat) (h:List (Nat×Nat)) (Q:MI->Prop) (i:Nat) (lo:List E6) (l:Nat) (m:MI) (e:Nat):af:={d:=50,α:=MI×Nat×List E6×Nat,c:=dE (dh w.params) 0 d a (aq w.params Y) b [(⟨⟨[115,112,97,114,101]⟩⟩,Y.c12),(⟨⟨[108,97,116,101]⟩⟩,Y.c4),(⟨⟨[101,97,114,108,121]⟩⟩,Y.c3)],need:=[(d,aW "list_iterator" Y.hl i),(Y.hl,ae (h.map cv) Y.hn),(b,oD lo l),(a,dO w.params (.type "dict") none iv m e),(Y.c3,aj Y.E),(Y.c4,aj Y.G),(Y.c12,aj Y.Sp),(Y.E,dO w.params (.type "dict") none iv Y.me Y.ee),(Y.G,dO w.params (.type "dict") none iv Y.ml Y.el),(Y.Sp,cO w.params Y.Spd Y.mp Y.spe)],new:=λx=>[(b,oD x.2.2.1 x.2.2.2),(a,dO w.params (.type "dict") none iv x.1 x.2.1),(Y.hl,ae (h.map cv) Y.hn),(Y.c3,aj Y.E),(Y.c4,aj Y.G),(Y.c12,aj Y.Sp),(Y.E,dO w.params (.type "dict") none iv Y.me Y.ee),(Y.G,dO w.params (.type "dict") none iv Y.ml Y.el),(Y.Sp,cO w.params Y.Spd Y.mp Y.spe)],post:=λx=>Q x.1/\dk w.params x.2.2.1}
theorem D8 (w:E9) (Y:Lw) (a k f:Nat) (j:List (Nat×Nat)) (Q:MI->Prop) (i:Nat) (lo:List E6) (l:Nat) (m:MI) (b:Nat) (L:dk w.params lo) (x:Nat×Nat) (z:Int) (h:j[i]? =some x) (v s:Int×Nat) (S:look? Y.me x.1=some v) (R:look? Y.ml x.1=some s) (q:Int) (M:min v.1 s.1=q) (N:q.natAbs<1000000) (U:q*aa Y.mp x.1=z) (V:m.length<=1000) (W:∀(n l u b:Nat),ab (env w) (gO w Y a k f j Q (i+1) [es w.params [110,97,109,101] n (cv x)] l (aw m x.1 x.2 (z,u)) b)):ab (env w) (gO w Y a k f j Q i lo l m b):=by
 intro t I g hE r p s0 Fk P F
 have g:t.handled=none:=g.resolve_left (λz=>nomatch z)
 have H:bt (env w) 50 t:=⟨g,r⟩
 have o:=congrArg (λe=>Code.compLoop e 0 (.ref k) (.ref f) (eU (dh w.params) (aq w.params Y) a [(⟨⟨[115,112,97,114,101]⟩⟩,Y.c12),(⟨⟨[108,97,116,101]⟩⟩,Y.c4),(⟨⟨[101,97,114,108,121]⟩⟩,Y.c3)])) (D6 w.params)
 have J:=I.trans o
 have G:=Go.eq (Go.start P) (ic _)
 rw[F3]
 refine vr J (D5 _) (D7 _) (D4 _) λp=>?_
 refine t9 H (by omega) h [0,0] G (eG rfl) λs1 p A=>⟨_,rfl,λp=>?_⟩
 have Z:ax (env w) (y3 w a lo l x) (tV (assign (fw (dh w.params)).target (eU (dh w.params) (aq w.params Y) a [(⟨⟨[115,112,97,114,101]⟩⟩,Y.c12),(⟨⟨[108,97,116,101]⟩⟩,Y.c4),(⟨⟨[101,97,114,108,121]⟩⟩,Y.c3)]) (cv x)>>=λ_=>Is (mv (dh w.params)) (eU (dh w.params) (aq w.params Y) a [(⟨⟨[115,112,97,114,101]⟩⟩,Y.c12),(⟨⟨[108,97,116,101]⟩⟩,Y.c4),(⟨⟨[101,97,114,108,121]⟩⟩,Y.c3)]))):=by
  rcases L with rfl | ⟨n,va,rfl⟩
  .exact aG _ (λ_ d=>.seg 16781313 λO=>d (O 0,l+1) trivial [0] [] [])
  .exact aG _ (λ_ d=>.seg 16781313 λO=>d (n,l) trivial [0] [] [])
 refine ma [2] Z H (by show 5<=50;omega) rfl A (eG rfl) (v0:=λ_=>cv x) (λ_=>rfl) λy s2 p _ B=>?_
 refine ma [0,3,3,3,3,3,3] (aG _ (λ_ d=>.seg 0x5001005005005001002000000 λO=>.use _ (cu w Y.E (Fz "dict") none Y.ee (x.1) (x.2) Y.me v S) [4] [] λx2 h2=>.seg 0x6001006006006002004 λO3=>.use _ (cu w Y.G (Fz "dict") none Y.el (x.1) (x.2) Y.ml s R) [5] [] λx4 h4=>.seg 1 λO5=>.use _ (Bq w (v.1) (s.1) (v.2) (s.2) q M) [] [] λx6 h6=>.seg 0x7001000000000007000007000000000007003006 λO7=>.use _ (dF w Y.Sp Y.Spd Y.mp Y.spe (x.1) (x.2)) [6] [] λx8 h8=>.seg 1 λO9=>.use _ (gp w q (aa Y.mp x.1) x6 x8 z N U) [] [] λgt Iv=>.seg 0 λio=>d (gt) trivial [] [3,3,3,3,2,1,0] []:PP (env w) (y0 w Y a y.1 y.2 x z))) H (by show 40<=50;omega) rfl B (eG rfl) (v0:=λu=>.int z u) (λ_=>rfl) λu s3 p _ C p=>?_
 refine u8 [9] C (eG rfl) V λb s4 p D=>?_
 refine⟨rfl,q9 (W y.1 y.2 u b) o g rfl r [8,8,1,0,0,0,0,0,0,0] D (eG rfl) λy X T E=>?_⟩
 exact F y X T (Go.sub (U:=(gO w Y a k f j Q i lo l m b).res y) (Go.eq E (eK y _).symm)).after
theorem Eh (w:E9) (Y:Lw) (y g t:Nat) (h:List (Nat×Nat)) (Q:MI->Prop) (f:Nat->Int) (H:(ad h).Nodup) (P:h.length<=900) (J:∀x∈h,∃v s:Int×Nat,look? Y.mh x.1=some v/\look? Y.ms x.1=some s/\v.1-s.1=f x.1) (E:∀m,aH m=(ad h).map (λc=>(c,f c))->Q m):∀(r:List (Nat×Nat)) (i:Nat) (lo:List E6) (l:Nat) (m:MI) (a:Nat),h.drop i=r->i<=h.length->dk w.params lo->aH m=((ad h).take i).map (λc=>(c,f c))->ab (env w) (gP w Y y g t h Q i lo l m a):=by
 intro r
 induction r with
 | nil=>
  intro i lo l m a b F n o
  have e:i=h.length:=by have:=congrArg Fo b;rw[Ha]at this;simp at this;omega
  have B:Q m:=E m (by rw[o,e,<-eV,GJ])
  rcases n with rfl | ⟨k,C,rfl⟩
  .exact ct (λ_ q=>.seg 68736258049 λO=>.use _ (ch w g Y.hl i Y.hn cv h (aV b)) [0,0] [] λN j=>.seg 3 λD=>q (m,a,[],l) ⟨B,.inl rfl⟩ [] [4,4,1,3,3,3,3] [])
  .exact ct (λ_ q=>.seg 68736258049 λO=>.use _ (ch w g Y.hl i Y.hn cv h (aV b)) [0,0] [] λN j=>.seg 3 λD=>q (m,a,[es w.params [110,97,109,101] k C],l) ⟨B,.inr ⟨k,C,rfl⟩⟩ [] [4,4,1,3,3,3,3] [])
 | cons x r M=>
  intro i lo l m a b F n p
  obtain⟨d,j⟩:=aQ b
  have R:i<h.length:=(Fa.mp d).1
  have hk:ak m=(ad h).take i:=ef p
  have G:m.length<=1000:=by have:=congrArg Fo hk;unfold ak at this;rw[Fq,FQ,eV]at this;omega
  have A:(ad h)[i]? =some x.1:=by unfold ad;rw[Fl,d];rfl
  obtain⟨v,s,o,I,L⟩:=J x (FD d)
  refine Ef w Y y g t h Q i lo l m a n x (f x.1) d v s o I L G λk l u a=>?_
  refine M (i+1) _ l _ a j (by omega) (.inr ⟨k,_,rfl⟩) ?_
  rw[fi (by rw[hk];exact hY H A),f5 A]
  unfold aH at p⊢
  rw[Ff,Ff,p];rfl
theorem Eg (w:E9) (Y:Lw) (d i b:Nat) (a:List (Nat×Nat)) (f:Nat->Int) (j:(ad a).Nodup) (g:a.length<=900) (k:∀x∈a,∃v s:Int×Nat,look? Y.mh x.1=some v/\look? Y.ms x.1=some s/\v.1-s.1=f x.1) (l e:Nat):ab (env w) {gP w Y d i b a (λm=>aH m=(ad a).map (λc=>(c,f c))) 0 [] l [] e with c:=bB (di w.params) 0 i b (aq w.params Y) d [(⟨⟨[115,108,97,99,107]⟩⟩,Y.c11),(⟨⟨[104,111,117,114,115]⟩⟩,Y.c2)]}:=
 dq gI (o:=aW "list_iterator" Y.hl 0) rfl (by simp[gP]) (by kernel_rfl) (by kernel_rfl) rfl (Eh w Y d i b a _ f j g k (λm h=>h) a 0 [] l [] e rfl (Gi _) (.inl rfl) rfl)
theorem Ea (w:E9) (Y:Lw) (y g t:Nat) (h:List (Nat×Nat)) (Q:MI->Prop) (f:Nat->Int) (H:(ad h).Nodup) (R:h.length<=900) (L:∀x∈h,∃v s:Int×Nat,look? Y.me x.1=some v/\look? Y.ml x.1=some s/\(min v.1 s.1).natAbs<1000000/\min v.1 s.1*aa Y.mp x.1=f x.1) (E:∀m,aH m=(ad h).map (λc=>(c,f c))->Q m):∀(r:List (Nat×Nat)) (i:Nat) (lo:List E6) (l:Nat) (m:MI) (a:Nat),h.drop i=r->i<=h.length->dk w.params lo->aH m=((ad h).take i).map (λc=>(c,f c))->ab (env w) (gO w Y y g t h Q i lo l m a):=by
 intro r
 induction r with
 | nil=>
  intro i lo l m a b F n o
  have e:i=h.length:=by have:=congrArg Fo b;rw[Ha]at this;simp at this;omega
  have B:Q m:=E m (by rw[o,e,<-eV,GJ])
  rcases n with rfl | ⟨k,C,rfl⟩
  .exact ct (λ_ q=>.seg 68736258049 λO=>.use _ (ch w g Y.hl i Y.hn cv h (aV b)) [0,0] [] λP j=>.seg 3 λD=>q (m,a,[],l) ⟨B,.inl rfl⟩ [] [4,4,1,3,3,3,3,3,3] [])
  .exact ct (λ_ q=>.seg 68736258049 λO=>.use _ (ch w g Y.hl i Y.hn cv h (aV b)) [0,0] [] λP j=>.seg 3 λD=>q (m,a,[es w.params [110,97,109,101] k C],l) ⟨B,.inr ⟨k,C,rfl⟩⟩ [] [4,4,1,3,3,3,3,3,3] [])
 | cons x r N=>
  intro i lo l m a b F n p
  obtain⟨d,j⟩:=aQ b
  have S:i<h.length:=(Fa.mp d).1
  have hk:ak m=(ad h).take i:=ef p
  have G:m.length<=1000:=by have:=congrArg Fo hk;unfold ak at this;rw[Fq,FQ,eV]at this;omega
  have A:(ad h)[i]? =some x.1:=by unfold ad;rw[Fl,d];rfl
  obtain⟨v,s,o,J,I,M⟩:=L x (FD d)
  refine D8 w Y y g t h Q i lo l m a n x (f x.1) d v s o J _ rfl I M G λk l u a=>?_
  refine N (i+1) _ l _ a j (by omega) (.inr ⟨k,_,rfl⟩) ?_
  rw[fi (by rw[hk];exact hY H A),f5 A]
  unfold aH at p⊢
  rw[Ff,Ff,p];rfl
theorem D9 (w:E9) (Y:Lw) (d i b:Nat) (a:List (Nat×Nat)) (f:Nat->Int) (j:(ad a).Nodup) (g:a.length<=900) (k:∀x∈a,∃v s:Int×Nat,look? Y.me x.1=some v/\look? Y.ml x.1=some s/\(min v.1 s.1).natAbs<1000000/\min v.1 s.1*aa Y.mp x.1=f x.1) (l e:Nat):ab (env w) {gO w Y d i b a (λm=>aH m=(ad a).map (λc=>(c,f c))) 0 [] l [] e with c:=bB (dh w.params) 0 i b (aq w.params Y) d [(⟨⟨[115,112,97,114,101]⟩⟩,Y.c12),(⟨⟨[108,97,116,101]⟩⟩,Y.c4),(⟨⟨[101,97,114,108,121]⟩⟩,Y.c3)]}:=
 dq gI (o:=aW "list_iterator" Y.hl 0) rfl (by simp[gO]) (by kernel_rfl) (by kernel_rfl) rfl (Ea w Y d i b a _ f j g k (λm h=>h) a 0 [] l [] e rfl (Gi _) (.inl rfl) rfl)
noncomputable def yU (w:E9) (Y:Lw) (s:Nat):af:={d:=60,α:=Nat×Nat,need:=[(Y.c12,aj Y.Sp),(Y.Sp,cO w.params Y.Spd Y.mp Y.spe),(Y.Spd,oD [] s)],r:=λx=>.ok (.ret (.ref x.1)),new:=λx=>[(Y.c12,aj Y.Sp),(Y.Sp,cO w.params Y.Spd Y.mp Y.spe),(Y.Spd,oD [] s),(x.1,dO w.params (.type "dict") none iv Y.mp x.2)]}
noncomputable def rR (w:E9) (Y:Lw) (h:List (Nat×Nat)) (f:Nat->Int) (k m:List E6):af:={d:=70,α:=Nat×MI×Nat,need:=[(Y.fr,bz w.params Y Y.lg k ([es w.params [97,104,101,97,100] Y.k9 (.int Y.a Y.ta),es w.params [109,101,101,116,115] Y.k10 (.ref Y.Mt),es w.params [106,111,105,110,115] Y.k11 (.ref Y.Jn)]++(m++[es w.params [104,101,108,100] Y.k12 (.ref Y.hl)])) Y.fe),(Y.hl,ae (h.map cv) Y.hn),(Y.c2,aj Y.H),(Y.c11,aj Y.SD),(Y.H,dO w.params (.type "dict") none iv Y.mh Y.er),(Y.SD,dO w.params (.type "dict") none iv Y.ms Y.se)],r:=λx=>.ok (.ret (.ref x.1)),new:=λx=>[(Y.fr,bz w.params Y Y.lg k ([es w.params [97,104,101,97,100] Y.k9 (.int Y.a Y.ta),es w.params [109,101,101,116,115] Y.k10 (.ref Y.Mt),es w.params [106,111,105,110,115] Y.k11 (.ref Y.Jn)]++(m++[es w.params [104,101,108,100] Y.k12 (.ref Y.hl)])) Y.fe),(Y.hl,ae (h.map cv) Y.hn),(Y.c2,aj Y.H),(Y.c11,aj Y.SD),(Y.H,dO w.params (.type "dict") none iv Y.mh Y.er),(Y.SD,dO w.params (.type "dict") none iv Y.ms Y.se),(x.1,dO w.params (.type "dict") none iv x.2.1 x.2.2)],post:=λx=>aH x.2.1=(ad h).map (λc=>(c,f c))}
theorem zH (w:E9) (Y:Lw) (h:List (Nat×Nat)) (f:Nat->Int) (k b:List E6) (hk:KM w.params k b) (A:(ad h).Nodup) (u:h.length<=900) (C:∀x∈h,∃v s:Int×Nat,look? Y.mh x.1=some v/\look? Y.ms x.1=some s/\v.1-s.1=f x.1):ax (env w) (rR w Y h f k b) (tV (Is (dM (bI (aA (aI w.params) 25))) (aq w.params Y))):=by
 let E:∀{w:E9} {k:List E6} {b:List E6} {Y:Lw} {h:List (Nat×Nat)} {f:Nat->Int} (g:∀(e i d n j:Nat),ab (env w) {gP w Y e i d h (λm=>aH m=(ad h).map (λc=>(c,f c))) 0 [] n [] j with c:=bB (di w.params) 0 i d (aq w.params Y) e [(⟨⟨[115,108,97,99,107]⟩⟩,Y.c11),(⟨⟨[104,111,117,114,115]⟩⟩,Y.c2)]}),PP (env w) (rR w Y h f k b):= @λw k b Y h f g _ q=>
  .seg 0x1001002001002002001 λO=>
  .use _ (g (O 2) (O 0) (O 1) 0 0) [2,3,0,0,1,1,1,1] [] λa o=>have p:(λ(m:MI)=>aH m=Gx (λ(c:Nat)=>(c,f c)) (ad h)) a.1:=(Fx o);have t:dk w.params a.2.2.1:=(Fg o);
  .or _ _ (t)
  (λo3=>.view [0] [] _ _ _ _ ((bC (a:=O 2) (congrArg (λl=>oD l a.2.2.2) o3)))
  (.seg 1 λr=>
  q (O 1,a.1,a.2.1) p [] [7,2,2,2,2,2,1] []))
  (λo3=>.pick _ _ (o3) λG y=>
  .pick _ _ (y) λH B=>
  .view [0] [] _ _ _ _ ((bC (a:=O 2) (congrArg (λl=>oD l a.2.2.2) B)))
  (.seg 16781313 λr=>
  q (O 1,a.1,a.2.1) p [] [7,2,2,2,2,2,1] []))
 have g:=λ(e i d n j:Nat)=>Eg w Y e i d h f A u C n j
 rcases hk with⟨rfl | ⟨D,F,rfl⟩,rfl⟩ | ⟨rfl,rfl | ⟨D,F,rfl⟩⟩<;>exact aG _ (E g)
noncomputable def rQ (w:E9) (Y:Lw) (h:List (Nat×Nat)) (f:Nat->Int) (k m:List E6):af:={d:=70,α:=Nat×MI×Nat,need:=[(Y.fr,bz w.params Y Y.lg k ([es w.params [97,104,101,97,100] Y.k9 (.int Y.a Y.ta),es w.params [109,101,101,116,115] Y.k10 (.ref Y.Mt),es w.params [106,111,105,110,115] Y.k11 (.ref Y.Jn)]++(m++[es w.params [104,101,108,100] Y.k12 (.ref Y.hl)])) Y.fe),(Y.hl,ae (h.map cv) Y.hn),(Y.c3,aj Y.E),(Y.c4,aj Y.G),(Y.c12,aj Y.Sp),(Y.E,dO w.params (.type "dict") none iv Y.me Y.ee),(Y.G,dO w.params (.type "dict") none iv Y.ml Y.el),(Y.Sp,cO w.params Y.Spd Y.mp Y.spe)],r:=λx=>.ok (.ret (.ref x.1)),new:=λx=>[(Y.fr,bz w.params Y Y.lg k ([es w.params [97,104,101,97,100] Y.k9 (.int Y.a Y.ta),es w.params [109,101,101,116,115] Y.k10 (.ref Y.Mt),es w.params [106,111,105,110,115] Y.k11 (.ref Y.Jn)]++(m++[es w.params [104,101,108,100] Y.k12 (.ref Y.hl)])) Y.fe),(Y.hl,ae (h.map cv) Y.hn),(Y.c3,aj Y.E),(Y.c4,aj Y.G),(Y.c12,aj Y.Sp),(Y.E,dO w.params (.type "dict") none iv Y.me Y.ee),(Y.G,dO w.params (.type "dict") none iv Y.ml Y.el),(Y.Sp,cO w.params Y.Spd Y.mp Y.spe),(x.1,dO w.params (.type "dict") none iv x.2.1 x.2.2)],post:=λx=>aH x.2.1=(ad h).map (λc=>(c,f c))}
theorem zG (w:E9) (Y:Lw) (h:List (Nat×Nat)) (f:Nat->Int) (k b:List E6) (hk:KM w.params k b) (A:(ad h).Nodup) (u:h.length<=900) (C:∀x∈h,∃v s:Int×Nat,look? Y.me x.1=some v/\look? Y.ml x.1=some s/\(min v.1 s.1).natAbs<1000000/\min v.1 s.1*aa Y.mp x.1=f x.1):ax (env w) (rQ w Y h f k b) (tV (Is (dM (bI (aA (aI w.params) 26))) (aq w.params Y))):=by
 let E:∀{w:E9} {k:List E6} {b:List E6} {Y:Lw} {h:List (Nat×Nat)} {f:Nat->Int} (g:∀(e i d n j:Nat),ab (env w) {gO w Y e i d h (λm=>aH m=(ad h).map (λc=>(c,f c))) 0 [] n [] j with c:=bB (dh w.params) 0 i d (aq w.params Y) e [(⟨⟨[115,112,97,114,101]⟩⟩,Y.c12),(⟨⟨[108,97,116,101]⟩⟩,Y.c4),(⟨⟨[101,97,114,108,121]⟩⟩,Y.c3)]}),PP (env w) (rQ w Y h f k b):= @λw k b Y h f g _ q=>
  .seg 0x1001002001002002001 λO=>
  .use _ (g (O 2) (O 0) (O 1) 0 0) [2,3,0,0,1,1,1,1,1,1] [] λa o=>have p:(λ(m:MI)=>aH m=Gx (λ(c:Nat)=>(c,f c)) (ad h)) a.1:=(Fx o);have t:dk w.params a.2.2.1:=(Fg o);
  .or _ _ (t)
  (λo3=>.view [0] [] _ _ _ _ ((bC (a:=O 2) (congrArg (λl=>oD l a.2.2.2) o3)))
  (.seg 1 λr=>
  q (O 1,a.1,a.2.1) p [] [9,2,2,2,2,2,2,2,1] []))
  (λo3=>.pick _ _ (o3) λG y=>
  .pick _ _ (y) λH B=>
  .view [0] [] _ _ _ _ ((bC (a:=O 2) (congrArg (λl=>oD l a.2.2.2) B)))
  (.seg 16781313 λr=>
  q (O 1,a.1,a.2.1) p [] [9,2,2,2,2,2,2,2,1] []))
 have g:=λ(e i d n j:Nat)=>D9 w Y e i d h f A u C n j
 rcases hk with⟨rfl | ⟨D,F,rfl⟩,rfl⟩ | ⟨rfl,rfl | ⟨D,F,rfl⟩⟩<;>exact aG _ (E g)
noncomputable def r9 (w:E9) (Y:Lw) (M b a:Nat) (m:MI) (k d:List E6):af:={d:=60,α:=Nat×Nat,need:=[(Y.fr,bz w.params Y Y.lg k ([es w.params [97,104,101,97,100] Y.k9 (.int Y.a Y.ta),es w.params [109,101,101,116,115] Y.k10 (.ref Y.Mt),es w.params [106,111,105,110,115] Y.k11 (.ref Y.Jn)]++(d++[es w.params [104,101,108,100] Y.k12 (.ref Y.hl)])) Y.fe),(Y.Mt,cO w.params M m b),(M,oD [] a)],r:=λx=>.ok (.ret (.ref x.1)),new:=λx=>[(Y.fr,bz w.params Y Y.lg k ([es w.params [97,104,101,97,100] Y.k9 (.int Y.a Y.ta),es w.params [109,101,101,116,115] Y.k10 (.ref Y.Mt),es w.params [106,111,105,110,115] Y.k11 (.ref Y.Jn)]++(d++[es w.params [104,101,108,100] Y.k12 (.ref Y.hl)])) Y.fe),(Y.Mt,cO w.params M m b),(M,oD [] a),(x.1,dO w.params (.type "dict") none iv m x.2)]}
theorem Cc (w:E9) (Y:Lw) (M b a:Nat) (m:MI) (k d:List E6) (hk:KM w.params k d) (h:m.length<=8) (e:(ak m).Nodup):ax (env w) (r9 w Y M b a m k d) (tV (Is (fR (bI (aA (aI w.params) 26))) (aq w.params Y))):=by
 let p:∀{w:E9} {k:List E6} {d:List E6} {Y:Lw} {M b a:Nat} {m:MI} (h:m.length<=8) (e:(ak m).Nodup),PP (env w) (r9 w Y M b a m k d):= @λw k d Y M b a m h e _ g=>
  .seg 0x1001001001001001001001001000000 λO=>
  .use _ (pk w (O 0) 0 Y.Mt M a m b h e) [0,1,1] [] λx j=>
  .seg 0 λi=>
  g (O 0,x) trivial [] [3,1,1,0] []
 rcases hk with⟨rfl | ⟨f,v,rfl⟩,rfl⟩ | ⟨rfl,rfl | ⟨f,v,rfl⟩⟩<;>exact aG _ (p h e)
noncomputable def fD (P:E8) (x:List E6):Prop:=x=[]\/∃k v,x=[es P [97,108,111,110,101] k v]
noncomputable def fO (w:E9) (Y:Lw) (a k D:Nat) (Q:MI->Prop) (i e t:Nat) (b m d:List E6) (f:Nat) (g:MI) (de:Nat):af:={d:=60,α:=MI×Nat×List E6×Nat×Nat×Nat,c:=bR (aA (aI w.params) 28) (.ref a) (aq w.params Y),need:=[(a,cq Y.cps Y.tN i),(Y.fr,bz w.params Y Y.lg b ([es w.params [97,104,101,97,100] Y.k9 (.int Y.a Y.ta),es w.params [109,101,101,116,115] Y.k10 (.ref Y.Mt),es w.params [106,111,105,110,115] Y.k11 (.ref Y.Jn)]++(m++([es w.params [104,101,108,100] Y.k12 (.ref Y.hl),es w.params [100,117,101] k (.ref D)]++d))) f),(Y.c2,aj Y.H),(Y.c3,aj Y.E),(Y.c4,aj Y.G),(Y.c7,aK (.str ⟨⟨[e]⟩⟩ t)),(Y.c12,aj Y.Sp),(Y.H,dO w.params (.type "dict") none iv Y.mh Y.er),(Y.E,dO w.params (.type "dict") none iv Y.me Y.ee),(Y.G,dO w.params (.type "dict") none iv Y.ml Y.el),(Y.Sp,cO w.params Y.Spd Y.mp Y.spe),(D,dO w.params (.type "dict") none iv g de)],new:=λx=>[(Y.fr,bz w.params Y Y.lg b ([es w.params [97,104,101,97,100] Y.k9 (.int Y.a Y.ta),es w.params [109,101,101,116,115] Y.k10 (.ref Y.Mt),es w.params [106,111,105,110,115] Y.k11 (.ref Y.Jn)]++(m++([es w.params [104,101,108,100] Y.k12 (.ref Y.hl),es w.params [100,117,101] k (.ref D)]++x.2.2.1))) x.2.2.2.1),(Y.c2,aj Y.H),(Y.c3,aj Y.E),(Y.c4,aj Y.G),(Y.c7,aK (.str ⟨⟨[x.2.2.2.2.1]⟩⟩ x.2.2.2.2.2)),(Y.c12,aj Y.Sp),(Y.H,dO w.params (.type "dict") none iv Y.mh Y.er),(Y.E,dO w.params (.type "dict") none iv Y.me Y.ee),(Y.G,dO w.params (.type "dict") none iv Y.ml Y.el),(Y.Sp,cO w.params Y.Spd Y.mp Y.spe),(D,dO w.params (.type "dict") none iv x.1 x.2.1)],post:=λx=>Q x.1/\fD w.params x.2.2.1}
noncomputable def dU (m:MI) (a:List Nat):List Nat:=a.filter λc=>decide (0<aa m c)
theorem DM (w:E9) (Y:Lw) (a g D:Nat) (Q:MI->Prop) (J L:List E6) (hk:KM w.params J L) (zF:Nat->Int) (IC:Y.cps.Nodup) (V:Y.cps.length<=10) (hx:∀c∈Y.cps,∃v s u:Int×Nat,look? Y.mh c=some v/\look? Y.me c=some s/\look? Y.ml c=some u/\(max s.1 u.1).natAbs<1000000/\(s.1+u.1).natAbs<1000000/\max s.1 u.1*aa Y.mp c+(s.1+u.1)*(v.1-aa Y.mp c)=zF c) (R:∀Iv,aH Iv=(dU Y.mh Y.cps).map (λc=>(c,zF c))->Q Iv):∀(Z:List Nat) (i b t:Nat) (r:List E6) (f:Nat) (m:MI) (de:Nat),Y.cps.drop i=Z->i<=Y.cps.length->fD w.params r->aH m=(dU Y.mh (Y.cps.take i)).map (λc=>(c,zF c))->ab (env w) (fO w Y a g D Q i b t J L r f m de):=by
 let O:∀{w:E9} {lo:List E6} {J:List E6} {L:List E6} {Y:Lw} {a g D:Nat} {Q:MI->Prop} {i b t f:Nat} {m:MI} {de:Nat} (c:Nat) (v s u:Int×Nat) (z:Int) (h:Y.cps[i]? =some c) (d:look? Y.mh c=some v) (o:look? Y.me c=some s) (p:look? Y.ml c=some u) (q:Int) (C:max s.1 u.1=q) (E:q.natAbs<1000000) (A:(s.1+u.1).natAbs<1000000) (ID:m.length<=900) (F:q*aa Y.mp c+(s.1+u.1)*(v.1-aa Y.mp c)=z) (H:0<v.1->∀(t f k y de u1 u2:Nat),ab (env w) (fO w Y a g D Q (i+1) c t J L [es w.params [97,108,111,110,101] k (.int (v.1-aa Y.mp c) y)] f (aw m c u1 (z,u2)) de)) (G:¬0<v.1->∀(t:Nat),ab (env w) (fO w Y a g D Q (i+1) c t J L lo f m de)),PP (env w) (fO w Y a g D Q i b t J L lo f m de):= @λw lo J L Y a g D Q i b t f m de c v s u z h d o p q C E A ID F H G _ j=>
  .seg 68736258049 λS=>.use _ (eH w a Y.tN i Y.cps c h) [0] [] λx I=>.seg 0x8001008008008006003006006 λT=>.use _ (cu w Y.H (Fz "dict") none Y.er c x Y.mh v d) [7] [] λx4 h4=>.seg 1 λO5=>.or (0<v.1) (¬(0<v.1)) (FK _) (λW=>.use _ (dx w (v.1) 0 (v.2) (O5 0) W) [] [] λx7 h7=>.seg 0x1001001001001007004 λO8=>.use _ (cu w Y.H (Fz "dict") none Y.er c x Y.mh v d) [0] [] λM V=>.seg 0xb00100000000000b00000b00000000000b007008 λIM=>.use _ (dF w Y.Sp Y.Spd Y.mp Y.spe c x) [10] [] λIE I0=>.seg 1 λIN=>.use _ (bx w (v.1) (aa Y.mp c) (v.2) IE (v.1-aa Y.mp c) rfl) [] [] λIy I3=>.seg 0xa00100a00a00a008006000000004004 λIA=>.use _ (cu w Y.E (Fz "dict") none Y.ee c x Y.me s o) [9] [] λJl I4=>.seg 0xb00100b00b00b009008 λIP=>.use _ (cu w Y.G (Fz "dict") none Y.el c x Y.ml u p) [10] [] λJm I5=>.seg 1 λIQ=>.use _ (Bw w (s.1) (u.1) (s.2) (u.2) q C) [] [] λIF I6=>.seg 0x300100000000000300000300000000000300a00b λIR=>.use _ (dF w Y.Sp Y.Spd Y.mp Y.spe c x) [2] [] λIG I7=>.seg 1 λIS=>.use _ (gp w q (aa Y.mp c) IF IG (q*aa Y.mp c) E rfl) [] [] λII I8=>.seg 0x300100300300300a008 λIT=>.use _ (cu w Y.E (Fz "dict") none Y.ee c x Y.me s o) [2] [] λx25 I9=>.seg 0x300100300300300a009 λIU=>.use _ (cu w Y.G (Fz "dict") none Y.el c x Y.ml u p) [2] [] λJo Ja=>.seg 1 λIV=>.use _ (b8 w (s.1) (u.1) (s.2) (u.2) (s.1+u.1) rfl) [] [] λIJ Jb=>.seg 4102 λIW=>.use _ (gp w (s.1+u.1) (v.1-aa Y.mp c) IJ Iy ((s.1+u.1)*(v.1-aa Y.mp c)) A rfl) [] [] λIK Jc=>.seg 1 λIX=>.use _ (b8 w (q*aa Y.mp c) ((s.1+u.1)*(v.1-aa Y.mp c)) II IK z F) [] [] λIz Je=>.seg 0xc00100c00c00a006 λIY=>.use _ (f6 w D none de c x m z Iz (by omega)) [11] [] λIL Jf=>.seg 0 λIZ=>.use _ (H W x (kE lo f) (kT lo (IA 0)) Iy IL x Iz) [5,5,5,5,5,5,5,4,2,1,1,0] [] λP gt=>have Jg:Q P.1:=(Fx gt);have Jh:fD w.params P.2.2.1:=(Fg gt);j (P.1,P.2.1,P.2.2.1,P.2.2.2.1,P.2.2.2.2.1,P.2.2.2.2.2) gt [] [0,0,0,0,0,0,0,0,0,0,0] []) (λW=>.use _ (dy w (v.1) 0 (v.2) (O5 0) W) [] [] λx7 h7=>.seg 0 λO8=>.use _ (G W x) [1,1,1,1,1,1,1,0,0,0,0,0] [] λM V=>have Ji:Q M.1:=(Fx V);have Jj:fD w.params M.2.2.1:=(Fg V);j (M.1,M.2.1,M.2.2.1,M.2.2.2.1,M.2.2.2.2.1,M.2.2.2.2.2) V [] [0,0,0,0,0,0,0,0,0,0,0] [])
 let Iw:∀{w:E9} {Y:Lw} {a g D:Nat} {Q:MI->Prop} {i b t f:Nat} {m:MI} {de:Nat} (h:Y.cps[i]? =none) (R:Q m),PP (env w) (fO w Y a g D Q i b t [] [] [] f m de):= @λw Y a g D Q i b t f m de h R _ j=>
  .seg 68736258049 λS=>
  .use _ (cJ w a Y.tN i Y.cps h) [0] [] λx I=>
  .seg 2 λT=>
  .seg 1 λU=>
  j (m,de,[],f,b,t) ⟨R,.inl rfl⟩ [] [3,3,3,3,3,3,3,3,3,3,3] []
 let Ix:∀{w:E9} {Y:Lw} {a g D:Nat} {Q:MI->Prop} {i b t f:Nat} {m:MI} {de:Nat} {k:Nat} {e:Fb} (h:Y.cps[i]? =none) (R:Q m),PP (env w) (fO w Y a g D Q i b t [] [] [es w.params [97,108,111,110,101] k e] f m de):= @λw Y a g D Q i b t f m de k e h R _ j=>
  .seg 68736258049 λS=>
  .use _ (cJ w a Y.tN i Y.cps h) [0] [] λx I=>
  .seg 2 λT=>
  .seg 1 λU=>
  j (m,de,[es w.params [97,108,111,110,101] k e],f,b,t) ⟨R,.inr ⟨k,e,rfl⟩⟩ [] [3,3,3,3,3,3,3,3,3,3,3] []
 intro Z
 induction Z with
 | nil=>
  intro i b t r f m de B hi l d
  have IB:i=Y.cps.length:=by have:=congrArg Fo B;rw[Ha]at this;simp at this;omega
  rw[IB,GJ]at d
  have C:=R m d
  rcases hk with⟨rfl | ⟨k4,v4,rfl⟩,rfl⟩ | ⟨rfl,rfl | ⟨k4,v4,rfl⟩⟩
  .rcases l with rfl | ⟨k,e,rfl⟩
   .exact ct (Iw (aV B) C)
   .exact ct (Ix (aV B) C)
  .rcases l with rfl | ⟨k,e,rfl⟩
   .exact ct (λ_ j=>.seg 68736258049 λS=>.use _ (cJ w a Y.tN i Y.cps (aV B)) [0] [] λx I=>.seg 2 λT=>.seg 1 λU=>j (m,de,[],f,b,t) ⟨C,.inl rfl⟩ [] [3,3,3,3,3,3,3,3,3,3,3] [])
   .exact ct (λ_ j=>.seg 68736258049 λS=>.use _ (cJ w a Y.tN i Y.cps (aV B)) [0] [] λx I=>.seg 2 λT=>.seg 1 λU=>j (m,de,[es w.params [97,108,111,110,101] k e],f,b,t) ⟨C,.inr ⟨k,e,rfl⟩⟩ [] [3,3,3,3,3,3,3,3,3,3,3] [])
  .rcases l with rfl | ⟨k,e,rfl⟩
   .exact ct (Iw (aV B) C)
   .exact ct (Ix (aV B) C)
  .rcases l with rfl | ⟨k,e,rfl⟩
   .exact ct (λ_ j=>.seg 68736258049 λS=>.use _ (cJ w a Y.tN i Y.cps (aV B)) [0] [] λx I=>.seg 2 λT=>.seg 1 λU=>j (m,de,[],f,b,t) ⟨C,.inl rfl⟩ [] [3,3,3,3,3,3,3,3,3,3,3] [])
   .exact ct (λ_ j=>.seg 68736258049 λS=>.use _ (cJ w a Y.tN i Y.cps (aV B)) [0] [] λx I=>.seg 2 λT=>.seg 1 λU=>j (m,de,[es w.params [97,108,111,110,101] k e],f,b,t) ⟨C,.inr ⟨k,e,rfl⟩⟩ [] [3,3,3,3,3,3,3,3,3,3,3] [])
 | cons c Z ih=>
  intro i b t r f m de B hi l X
  obtain⟨n,I⟩:=aQ B
  have Jk:i<Y.cps.length:=(Fa.mp n).1
  have io:ak m=dU Y.mh (Y.cps.take i):=ef X
  have N:m.length<=900:=by
   have:=congrArg Fo io
   unfold ak dU at this
   rw[Fq]at this
   have h3:=List.length_filter_le (λc=>decide (0<aa Y.mh c)) (Y.cps.take i)
   rw[FQ]at h3
   omega
  obtain⟨v,s,u,d,o,p,E,A,F⟩:=hx c (FD n)
  have gv:aa Y.mh c=v.1:=by unfold aa;rw[d];rfl
  have nk:c∉ak m:=by
   rw[io]
   exactλz=>hY IC n (Ic.mp z).1
  have tk:dU Y.mh (Y.cps.take (i+1))=dU Y.mh (Y.cps.take i)++(if 0<v.1 then[c]else[]):=by
   unfold dU
   rw[f5 n,List.filter_append,GK,gv]
   by_cases q:0<v.1
   .rw [if_pos (by simpa using q),if_pos q];rfl
   .rw [if_neg (by simpa using q),if_neg q];rfl
  have H:0<v.1->∀(r:List E6) (l:fD w.params r) (t f de u1 u2:Nat),ab (env w) (fO w Y a g D Q (i+1) c t J L r f (aw m c u1 (zF c,u2)) de):=λq r l t f de u1 u2=>ih (i+1) c t r f _ de I (by omega) l (by
   rw[fi nk,tk,if_pos q]
   unfold aH at X⊢
   rw[Ff,Ff,X];rfl)
  have G:¬0<v.1->∀(t:Nat),ab (env w) (fO w Y a g D Q (i+1) c t J L r f m de):=λq t=>ih (i+1) c t r f _ de I (by omega) l (by
   rw[tk,if_neg q,FL];exact X)
  rcases hk with⟨rfl | ⟨k4,v4,rfl⟩,rfl⟩ | ⟨rfl,rfl | ⟨k4,v4,rfl⟩⟩
  .rcases l with rfl | ⟨k,e,rfl⟩
   .exact av (O c v s u (zF c) n d o p _ rfl E A N F (λq t f k y de u1 u2=>H q _ (.inr ⟨k,_,rfl⟩) t f de u1 u2) G)
   .exact av (O c v s u (zF c) n d o p _ rfl E A N F (λq t f k y de u1 u2=>H q _ (.inr ⟨k,_,rfl⟩) t f de u1 u2) G)
  .rcases l with rfl | ⟨k,e,rfl⟩
   .exact av (O c v s u (zF c) n d o p _ rfl E A N F (λq t f k y de u1 u2=>H q _ (.inr ⟨k,_,rfl⟩) t f de u1 u2) G)
   .exact av (O c v s u (zF c) n d o p _ rfl E A N F (λq t f k y de u1 u2=>H q _ (.inr ⟨k,_,rfl⟩) t f de u1 u2) G)
  .rcases l with rfl | ⟨k,e,rfl⟩
   .exact av (O c v s u (zF c) n d o p _ rfl E A N F (λq t f k y de u1 u2=>H q _ (.inr ⟨k,_,rfl⟩) t f de u1 u2) G)
   .exact av (O c v s u (zF c) n d o p _ rfl E A N F (λq t f k y de u1 u2=>H q _ (.inr ⟨k,_,rfl⟩) t f de u1 u2) G)
  .rcases l with rfl | ⟨k,e,rfl⟩
   .exact av (O c v s u (zF c) n d o p _ rfl E A N F (λq t f k y de u1 u2=>H q _ (.inr ⟨k,_,rfl⟩) t f de u1 u2) G)
   .exact av (O c v s u (zF c) n d o p _ rfl E A N F (λq t f k y de u1 u2=>H q _ (.inr ⟨k,_,rfl⟩) t f de u1 u2) G)
noncomputable def rK (w:E9) (Y:Lw) (zF:Nat->Int) (a t:Nat) (k m:List E6) (f:Nat):af:={d:=75,α:=MI×Nat×List E6×Nat×Nat×Nat×Nat×Nat,c:=.block (((aI w.params).drop 27).take 2) (aq w.params Y),need:=[(Y.fr,bz w.params Y Y.lg k ([es w.params [97,104,101,97,100] Y.k9 (.int Y.a Y.ta),es w.params [109,101,101,116,115] Y.k10 (.ref Y.Mt),es w.params [106,111,105,110,115] Y.k11 (.ref Y.Jn)]++(m++[es w.params [104,101,108,100] Y.k12 (.ref Y.hl)])) f),(Y.c1,aK (.str ⟨⟨Y.cps⟩⟩ Y.tN)),(Y.c2,aj Y.H),(Y.c3,aj Y.E),(Y.c4,aj Y.G),(Y.c7,aK (.str ⟨⟨[a]⟩⟩ t)),(Y.c12,aj Y.Sp),(Y.H,dO w.params (.type "dict") none iv Y.mh Y.er),(Y.E,dO w.params (.type "dict") none iv Y.me Y.ee),(Y.G,dO w.params (.type "dict") none iv Y.ml Y.el),(Y.Sp,cO w.params Y.Spd Y.mp Y.spe)],new:=λx=>[(Y.fr,bz w.params Y Y.lg k ([es w.params [97,104,101,97,100] Y.k9 (.int Y.a Y.ta),es w.params [109,101,101,116,115] Y.k10 (.ref Y.Mt),es w.params [106,111,105,110,115] Y.k11 (.ref Y.Jn)]++(m++([es w.params [104,101,108,100] Y.k12 (.ref Y.hl),es w.params [100,117,101] x.2.2.2.2.2.2.1 (.ref x.2.2.2.2.2.2.2)]++x.2.2.1))) x.2.2.2.1),(Y.c1,aK (.str ⟨⟨Y.cps⟩⟩ Y.tN)),(Y.c2,aj Y.H),(Y.c3,aj Y.E),(Y.c4,aj Y.G),(Y.c7,aK (.str ⟨⟨[x.2.2.2.2.1]⟩⟩ x.2.2.2.2.2.1)),(Y.c12,aj Y.Sp),(Y.H,dO w.params (.type "dict") none iv Y.mh Y.er),(Y.E,dO w.params (.type "dict") none iv Y.me Y.ee),(Y.G,dO w.params (.type "dict") none iv Y.ml Y.el),(Y.Sp,cO w.params Y.Spd Y.mp Y.spe),(x.2.2.2.2.2.2.2,dO w.params (.type "dict") none iv x.1 x.2.1)],post:=λx=>aH x.1=(dU Y.mh Y.cps).map (λc=>(c,zF c))/\fD w.params x.2.2.1}
theorem zm (w:E9) (Y:Lw) (zF:Nat->Int) (b t:Nat) (k a:List E6) (hk:KM w.params k a) (f:Nat) (d:∀c∈Y.cps,c<128) (n:Y.cps.Nodup) (l:Y.cps.length<=10) (o:∀c∈Y.cps,∃v s u:Int×Nat,look? Y.mh c=some v/\look? Y.me c=some s/\look? Y.ml c=some u/\(max s.1 u.1).natAbs<1000000/\(s.1+u.1).natAbs<1000000/\max s.1 u.1*aa Y.mp c+(s.1+u.1)*(v.1-aa Y.mp c)=zF c):ax (env w) (rK w Y zF b t k a f) (Dn (.block (((aI w.params).drop 27).take 2) (aq w.params Y))):=by
 let q:∀{w:E9} {k:List E6} {a:List E6} {Y:Lw} {zF:Nat->Int} {b t:Nat} {f:Nat} (d:∀c∈Y.cps,c<128) (e:∀(i j D f de:Nat),ab (env w) (fO w Y i j D (λm=>aH m=(dU Y.mh Y.cps).map (λc=>(c,zF c))) 0 b t k a [] f [] de)),PP (env w) (rK w Y zF b t k a f):= @λw k a Y zF b t f d e _ A=>
  .seg 68769816578 λO=>
  .use _ (fL w Y.cps Y.tN d) [] [] λy E=>
  .seg 1 λB=>
  .use _ (e y (O 1) (O 0) (f+1) 0) [0,1,2,2,2,2,2,2,2,2,2,0] [] λx g=>have F:(λ(m:MI)=>aH m=Gx (λ(c:Nat)=>(c,zF c)) (dU Y.mh Y.cps)) x.1:=(Fx g);have G:fD w.params x.2.2.1:=(Fg g);
  .seg 0 λC=>
  A (x.1,x.2.1,x.2.2.1,x.2.2.2.1,x.2.2.2.2.1,x.2.2.2.2.2,O 1,O 0) g [] [0,10,0,0,0,0,0,0,0,0,0,0] []
 have e:=λ(i j D f de:Nat)=>DM w Y i j D _ k a hk zF n l o (λm h=>h) Y.cps 0 b t [] f [] de rfl (Gi _) (.inl rfl) rfl
 rcases hk with⟨rfl | ⟨p,r,rfl⟩,rfl⟩ | ⟨rfl,rfl | ⟨p,r,rfl⟩⟩<;>exact aG _ (q d e)
noncomputable def r8 (w:E9) (Y:Lw) (k D J d b:Nat) (j:MI) (e m a:List E6):af:={d:=60,α:=Nat×Nat,need:=[(Y.fr,bz w.params Y Y.lg e ([es w.params [97,104,101,97,100] Y.k9 (.int Y.a Y.ta),es w.params [109,101,101,116,115] Y.k10 (.ref Y.Mt),es w.params [106,111,105,110,115] Y.k11 (.ref Y.Jn)]++(m++([es w.params [104,101,108,100] Y.k12 (.ref Y.hl),es w.params [100,117,101] k (.ref D)]++a))) Y.fe),(Y.Jn,cO w.params J j d),(J,oD [] b)],r:=λx=>.ok (.ret (.ref x.1)),new:=λx=>[(Y.fr,bz w.params Y Y.lg e ([es w.params [97,104,101,97,100] Y.k9 (.int Y.a Y.ta),es w.params [109,101,101,116,115] Y.k10 (.ref Y.Mt),es w.params [106,111,105,110,115] Y.k11 (.ref Y.Jn)]++(m++([es w.params [104,101,108,100] Y.k12 (.ref Y.hl),es w.params [100,117,101] k (.ref D)]++a))) Y.fe),(Y.Jn,cO w.params J j d),(J,oD [] b),(x.1,dO w.params (.type "dict") none iv j x.2)]}
noncomputable def rP (w:E9) (Y:Lw) (k D J d j:Nat) (e:MI) (b m a:List E6):af:={d:=60,α:=Unit,need:=[(Y.fr,bz w.params Y Y.lg b ([es w.params [97,104,101,97,100] Y.k9 (.int Y.a Y.ta),es w.params [109,101,101,116,115] Y.k10 (.ref Y.Mt),es w.params [106,111,105,110,115] Y.k11 (.ref Y.Jn)]++(m++([es w.params [104,101,108,100] Y.k12 (.ref Y.hl),es w.params [100,117,101] k (.ref D)]++a))) Y.fe)],r:=λx=>.ok (.ret (.ref D)),new:=λx=>[(Y.fr,bz w.params Y Y.lg b ([es w.params [97,104,101,97,100] Y.k9 (.int Y.a Y.ta),es w.params [109,101,101,116,115] Y.k10 (.ref Y.Mt),es w.params [106,111,105,110,115] Y.k11 (.ref Y.Jn)]++(m++([es w.params [104,101,108,100] Y.k12 (.ref Y.hl),es w.params [100,117,101] k (.ref D)]++a))) Y.fe)]}
theorem Cb (w:E9) (Y:Lw) (g D J e d:Nat) (j:MI) (k m b:List E6) (hk:KM w.params k m) (f:fD w.params b) (h:j.length<=8) (a:(ak j).Nodup):ax (env w) (r8 w Y g D J e d j k m b) (tV (Is (fR (bI (aA (aI w.params) 29))) (aq w.params Y))):=by
 let p:∀{w:E9} {k:List E6} {m:List E6} {b:List E6} {Y:Lw} {g D J e d:Nat} {j:MI} (h:j.length<=8) (a:(ak j).Nodup),PP (env w) (r8 w Y g D J e d j k m b):= @λw k m b Y g D J e d j h a _ o=>
  .seg 0x1001001001001001001001001000000 λO=>
  .use _ (pk w (O 0) 0 Y.Jn J d j e h a) [0,1,1] [] λx r=>
  .seg 0 λq=>
  o (O 0,x) trivial [] [3,1,1,0] []
 rcases hk with⟨rfl | ⟨l,n,rfl⟩,rfl⟩ | ⟨rfl,rfl | ⟨l,n,rfl⟩⟩
 .rcases f with rfl | ⟨i,v,rfl⟩
  .exact aG _ (p h a)
  .exact aG _ (p h a)
 .rcases f with rfl | ⟨i,v,rfl⟩
  .exact aG _ (p h a)
  .exact aG _ (p h a)
 .rcases f with rfl | ⟨i,v,rfl⟩
  .exact aG _ (p h a)
  .exact aG _ (p h a)
 .rcases f with rfl | ⟨i,v,rfl⟩
  .exact aG _ (p h a)
  .exact aG _ (p h a)
theorem zE (w:E9) (Y:Lw) (e D J b j:Nat) (d:MI) (k m a:List E6) (hk:KM w.params k m) (h:fD w.params a):ax (env w) (rP w Y e D J b j d k m a) (tV (Is (dM (bI (aA (aI w.params) 29))) (aq w.params Y))):=by
 let p:∀{w:E9} {k:List E6} {m:List E6} {a:List E6} {Y:Lw} {e D J b j:Nat} {d:MI},PP (env w) (rP w Y e D J b j d k m a):= @λw k m a Y e D J b j d _ l=>
  .seg 1 λO=>
  l () trivial [] [0] []
 rcases hk with⟨rfl | ⟨g,i,rfl⟩,rfl⟩ | ⟨rfl,rfl | ⟨g,i,rfl⟩⟩
 .rcases h with rfl | ⟨f,v,rfl⟩
  .exact aG _ (p)
  .exact aG _ (p)
 .rcases h with rfl | ⟨f,v,rfl⟩
  .exact aG _ (p)
  .exact aG _ (p)
 .rcases h with rfl | ⟨f,v,rfl⟩
  .exact aG _ (p)
  .exact aG _ (p)
 .rcases h with rfl | ⟨f,v,rfl⟩
  .exact aG _ (p)
  .exact aG _ (p)
noncomputable def b6 (pre:Nat->List Nat):List Nat->Prop
 | []=>True
 | [_]=>True
 | c::d::y=>d∈pre c/\b6 pre (d::y)
noncomputable def wt (h:Nat->Int) (x:List Nat):Int:=(x.map h).sum
section
variable {cps:List Nat} {pre:Nat->List Nat} {h:Nat->Int}
theorem mL (c:Nat) (y:List Nat):wt h (c::y)=h c+wt h y:=rfl
theorem im (v y:List Nat):wt h (v++y)=wt h v+wt h y:=by
 unfold wt;rw[Ff,List.sum_append]
theorem il (y:List Nat):wt h y.reverse=wt h y:=by
 induction y with
 | nil=>rfl
 | cons c y i=>rw[List.reverse_cons,im,i];show wt h y+(h c+0)=h c+wt h y;omega
theorem sK {c:Nat} {y:List Nat} (q:b6 pre (c::y)):b6 pre y:=by
 cases y with
 | nil=>trivial
 | cons d y=>exact q.2
theorem iQ:∀{v:List Nat} {c:Nat} {y:List Nat},b6 pre (v++c::y)<->b6 pre (v++[c])/\b6 pre (c::y)
 | [],c,y=>⟨λq=>⟨trivial,q⟩,λq=>q.2⟩
 | [a],c,y=>⟨λq=>⟨⟨q.1,trivial⟩,q.2⟩,λq=>⟨q.1.1,q.2⟩⟩
 | a::b::v,c,y=>by
  have i:=iQ (v:=b::v) (c:=c) (y:=y)
  exact⟨λq=>⟨⟨q.1,(i.mp q.2).1⟩,(i.mp q.2).2⟩,λq=>⟨q.1.1,i.mpr ⟨q.1.2,q.2⟩⟩⟩
theorem jD (g:cH cps pre h):∀{y:List Nat} {c:Nat},b6 pre (c::y)->(∀e∈c::y,e∈cps)->wt h (c::y)<=Fn cps pre h c
 | [],c,_,a=>by
  have:=d9 g (a c E2)
  have:=fW (cps:=cps) (pre:=pre) (h:=h) c
  show h c+0<=_
  omega
 | d::y,c,q,a=>by
  have i:=jD g q.2 λe b=>a e (E4 _ b)
  have:=kX (cps:=cps) (h:=h) c q.1
  have:=d9 g (a c E2)
  rw[mL];omega
theorem lb (g:cH cps pre h):∀c∈cps,∃y,b6 pre (c::y)/\(∀e∈c::y,e∈cps)/\wt h (c::y)=Fn cps pre h c:=by
 have n:=iT g (P:=λc=>c∈cps->∃y,b6 pre (c::y)/\(∀e∈c::y,e∈cps)/\wt h (c::y)=Fn cps pre h c) λc a m o=>by
  have e:=d9 g a
  rcases i5 (l:=(pre c).map (Fn cps pre h))with q | q
  .exact ⟨[],trivial,λx f=>(Gd.mp f)▸a,by
    rw[e];show h c+0=h c+mx _
    rw[q]⟩
  .obtain ⟨d,b,l⟩:=Gl.mp q
   obtain⟨y,i,j,k⟩:=m d b (g.ord c a d b).1
   refine⟨d::y,⟨b,i⟩,λx f=>(GR.mp f).elim (λz=>z▸a) (j x), ?_⟩
   rw[mL,k,e,l];rfl
 exactλc a=>n c a a
structure fU (cps:List Nat) (pre pre2:Nat->List Nat) (h:Nat->Int):Prop where
 g:cH cps pre h
 g2:cH cps.reverse pre2 h
 eq:∀c∈cps,∀d,d∈pre2 c<->d∈cps/\c∈pre d
variable {pre2:Nat->List Nat}
theorem pP (T:fU cps pre pre2 h):∀(n:Nat) {v:List Nat} {c:Nat} {y:List Nat},v.length=n->b6 pre (v++c::y)->(∀e∈v++c::y,e∈cps)->wt h v<=An cps.reverse pre2 h c
 | 0,v,c,y,b,q,a=>by
  rw[GL.mp b]
  exact fW c
 | n+1,v,c,y,b,q,a=>by
  obtain⟨f,d,rfl⟩:∃f d,v=f++[d]:=⟨v.dropLast,v.getLast (λz=>by rw[z]at b;cases b),(List.dropLast_concat_getLast _).symm⟩
  rw[Fp]at q a
  have q:b6 pre (f++d::c::y):=q
  have a:∀e∈f++d::c::y,e∈cps:=a
  have m:=pP T n (v:=f) (c:=d) (y:=c::y) (by simpa using b) q a
  have g:d∈cps:=a d (by simp)
  have i:c∈cps:=a c (by simp)
  have j:c∈pre d:=(iQ.mp q).2.1
  have k:=kX (cps:=cps.reverse) (h:=h) c ((T.eq c i d).mpr ⟨g,j⟩)
  have l:=d9 T.g2 (Gn.mpr g)
  rw[im]
  show _+(h d+0)<=_
  omega
theorem EO (T:fU cps pre pre2 h):∀c∈cps,∃v,b6 pre (v++[c])/\(∀e∈v,e∈cps)/\wt h v=An cps.reverse pre2 h c:=by
 have p:=iT T.g2 (P:=λc=>c∈cps->∃v,b6 pre (v++[c])/\(∀e∈v,e∈cps)/\wt h v=An cps.reverse pre2 h c) λc a o k=>by
  rcases i5 (l:=(pre2 c).map (Fn cps.reverse pre2 h))with q | q
  .exact ⟨[],trivial,λ_ z=>(nomatch z),q.symm⟩
  .obtain ⟨d,f,m⟩:=Gl.mp q
   obtain⟨b,l⟩:=(T.eq c k d).mp f
   obtain⟨v,g,i,j⟩:=o d f b
   refine⟨v++[d], ?_,λx n=>(GE.mp n).elim (i x) (λz=>(Gd.mp z)▸b), ?_⟩
   .rw [Fp]
    exact iQ.mpr ⟨g,l,trivial⟩
   .rw [im,j]
    have e:=d9 T.g2 (Gn.mpr b)
    have r:An cps.reverse pre2 h c=Fn cps.reverse pre2 h d:=m.symm
    show _+(h d+0)=_
    omega
 exactλc a=>p c (Gn.mpr a) a
theorem xu (T:fU cps pre pre2 h) {r:List Nat} {c:Nat} (q:b6 pre r) (a:∀e∈r,e∈cps) (b:c∈r):wt h r<=Fn cps pre h c+An cps.reverse pre2 h c:=by
 obtain⟨v,y,rfl⟩:=Hu b
 have f:=pP T _ rfl q a
 have g:=jD T.g (iQ.mp q).2 λe d=>a e (FH _ d)
 rw[im];omega
theorem qI (T:fU cps pre pre2 h) {c:Nat} (a:c∈cps):∃r,b6 pre r/\(∀e∈r,e∈cps)/\c∈r/\wt h r=Fn cps pre h c+An cps.reverse pre2 h c:=by
 obtain⟨v,b,d,f⟩:=EO T c a
 obtain⟨y,k,i,j⟩:=lb T.g c a
 refine⟨v++c::y,iQ.mpr ⟨b,k⟩,λe g=>(GE.mp g).elim (d e) (i e),by simp, ?_⟩
 rw[im,f,j];omega
end
section
variable {N:List NL} {cps:List Nat} {h:Nat->Int}
theorem Bt {W:List (List Nat)} {c:Nat} {x:List Nat}:x∈fu N W c<->x∈W\/∃y∈W,fI (ad (au N c)) y=true/\x=y++[c]:=by
 unfold fu dl
 rw[GE,Gl]
 constructor
 .rintro (q | ⟨y,a,rfl⟩)
  .exact .inl q
  .exact .inr ⟨y,(Ic.mp a).1,(Ic.mp a).2,rfl⟩
 .rintro (q | ⟨y,a,hk,rfl⟩)
  .exact .inl q
  .exact .inr ⟨y,Ic.mpr ⟨a,hk⟩,rfl⟩
theorem qa {p y:List Nat}:fI p y=true<->∀d z,y.reverse=d::z->d∈p:=by
 unfold fI
 rw[<-List.head?_reverse]
 cases y.reverse with
 | nil=>simp
 | cons d z=>simp
theorem sL {pre:Nat->List Nat} {c:Nat} {y:List Nat}:b6 pre (c::y)<->b6 pre y/\∀d z,y=d::z->d∈pre c:=by
 cases y with
 | nil=>exact⟨λ_=>⟨trivial,λ_ _ z=>(nomatch z)⟩,λ_=>trivial⟩
 | cons d z=>exact⟨λq=>⟨q.2,λa b e=>by cases e;exact q.1⟩,λq=>⟨q.2 d z rfl,q.1⟩⟩
theorem tO (g:cH cps (λc=>ad (au N c)) h):∀(i:Nat),i<=cps.length->∀x,x∈cb N (cps.take i)<->b6 (λc=>ad (au N c)) x.reverse/\∀e∈x,e∈cps.take i
 | 0,_,x=>by
  show x∈[[]]<->_
  rw[Gd]
  constructor
  .rintro rfl;exact⟨trivial,λ_ z=>(nomatch z)⟩
  .rintro ⟨_,q⟩
   exact List.eq_nil_iff_forall_not_mem.mpr λe f=>nomatch q e f
 | i+1,T,x=>by
  have n:=tO g i (by omega)
  obtain⟨c,m⟩:∃c,cps[i]? =some c:=⟨_,Fh (by omega)⟩
  have C:c∈cps:=FD m
  have O:=hY g.nd m
  rw[f5 m]
  have e:cb N (cps.take i++[c])=fu N (cb N (cps.take i)) c:=by
   unfold cb;rw[List.foldl_append];rfl
  rw[e,Bt]
  have u:∀d,d∈ad (au N c)->d∈cps.take i:=λd l=>by
   obtain⟨o,A⟩:=g.ord c C d l
   have U:cps.idxOf c=i:=by
    obtain⟨s,j⟩:=Fa.mp m
    rw[<-j];exact g.nd.idxOf_getElem i s
   have p:=Gt o
   have B:cps[cps.idxOf d]=d:=List.getElem_idxOf p
   exact Iu.mpr ⟨cps.idxOf d,by rw[FQ];omega,by rw[GO];exact B⟩
  constructor
  .rintro (q | ⟨y,Q,hk,rfl⟩)
   .obtain ⟨a,b⟩:=(n x).mp q
    exact⟨a,λe f=>F5 _ (b e f)⟩
   .obtain ⟨a,b⟩:=(n y).mp Q
    rw[List.reverse_append]
    refine⟨sL.mpr ⟨a,λd z e=>qa.mp hk d z e⟩,λe f=>?_⟩
    rcases GE.mp f with q | q
    .exact F5 _ (b e q)
    .exact FH _ q
  .rintro ⟨a,b⟩
   by_cases E:c∈x
   .right
    obtain⟨v,y,t⟩:=Hu (Gn.mpr E)
    rw[t]at a
    have P:v=[]:=by
     rcases List.eq_nil_or_concat v with q | ⟨S,d,rfl⟩
     .exact q
     .exfalso
      rw[List.concat_eq_append,Fp]at a
      have a:b6 _ (S++d::c::y):=a
      have r:c∈ad (au N d):=(iQ.mp a).2.1
      have l:d∈cps.take i++[c]:=b d (Gn.mp (by rw[t];simp))
      rcases GE.mp l with q | q
      .have M:d∈cps:=List.mem_of_mem_take q
       obtain⟨_,A⟩:=g.ord d M c r
       obtain⟨k,hk,j⟩:=Iu.mp q
       rw[FQ]at hk
       rw[GO]at j
       have p:cps.idxOf d=k:=by rw[<-j];exact g.nd.idxOf_getElem k (by omega)
       have B:cps.idxOf c=i:=by
        obtain⟨s,G⟩:=Fa.mp m
        rw[<-G];exact g.nd.idxOf_getElem i s
       omega
      .rw [Gd.mp q]at r
       exact O (u c r)
    subst P
    have a:b6 _ (c::y):=a
    have F:x=y.reverse++[c]:=by
     have:=congrArg HJ t
     rw[GI]at this
     rw[this];simp
    have J:∀e∈y,e∈cps.take i:=by
     have:∀{y:List Nat} {c:Nat},b6 (λc=>ad (au N c)) (c::y)->(∀e∈y,e∈cps)->(∀d,d∈ad (au N c)->d∈cps.take i)->∀e∈y,e∈cps.take i:=by
      intro y
      induction y with
      | nil=>intro _ _ _ _ e f;cases f
      | cons d y R=>
       intro c q D I e f
       have l:=I d q.1
       rcases GR.mp f with rfl | f
       .exact l
       .refine R q.2 (λe f=>D e (E4 _ f)) (λw L=>?_) e f
        obtain⟨o,A⟩:=g.ord d (D d E2) w L
        obtain⟨k,hk,j⟩:=Iu.mp l
        rw[FQ]at hk
        rw[GO]at j
        have p:cps.idxOf d=k:=by rw[<-j];exact g.nd.idxOf_getElem k (by omega)
        have H:=Gt o
        exact Iu.mpr ⟨cps.idxOf w,by rw[FQ];omega,by rw[GO];exact List.getElem_idxOf H⟩
     refine this a (λe f=>?_) u
     have:e∈x:=by rw[F];simp[f]
     rcases GE.mp (b e this)with q | q
     .exact List.mem_of_mem_take q
     .rw [Gd.mp q];exact C
    refine⟨y.reverse,(n _).mpr ⟨?_,λe f=>J e (Gn.mp f)⟩,qa.mpr λd z e=>?_,F⟩
    .rw [GI];exact sK a
    .rw [GI]at e
     exact(sL.mp a).2 d z e
   .left
    refine(n x).mpr ⟨a,λe f=>?_⟩
    rcases GE.mp (b e f)with q | q
    .exact q
    .rw [Gd.mp q]at f;exact absurd f E
end
theorem gJ {p:List Nat->Bool} {f:List Nat->Int} {v:Int}:∀{W:List (List Nat)},v∈bT p W (W.map f)<->∃x∈W,p x=true/\v=f x
 | []=>⟨λq=>(nomatch q),λ⟨_,q,_⟩=>(nomatch q)⟩
 | x::W=>by
  have i:=gJ (p:=p) (f:=f) (v:=v) (W:=W)
  rw[Fw,no]
  constructor
  .intro q
   by_cases hp:p x=true
   .rw [if_pos hp]at q
    rcases GR.mp q with rfl | q
    .exact ⟨x,E2,hp,rfl⟩
    .obtain ⟨y,h,a⟩:=i.mp q
     exact⟨y,E4 _ h,a⟩
   .rw [if_neg hp]at q
    obtain⟨y,h,a⟩:=i.mp q
    exact⟨y,E4 _ h,a⟩
  .rintro ⟨y,h,a,rfl⟩
   rcases GR.mp h with rfl | h
   .rw [if_pos a];exact E2
   .have:=i.mpr ⟨y,h,a,rfl⟩
    split
    .exact E4 _ this
    .exact this
theorem oH {o:List (Int×Nat)} {l:List Int} {M:Int} (e:o.map (λx=>x.1)=l) (d:∀x∈l,0<=x) (f:∀x∈l,x<=M) (h:M∈l):o≠[]/\cU o=M:=by
 refine⟨λz=>?_, ?_⟩
 .rw [z]at e;rw[<-e]at h;cases h
 .rw [Bv (λx g=>d _ (by rw[<-e];exact Fc g)),e]
  have a:=gh h
  have b:=fQ f (d M h)
  omega
section
variable {N:List NL} {cps:List Nat} {h:Nat->Int} {pre2:Nat->List Nat}
theorem kZ (g:cH cps (λc=>ad (au N c)) h):∀{x:List Nat},(∀e∈x,e∈cps)->0<=wt h x
 | [],_=>Int.le_refl _
 | c::x,q=>by
  have:=kZ g (x:=x) λe a=>q e (E4 _ a)
  have:=g.pos c (q c E2)
  rw[mL];omega
theorem eB (g:cH cps (λc=>ad (au N c)) h) (x:List Nat):x∈cb N cps<->b6 (λc=>ad (au N c)) x.reverse/\∀e∈x,e∈cps:=by
 have:=tO g cps.length (FO _) x
 rwa [GJ]at this
theorem EM (g:cH cps (λc=>ad (au N c)) h) (o:List (Int×Nat)) (e:o.map (λx=>x.1)=(cb N cps).map (wt h)):o≠[]/\cU o=mx (cps.map (Fn cps (λc=>ad (au N c)) h)):=by
 refine oH e (λv f=>?_) (λv f=>?_) ?_
 .obtain ⟨x,i,rfl⟩:=Gl.mp f
  exact kZ g ((eB g x).mp i).2
 .obtain ⟨x,i,rfl⟩:=Gl.mp f
  obtain⟨a,b⟩:=(eB g x).mp i
  rw[<-il]
  cases k:x.reverse with
  | nil=>exact gV _
  | cons c y=>
   rw[k]at a
   have j:∀e∈c::y,e∈cps:=λe d=>b e (Gn.mp (by rw[k];exact d))
   exact Int.le_trans (jD g a j) (gh (Fc (j c E2)))
 .rcases i5 (l:=cps.map (Fn cps (λc=>ad (au N c)) h))with q | q
  .rw [q]
   exact Gl.mpr ⟨[],(eB g []).mpr ⟨trivial,λ_ z=>(nomatch z)⟩,rfl⟩
  .obtain ⟨c,p,r⟩:=Gl.mp q
   obtain⟨y,l,m,n⟩:=lb g c p
   rw[<-r,<-n]
   refine Gl.mpr ⟨(c::y).reverse,(eB g _).mpr ⟨by rw[GI];exact l,λe d=>m e (Gn.mp d)⟩,il _⟩
theorem rq {c:Nat} {x:List Nat}:dL c x=true<->∃y,x.reverse=c::y:=by
 unfold dL
 rw[<-List.head?_reverse]
 cases x.reverse with
 | nil=>simp
 | cons d z=>simp
theorem DH (g:cH cps (λc=>ad (au N c)) h) {c:Nat} (n:c∈cps) (o:List (Int×Nat)) (e:o.map (λx=>x.1)=bT (dL c) (cb N cps) ((cb N cps).map (wt h))):o≠[]/\cU o=Fn cps (λc=>ad (au N c)) h c:=by
 refine oH e (λv f=>?_) (λv f=>?_) ?_
 .obtain ⟨x,i,_,rfl⟩:=gJ.mp f
  exact kZ g ((eB g x).mp i).2
 .obtain ⟨x,i,p,rfl⟩:=gJ.mp f
  obtain⟨a,b⟩:=(eB g x).mp i
  obtain⟨y,j⟩:=rq.mp p
  rw[<-il,j]
  rw[j]at a
  exact jD g a λe d=>b e (Gn.mp (by rw[j];exact d))
 .obtain ⟨y,k,l,m⟩:=lb g c n
  refine gJ.mpr ⟨(c::y).reverse,(eB g _).mpr ⟨by rw[GI];exact k,λe d=>l e (Gn.mp d)⟩,rq.mpr ⟨y,GI _⟩, ?_⟩
  rw[il,m]
theorem xv (T:fU cps (λc=>ad (au N c)) pre2 h) {c:Nat} (n:c∈cps) (o:List (Int×Nat)) (e:o.map (λx=>x.1)=bT (dK c) (cb N cps) ((cb N cps).map (wt h))):o≠[]/\cU o=Fn cps (λc=>ad (au N c)) h c+An cps.reverse pre2 h c:=by
 refine oH e (λv g=>?_) (λv g=>?_) ?_
 .obtain ⟨x,i,_,rfl⟩:=gJ.mp g
  exact kZ T.g ((eB T.g x).mp i).2
 .obtain ⟨x,i,f,rfl⟩:=gJ.mp g
  obtain⟨a,b⟩:=(eB T.g x).mp i
  have f:c∈x:=by simpa[dK]using f
  rw[<-il]
  exact xu T a (λe d=>b e (Gn.mp d)) (Gn.mpr f)
 .obtain ⟨r,j,k,l,m⟩:=qI T n
  refine gJ.mpr ⟨r.reverse,(eB T.g _).mpr ⟨by rw[GI];exact j,λe d=>k e (Gn.mp d)⟩,by simpa[dK]using l, ?_⟩
  rw[il,m]
theorem qJ (T:fU cps (λc=>ad (au N c)) pre2 h) {c:Nat} (g:c∈cps):Fn cps (λc=>ad (au N c)) h c+An cps.reverse pre2 h c<=mx (cps.map (Fn cps (λc=>ad (au N c)) h)):=by
 obtain⟨r,b,a,e,f⟩:=qI T g
 rw[<-f]
 cases r with
 | nil=>cases e
 | cons d y=>exact Int.le_trans (jD T.g b a) (gh (Fc (a d E2)))
theorem Bk (T:fU cps (λc=>ad (au N c)) pre2 h):mx (cps.reverse.map (Fn cps.reverse pre2 h))=mx (cps.map (Fn cps (λc=>ad (au N c)) h)):=by
 apply Int.le_antisymm
 .refine fQ (λv i=>?_) (gV _)
  obtain⟨c,f,rfl⟩:=Gl.mp i
  have k:=Gn.mp f
  have a:=qJ T k
  have b:=d9 T.g2 f
  have d:=d9 T.g k
  have e:=fW (cps:=cps) (pre:=(λc=>ad (au N c))) (h:=h) c
  omega
 .refine fQ (λv i=>?_) (gV _)
  obtain⟨c,f,rfl⟩:=Gl.mp i
  obtain⟨y,j,g,n⟩:=lb T.g c f
  rw[<-n]
  obtain⟨v,d,e⟩:∃v d,c::y=v++[d]:=⟨(c::y).dropLast,(c::y).getLast (by simp),(List.dropLast_concat_getLast _).symm⟩
  rw[e]at j g⊢
  have a:=pP T _ rfl j g
  have l:d∈cps:=g d (by simp)
  have b:=d9 T.g2 (Gn.mpr l)
  have m:=gh (Fc (f:=Fn cps.reverse pre2 h) (Gn.mpr l))
  rw[im]
  show wt h v+(h d+0)<=_
  omega
end
theorem g4:∀{m:MI} {a:List Nat} {f:Nat->Int},aH m=a.map (λc=>(c,f c))->∀c,aa m c=if c∈a then f c else 0
 | [],[],f,_,c=>by simp[aa,look?]
 | [],_::_,f,h,c=>by cases h
 | _::_,[],f,h,c=>by cases h
 | x::m,d::a,f,h,c=>by
  obtain⟨k,t,v⟩:=x
  have h:(k,v.1)::aH m=(d,f d)::a.map (λc=>(c,f c)):=h
  injection h with b e
  injection b with g i
  have j:=g4 e c
  subst g
  unfold aa look?
  by_cases q:k=c
  .subst q
   rw[if_pos rfl,if_pos E2];exact i
  .rw [if_neg q]
   have l:¬c=k:=λz=>q z.symm
   have:(c∈k::a)<->c∈a:=by simp[l]
   rw[show((look? m c).map (·.1)).getD 0=aa m c from rfl,j]
   simp only[this]
theorem g5:∀{m:MI} {c:Nat},c∈ak m->∃v,look? m c=some v
 | [],_,h=>nomatch h
 | (k,t,v)::m,c,h=>by
  unfold look?
  by_cases q:k=c
  .rw [if_pos q];exact⟨v,rfl⟩
  .rw [if_neg q]
   exact g5 ((GR.mp h).resolve_left λz=>q z.symm)
theorem jn {m:MI} {c:Nat} {v:Int×Nat} (h:look? m c=some v):aa m c=v.1:=by unfold aa;rw[h];rfl
theorem eM {m:MI} {c:Nat} (h:c∈ak m):∃v,look? m c=some v/\v.1=aa m c:=by
 obtain⟨v,a⟩:=g5 h
 exact⟨v,a,(jn a).symm⟩
structure Cn (m:MI) (F:Nat->Int):Prop where
 nd:(ak m).Nodup
 get:∀c,aa m c=F c
 key:∀c,c∈ak m<->0<F c
theorem Cn.congr {m:MI} {F G:Nat->Int} (C:Cn m F) (e:∀c,F c=G c):Cn m G:=⟨C.nd,λc=>(C.get c).trans (e c),λc=>by rw[<-e c];exact C.key c⟩
theorem pa {m:MI} {c:Nat} (h:c∉ak m):aa m c=0:=by
 have:look? m c=none:=by
  induction m with
  | nil=>rfl
  | cons x m i=>
   obtain⟨k,t,v⟩:=x
   have a:c≠k/\c∉ak m:=by
    unfold ak at h
    rw[Fw,GR,not_or]at h
    exact h
   unfold look?
   rw[if_neg (λz=>a.1 z.symm)]
   exact i a.2
 unfold aa;rw[this];rfl
theorem o9 {m:MI} {k t:Nat} {v:Int×Nat} {c:Nat} (h:c≠k):aa ((k,t,v)::m) c=aa m c:=by
 show((if k=c then some v else look? m c).map (λx:Int×Nat=>x.1)).getD 0=_
 rw[if_neg λz=>h z.symm];rfl
theorem Cn.nil:Cn [] (λ_=>0):=⟨Gv,λ_=>rfl,λc=>⟨λz=>(nomatch z),λz=>by omega⟩⟩
theorem jd {m:MI} {c t:Nat} {v:Int×Nat} (h:c∉ak m):ak (aw m c t v)=ak m++[c]:=by
 rw[fi h];unfold ak;rw[Ff];rfl
theorem mC {f:Int->Int->Int} {B:MI}:∀{m g i:MI} {F:Nat->Int},bM f B m g i->Cn g F->(ak m).Nodup->(∀c∈ak m,c∉ak g)->
 Cn i (λc=>if c∈ak m/\0<f (aa m c) (aa B c)then f (aa m c) (aa B c)else F c)
 | [],g,i,F,h,C,_,_=>by
  have h:i=g:=h
  subst h
  exact C.congr λc=>by simp[ak]
 | x::m,g,i,F,⟨o,p,A⟩,C,H,s=>by
  obtain⟨k,t,v⟩:=x
  have l:k∉ak m/\(ak m).Nodup:=GQ.mp H
  have w:aa ((k,t,v)::m) k=v.1:=jn (by unfold look?;rw[if_pos rfl])
  have y:∀c,c≠k->aa ((k,t,v)::m) c=aa m c:=λc j=>o9 j
  have kf:k∉ak g:=s k E2
  have I:F k=0:=by rw[<-C.get k];exact pa kf
  have n:Cn o (λc=>if c=k/\0<f v.1 (aa B k)then f v.1 (aa B k)else F c):=by
   by_cases d:0<f v.1 (aa B k)
   .obtain ⟨u,rfl⟩:=p.1 d
    refine⟨?_,λc=>?_,λc=>?_⟩
    .rw [jd kf]
     exact Gm.mpr ⟨C.nd,by simp,λa D b r e=>kf (by rw[Gd]at r;rw[<-r,<-e];exact D)⟩
    .show aa (aw g k t (f v.1 (aa B k),u)) c=_
     rw[mj]
     by_cases q:k=c
     .rw [if_pos q,if_pos ⟨q.symm,d⟩]
     .rw [if_neg q,if_neg (λz=>q z.1.symm)];exact C.get c
    .show c∈ak (aw g k t (f v.1 (aa B k),u))<->_
     rw[jd kf,GE,Gd]
     by_cases q:c=k
     .simp only[q,true_and,d,if_true];simp
     .rw [if_neg (λz=>q z.1)];simp[q,C.key c]
   .rw [p.2 d]
    exact C.congr λc=>by rw[if_neg (λz=>d z.2)]
  have G:∀c∈ak m,c∉ak o:=λc j z=>by
   have:=(n.key c).mp z
   have E:c≠k:=λe=>l.1 (e▸j)
   rw[if_neg (λz=>E z.1)]at this
   exact s c (E4 _ j) ((C.key c).mpr this)
  refine(mC A n l.2 G).congr λc=>?_
  by_cases q:c=k
  .subst q
   rw[if_neg (λz=>l.1 z.1),w]
   by_cases d:0<f v.1 (aa B c)
   .rw [if_pos ⟨rfl,d⟩,if_pos ⟨E2,d⟩]
   .rw [if_neg (λz=>d z.2),if_neg (λz=>d z.2)]
  .rw [y c q]
   have:(c∈ak ((k,t,v)::m))<->c∈ak m:=by
    show c∈k::ak m<->_
    simp[q]
   simp only[this]
   split
   .rfl
   .rw [if_neg (λz=>q z.1)]
theorem C9 {m:MI} {c:Nat}:bU m c=true<->c∈ak m:=by
 unfold bU
 constructor
 .intro h
  obtain⟨v,a⟩:=Option.isSome_iff_exists.mp h
  exact Hy λq=>by
   have:look? m c=none:=by
    have:=pa q
    cases b:look? m c with
    | none=>rfl
    | some v=>
     exfalso
     clear a h this
     induction m with
     | nil=>cases b
     | cons x m i=>
      obtain⟨k,t,y⟩:=x
      have d:c≠k/\c∉ak m:=by
       unfold ak at q
       rw[Fw,GR,not_or]at q
       exact q
      unfold look? at b
      rw[if_neg (λz=>d.1 z.symm)]at b
      exact i d.2 b
   rw[this]at a;cases a
 .intro h
  obtain⟨v,a⟩:=g5 h
  rw[a];rfl
theorem pH {f:Int->Int} {A:MI}:∀{m g i:MI} {F:Nat->Int},ds f A m g i->Cn g F->(ak m).Nodup->(∀c∈ak m,c∉ak A->c∉ak g)->
 Cn i (λc=>if c∈ak m/\c∉ak A/\0<f (aa m c)then f (aa m c)else F c)
 | [],g,i,F,h,C,_,_=>by
  have h:i=g:=h
  subst h
  exact C.congr λc=>by simp[ak]
 | x::m,g,i,F,⟨p,r,D⟩,C,J,w=>by
  obtain⟨k,t,v⟩:=x
  have n:k∉ak m/\(ak m).Nodup:=GQ.mp J
  have y:aa ((k,t,v)::m) k=v.1:=jn (by unfold look?;rw[if_pos rfl])
  have B:∀c,c≠k->aa ((k,t,v)::m) c=aa m c:=λc l=>o9 l
  have j:bU A k=false<->k∉ak A:=by
   rw[<-C9];cases bU A k<;>simp
  have o:Cn p (λc=>if c=k/\k∉ak A/\0<f v.1 then f v.1 else F c):=by
   by_cases d:bU A k=false/\0<f v.1
   .obtain ⟨u,rfl⟩:=r.1 d
    have kf:k∉ak g:=w k E2 (j.mp d.1)
    refine⟨?_,λc=>?_,λc=>?_⟩
    .rw [jd kf]
     exact Gm.mpr ⟨C.nd,by simp,λa E b s e=>kf (by rw[Gd]at s;rw[<-s,<-e];exact E)⟩
    .show aa (aw g k t (f v.1,u)) c=_
     rw[mj]
     by_cases q:k=c
     .rw [if_pos q,if_pos ⟨q.symm,j.mp d.1,d.2⟩]
     .rw [if_neg q,if_neg (λz=>q z.1.symm)];exact C.get c
    .show c∈ak (aw g k t (f v.1,u))<->_
     rw[jd kf,GE,Gd]
     by_cases q:c=k
     .rw [if_pos ⟨q,j.mp d.1,d.2⟩];simp[q,d.2]
     .rw [if_neg (λz=>q z.1)];simp[q,C.key c]
   .rw [r.2 d]
    exact C.congr λc=>by rw[if_neg (λz=>d ⟨j.mpr z.2.1,z.2.2⟩)]
  have I:∀c∈ak m,c∉ak A->c∉ak p:=λc l G z=>by
   have:=(o.key c).mp z
   have H:c≠k:=λe=>n.1 (e▸l)
   rw[if_neg (λz=>H z.1)]at this
   exact w c (E4 _ l) G ((C.key c).mpr this)
  refine(pH D o n.2 I).congr λc=>?_
  by_cases q:c=k
  .subst q
   rw[if_neg (λz=>n.1 z.1),y]
   by_cases d:c∉ak A/\0<f v.1
   .rw [if_pos ⟨rfl,d⟩,if_pos ⟨E2,d⟩]
   .rw [if_neg (λz=>d z.2),if_neg (λz=>d z.2)]
  .rw [B c q]
   have:(c∈ak ((k,t,v)::m))<->c∈ak m:=by
    show c∈k::ak m<->_
    simp[q]
   simp only[this]
   split
   .rfl
   .rw [if_neg (λz=>q z.1)]
theorem Ck {m:MI} {c t:Nat} {v:Int×Nat} (d:Nat):d∈ak (aw m c t v)<->d=c\/d∈ak m:=by
 by_cases h:c∈ak m
 .rw [oT h]
  constructor
  .exact .inr
  .rintro (rfl | q)
   .exact h
   .exact q
 .rw [jd h,GE,Gd]
  constructor
  .rintro (q | q)
   .exact .inr q
   .exact .inl q
  .rintro (q | q)
   .exact .inr q
   .exact .inl q
theorem Cj {m:MI} {c t:Nat} {v:Int×Nat} (f:(ak m).Nodup):(ak (aw m c t v)).Nodup:=by
 by_cases h:c∈ak m
 .rw [oT h];exact f
 .rw [jd h]
  exact Gm.mpr ⟨f,by simp,λa g b d e=>h (by rw[Gd]at d;rw[<-d,<-e];exact g)⟩
theorem vY:∀{m a b:MI} {F:Nat->Int},ik m a b->Cn a F->(∀c,0<=F c)->(ak m).Nodup->(∀x∈m,0<x.2.2.1)->
 Cn b (λc=>F c+aa m c)
 | [],a,b,F,h,C,_,_,_=>by
  have h:b=a:=h
  subst h
  exact C.congr λc=>by show F c=F c+0;omega
 | x::m,a,b,F,⟨u,h⟩,C,d,l,hp=>by
  obtain⟨k,t,v⟩:=x
  have e:k∉ak m/\(ak m).Nodup:=GQ.mp l
  have g:aa ((k,t,v)::m) k=v.1:=jn (by unfold look?;rw[if_pos rfl])
  have i:∀c,c≠k->aa ((k,t,v)::m) c=aa m c:=λc j=>o9 j
  have o:0<v.1:=hp (k,t,v) E2
  have h:ik m (aw a k t (v.1+aa a k,u)) b:=h
  have f:Cn (aw a k t (v.1+aa a k,u)) (λc=>if c=k then F k+v.1 else F c):=by
   refine⟨Cj C.nd,λc=>?_,λc=>?_⟩
   .rw [mj]
    by_cases q:k=c
    .rw [if_pos q,if_pos q.symm]
     show v.1+aa a k=_
     rw[C.get k];omega
    .rw [if_neg q,if_neg (λz=>q z.symm)];exact C.get c
   .rw [Ck]
    by_cases q:c=k
    .rw [if_pos q]
     have:=d k
     exact⟨λ_=>by omega,λ_=>.inl q⟩
    .rw [if_neg q]
     exact⟨λz=>(C.key c).mp (z.resolve_left q),λz=>.inr ((C.key c).mpr z)⟩
  refine(vY h f (λc=>?_) e.2 (λx n=>hp x (E4 _ n))).congr λc=>?_
  .have:=d c;have:=d k;split<;>omega
  .by_cases q:c=k
   .subst q
    rw[if_pos rfl,g,pa e.1];omega
   .rw [if_neg q,i c q]
theorem Br {m:MI} {F:Nat->Int} (C:Cn m F):∀x∈m,0<x.2.2.1:=by
 intro x h
 have hk:x.1∈ak m:=Fc h
 have b:look? m x.1=some x.2.2:=by
  have d:=C.nd
  clear C hk
  induction m with
  | nil=>cases h
  | cons y m i=>
   obtain⟨k,t,v⟩:=y
   have a:k∉ak m/\(ak m).Nodup:=GQ.mp d
   unfold look?
   rcases GR.mp h with rfl | h
   .rw [if_pos rfl]
   .rw [if_neg (λz=>a.1 (by rw[z];exact Fc h))]
    exact i h a.2
 have:=(C.key x.1).mp hk
 rw[<-C.get,jn b]at this
 exact this
theorem qi {m a b:MI} {F G:Nat->Int} (h:eE m a b) (C:Cn a F) (d:∀c,0<=F c) (D:Cn m G):Cn b (λc=>F c+G c):=by
 cases a with
 | nil=>
  have h:b=m:=h
  subst h
  refine D.congr λc=>?_
  have:F c=0:=(C.get c).symm
  omega
 | cons x a=>
  exact(vY h C d D.nd (Br D)).congr λc=>by rw[D.get c]
theorem nt {m b:MI} {a:List Nat} {f F:Nat->Int} (C:Cn m F) (g:aH b=a.map (λc=>(c,f c))) (e:a.Nodup) (hk:∀c,0<F c<->c∈a) (o:∀c∈a,F c=f c):m.length=b.length/\∀x∈m,∃v,look? b x.1=some v/\v.1=x.2.2.1:=by
 have i:ak b=a:=ef g
 have hp:(ak m).Perm a:=(List.perm_ext_iff_of_nodup C.nd e).mpr λc=>(C.key c).trans (hk c)
 have l:m.length=(ak m).length:=by unfold ak;rw[Fq]
 have s:b.length=(ak b).length:=by unfold ak;rw[Fq]
 refine⟨by rw[l,s,i];exact hp.length_eq,λx h=>?_⟩
 have d:x.1∈a:=hp.mem_iff.mp (Fc h)
 obtain⟨v,p,q⟩:=eM (m:=b) (c:=x.1) (by rw[i];exact d)
 refine⟨v,p, ?_⟩
 rw[q,g4 g,if_pos d,<-o x.1 d,<-C.get]
 have n:look? m x.1=some x.2.2:=by
  have e:=C.nd
  clear hp l C
  induction m with
  | nil=>cases h
  | cons y m r=>
   obtain⟨k,t,v⟩:=y
   have j:k∉ak m/\(ak m).Nodup:=GQ.mp e
   unfold look?
   rcases GR.mp h with rfl | h
   .rw [if_pos rfl]
   .rw [if_neg (λz=>j.1 (by rw[z];exact Fc h))]
    exact r h j.2
 exact jn n
noncomputable def cf (f:Nat->Int):Nat->Int
 | 0=>0
 | n+1=>cf f n+f n
theorem gF {f g:Nat->Int}:∀{n:Nat},(∀j,j<n->f j=g j)->cf f n=cf g n
 | 0,_=>rfl
 | n+1,h=>by
  show cf f n+f n=cf g n+g n
  rw[gF λj a=>h j (by omega),h n (by omega)]
theorem m7 (f g:Nat->Int):∀n,cf (λj=>f j+g j) n=cf f n+cf g n
 | 0=>rfl
 | n+1=>by
  show cf (λj=>f j+g j) n+(f n+g n)=(cf f n+f n)+(cf g n+g n)
  rw[m7];omega
theorem m6 {f:Nat->Int} (h:∀j,0<=f j):∀n,0<=cf f n
 | 0=>Int.le_refl _
 | n+1=>by
  have:=m6 h n
  have:=h n
  show 0<=cf f n+f n
  omega
noncomputable def ind (p q m:Int) (j:Nat):Int:=if p<=(j:Int)/\(j:Int)<q then m else 0
theorem Eu (x q p:Int):max 0 (min (x+1) q-p)=max 0 (min x q-p)+(if p<=x/\x<q then 1 else 0):=by
 rcases Int.lt_or_le x q with h | h
 .rw [Int.min_eq_left (show x+1<=q from h),Int.min_eq_left (Int.le_of_lt h)]
  rcases Int.lt_or_le x p with k | k
  .rw [if_neg (λz=>absurd k (Int.not_lt.mpr z.1)),Int.max_eq_left (by omega),Int.max_eq_left (by omega)];rfl
  .rw [if_pos ⟨k,h⟩,H8 (by omega),H8 (by omega)];omega
 .rw [if_neg (λz=>absurd z.2 (Int.not_lt.mpr h)),Ht h,Ht (by omega),Int.add_zero]
theorem iz (p q m:Int) (hp:0<=p):∀n:Nat,cf (ind p q m) n=m*max 0 (min (n:Int) q-p)
 | 0=>by
  have h:=Int.min_le_left ((0:Nat):Int) q
  rw[Int.max_eq_left (by omega),Int.mul_zero];rfl
 | n+1=>by
  show cf (ind p q m) n+ind p q m n=m*max 0 (min ((n:Int)+1) q-p)
  rw[iz p q m hp n,Eu,Int.mul_add]
  unfold ind
  split
  .rw [Int.mul_one]
  .rw [Int.mul_zero]
theorem CQ {e f p q m d:Int} (h:0<=m) (g:0<=d) (j:Nat):min (ind e f m j) (ind p q d j)=ind (max e p) (min f q) (min m d) j:=by
 unfold ind
 by_cases a:e<=(j:Int)/\(j:Int)<f
 .by_cases b:p<=(j:Int)/\(j:Int)<q
  .rw [if_pos a,if_pos b,if_pos ⟨Int.max_le.mpr ⟨a.1,b.1⟩,Int.lt_min.mpr ⟨a.2,b.2⟩⟩]
  .rw [if_pos a,if_neg b,if_neg (λz=>b ⟨(Int.max_le.mp z.1).2,(Int.lt_min.mp z.2).2⟩),Ht h]
 .by_cases b:p<=(j:Int)/\(j:Int)<q
  .rw [if_neg a,if_pos b,if_neg (λz=>a ⟨(Int.max_le.mp z.1).1,(Int.lt_min.mp z.2).1⟩),Int.min_eq_left g]
  .rw [if_neg a,if_neg b,if_neg (λz=>a ⟨(Int.max_le.mp z.1).1,(Int.lt_min.mp z.2).1⟩),Int.min_self]
theorem tQ (x y:Int):max x y+min x y=x+y:=by
 rcases Int.le_total x y with h | h
 .rw [H8 h,Int.min_eq_left h,Int.add_comm]
 .rw [Int.max_eq_left h,Ht h]
theorem Cn.len {m:MI} {F:Nat->Int} {cs:List Nat} (C:Cn m F) (h:∀c,0<F c->c∈cs):m.length<=cs.length:=by
 have:=iA C.nd λc a=>h c ((C.key c).mp a)
 unfold ak at this
 rwa [Fq]at this
structure LD (N NT:List NL) (cps:List Nat) (mh me ml:MI) (LV L2:List Lv):Prop where
 c1:bE N cps mh me
 c2:bE NT cps.reverse mh ml
 T:fU cps (λc=>ad (au N c)) (λc=>ad (au NT c)) (aa mh)
 l1:cA cps (λc=>ad (au N c)) (aa mh) me LV
 l2:cA cps.reverse (λc=>ad (au NT c)) (aa mh) ml L2
 h3:∀c∈cps,0<=aa mh c/\aa mh c<=3
 e3:∀c∈cps,1<=aa me c/\aa me c<=3
 g3:∀c∈cps,1<=aa ml c/\aa ml c<=3
 kh:ak mh=cps
 ke:ak me=cps
 kl:ak ml=cps
section
variable {N NT:List NL} {cps:List Nat} {mh me ml:MI} {LV L2:List Lv}
noncomputable def fA (N:List NL) (cps:List Nat) (mh:MI) (c:Nat):Int:=An cps (λc=>ad (au N c)) (aa mh) c
noncomputable def fB (NT:List NL) (cps:List Nat) (mh:MI) (c:Nat):Int:=An cps.reverse (λc=>ad (au NT c)) (aa mh) c
theorem LD.len1 (D:LD N NT cps mh me ml LV L2):(LV.length:Int)=mx (cps.map (Fn cps (λc=>ad (au N c)) (aa mh))):=D.l1.1
theorem LD.len2 (D:LD N NT cps mh me ml LV L2):L2.length=LV.length:=by
 have a:=D.l1.1
 have b:=D.l2.1
 rw[Bk D.T]at b
 omega
theorem LD.fin1 (D:LD N NT cps mh me ml LV L2) {c:Nat} (h:c∈cps):Fn cps (λc=>ad (au N c)) (aa mh) c=aa mh c+fA N cps mh c:=d9 D.T.g h
theorem LD.fin2 (D:LD N NT cps mh me ml LV L2) {c:Nat} (h:c∈cps):Fn cps.reverse (λc=>ad (au NT c)) (aa mh) c=aa mh c+fB NT cps mh c:=d9 D.T.g2 (Gn.mpr h)
noncomputable def zF (N NT:List NL) (cps:List Nat) (mh:MI) (LV:List Lv) (c:Nat):Int:=(LV.length:Int)-(aa mh c+fA N cps mh c+fB NT cps mh c)
theorem LD.z0 (D:LD N NT cps mh me ml LV L2) {c:Nat} (h:c∈cps):0<=zF N NT cps mh LV c:=by
 have:=qJ D.T h
 rw[<-D.len1,D.fin1 h]at this
 have this:aa mh c+fA N cps mh c+fB NT cps mh c<=(LV.length:Int):=this
 unfold zF
 omega
noncomputable def fF (N:List NL) (cps:List Nat) (mh me:MI) (j c:Nat):Int:=if c∈cps then ind (fA N cps mh c) (fA N cps mh c+aa mh c) (aa me c) j else 0
noncomputable def fG (N NT:List NL) (cps:List Nat) (mh ml:MI) (LV:List Lv) (j c:Nat):Int:=if c∈cps then ind (fA N cps mh c+zF N NT cps mh LV c) (fA N cps mh c+aa mh c+zF N NT cps mh LV c) (aa ml c) j else 0
theorem LD.front (D:LD N NT cps mh me ml LV L2) {j:Nat} {l:Lv} (h:LV[j]? =some l):Cn l.m (fF N cps mh me j):=by
 obtain⟨d,f,b,e⟩:=D.l1.2 j l h
 have k:∀c,c∈d<->0<fF N cps mh me j c:=λc=>by
  rw[e]
  unfold fF ind
  by_cases q:c∈cps
  .rw [if_pos q,D.fin1 q]
   have:=(D.e3 c q).1
   show _/\fA N cps mh c<=(j:Int)/\(j:Int)< _+fA N cps mh c<->_
   split
   .rename_i z;exact⟨λ_=>by omega,λ_=>⟨q,z.1,by have:=z.2;omega⟩⟩
   .rename_i z;exact⟨λy=>absurd ⟨y.2.1,by have:=y.2.2;omega⟩ z,λy=>by omega⟩
  .rw [if_neg q];exact⟨λy=>absurd y.1 q,λy=>by omega⟩
 refine⟨by rw[ef b];exact f,λc=>?_,λc=>by rw[ef b];exact k c⟩
 rw[g4 b]
 by_cases q:c∈d
 .rw [if_pos q]
  have hk:=(k c).mp q
  have a:=((e c).mp q).1
  unfold fF ind at hk⊢
  rw[if_pos a]at hk⊢
  split
  .rfl
  .rename_i z;rw[if_neg z]at hk;omega
 .rw [if_neg q]
  have hk:=λz=>q ((k c).mpr z)
  unfold fF ind at hk⊢
  split
  .rename_i a
   rw[if_pos a]at hk
   split
   .rename_i z
    rw[if_pos z]at hk
    have:=(D.e3 c a).1
    exact absurd (by omega) hk
   .rfl
  .rfl
theorem LD.rear (D:LD N NT cps mh me ml LV L2) {j:Nat} {l:Lv} (g:j<LV.length) (h:L2[LV.length-1-j]? =some l):Cn l.m (fG N NT cps mh ml LV j):=by
 obtain⟨d,f,b,e⟩:=D.l2.2 _ l h
 have cast:((LV.length-1-j:Nat):Int)=(LV.length:Int)-1-(j:Int):=by omega
 have k:∀c,c∈d<->0<fG N NT cps mh ml LV j c:=λc=>by
  rw[e,Gn,cast]
  unfold fG ind zF
  by_cases q:c∈cps
  .rw [if_pos q,D.fin2 q]
   have:=(D.g3 c q).1
   show _/\fB NT cps mh c<=_/\_< _+fB NT cps mh c<->_
   split
   .rename_i z;exact⟨λ_=>by omega,λ_=>⟨q,by have:=z.2;have:=z.1;omega,by have:=z.1;omega⟩⟩
   .rename_i z;exact⟨λy=>absurd ⟨by have:=y.2.2;omega,by have:=y.2.1;omega⟩ z,λy=>by omega⟩
  .rw [if_neg q];exact⟨λy=>absurd y.1 q,λy=>by omega⟩
 refine⟨by rw[ef b];exact f,λc=>?_,λc=>by rw[ef b];exact k c⟩
 rw[g4 b]
 by_cases q:c∈d
 .rw [if_pos q]
  have hk:=(k c).mp q
  have a:=Gn.mp ((e c).mp q).1
  unfold fG ind at hk⊢
  rw[if_pos a]at hk⊢
  split
  .rfl
  .rename_i z;rw[if_neg z]at hk;omega
 .rw [if_neg q]
  have hk:=λz=>q ((k c).mpr z)
  unfold fG ind at hk⊢
  split
  .rename_i a
   rw[if_pos a]at hk
   split
   .rename_i z
    rw[if_pos z]at hk
    have:=(D.g3 c a).1
    exact absurd (by omega) hk
   .rfl
  .rfl
theorem LD.busy (D:LD N NT cps mh me ml LV L2) {j:Nat} (m:j<LV.length):∃c∈cps,0<fF N cps mh me j c:=by
 have k:=iT D.T.g (P:=λc=>c∈cps->(j:Int)<Fn cps (λc=>ad (au N c)) (aa mh) c->∃d∈cps,fA N cps mh d<=(j:Int)/\(j:Int)<Fn cps (λc=>ad (au N c)) (aa mh) d) λc a i _ g=>by
  by_cases q:fA N cps mh c<=(j:Int)
  .exact ⟨c,a,q,g⟩
  .rcases i5 (l:=((λc=>ad (au N c)) c).map (Fn cps (λc=>ad (au N c)) (aa mh)))with z | z
   .have:fA N cps mh c=0:=z
    omega
   .obtain ⟨d,h,b⟩:=Gl.mp z
    have:fA N cps mh c=Fn cps (λc=>ad (au N c)) (aa mh) d:=b.symm
    exact i d h (D.T.g.ord c a d h).1 (by omega)
 have l:=D.len1
 rcases i5 (l:=cps.map (Fn cps (λc=>ad (au N c)) (aa mh)))with z | z
 .omega
 .obtain ⟨c,a,b⟩:=Gl.mp z
  obtain⟨d,h,e,f⟩:=k c a a (by omega)
  refine⟨d,h, ?_⟩
  unfold fF ind
  rw[D.fin1 h]at f
  rw[if_pos h,if_pos ⟨e,by omega⟩]
  have:=(D.e3 d h).1
  omega
end
theorem vU {A B m:MI} {F G:Nat->Int} (C:Cn A F) (d:Cn B G) (f0:∀c,0<=F c) (g0:∀c,0<=G c) (h:bM bn B A [] m):Cn m (λc=>min (F c) (G c)):=by
 refine(mC h Cn.nil C.nd (λ_ _ z=>nomatch z)).congr λc=>?_
 have k:=C.key c
 have a:=f0 c
 have b:=g0 c
 rw[C.get,d.get]
 unfold bn
 by_cases q:0<F c
 .by_cases r:F c<G c
  .rw [if_pos r,if_pos ⟨k.mpr q,q⟩];omega
  .rw [if_neg r]
   by_cases t:0<G c
   .rw [if_pos ⟨k.mpr q,t⟩];omega
   .rw [if_neg (λz=>t z.2)]
    show(0:Int)=min (F c) (G c)
    omega
 .rw [if_neg (λz=>q (k.mp z.1))]
  show(0:Int)=min (F c) (G c)
  omega
theorem tj {A B m:MI} {F G:Nat->Int} (C:Cn A F) (d:Cn B G) (f0:∀c,0<=F c) (g0:∀c,0<=G c) (h:∃e,bM bm B A [] e/\ds ce A B e m):Cn m (λc=>max (F c) (G c)):=by
 obtain⟨e,g,i⟩:=h
 have D:=mC g Cn.nil C.nd (λ_ _ z=>nomatch z)
 refine(pH i D d.nd (λc n j z=>?_)).congr λc=>?_
 .have:=(D.key c).mp z
  rw[if_neg (λy=>j y.1)]at this
  omega
 .have k:=C.key c
  have l:=d.key c
  have a:=f0 c
  have b:=g0 c
  rw[C.get,d.get]
  unfold bm ce
  by_cases q:0<F c
  .rw [if_neg (λz=>z.2.1 (k.mpr q))]
   by_cases r:F c<G c
   .rw [if_pos r,if_pos ⟨k.mpr q,by omega⟩];omega
   .rw [if_neg r,if_pos ⟨k.mpr q,q⟩];omega
  .have f:c∉ak A:=λz=>q (k.mp z)
   rw[if_neg (c:=c∈ak A/\_) (λz=>f z.1)]
   by_cases r:0<G c
   .rw [if_pos ⟨l.mpr r,f,r⟩];omega
   .rw [if_neg (λz=>r z.2.2)];omega
theorem uy {p q m:Int} (h:0<=m) (j:Nat):0<=ind p q m j:=by unfold ind;split<;>omega
section
variable {N NT:List NL} {cps:List Nat} {mh me ml:MI} {LV L2:List Lv}
theorem LD.f0 (D:LD N NT cps mh me ml LV L2) (j c:Nat):0<=fF N cps mh me j c:=by
 unfold fF;split
 .rename_i h;exact uy (by have:=(D.e3 c h).1;omega) j
 .exact Int.le_refl _
theorem LD.g0 (D:LD N NT cps mh me ml LV L2) (j c:Nat):0<=fG N NT cps mh ml LV j c:=by
 unfold fG;split
 .rename_i h;exact uy (by have:=(D.g3 c h).1;omega) j
 .exact Int.le_refl _
theorem kF {j c:Nat} (h:0<fF N cps mh me j c):c∈cps:=by
 unfold fF at h
 exact Hy λq=>by rw[if_neg q]at h;omega
theorem pd {j c:Nat} (h:0<fG N NT cps mh ml LV j c):c∈cps:=by
 unfold fG at h
 exact Hy λq=>by rw[if_neg q]at h;omega
noncomputable def sM (N NT:List NL) (cps:List Nat) (mh me ml:MI) (LV:List Lv) (i c:Nat):Int:=cf (λj=>min (fF N cps mh me j c) (fG N NT cps mh ml LV j c)) i
noncomputable def sO (N NT:List NL) (cps:List Nat) (mh me ml:MI) (LV:List Lv) (i c:Nat):Int:=cf (λj=>max (fF N cps mh me j c) (fG N NT cps mh ml LV j c)) i
theorem m5 {f:Nat->Int} {P:Prop} (h:∀j,0<f j->P) (a:∀j,0<=f j):∀n,0<cf f n->P
 | 0,q=>absurd q (Int.lt_irrefl _)
 | n+1,q=>by
  have q:0<cf f n+f n:=q
  by_cases r:0<f n
  .exact h n r
  .exact m5 h a n (by have:=a n;omega)
theorem LD.five (D:LD N NT cps mh me ml LV L2):cps.length<=5:=D.c1.gc.five
theorem LD.lvl (D:LD N NT cps mh me ml LV L2):LV.length<=20:=by
 have b:mx (cps.map (Fn cps (λc=>ad (au N c)) (aa mh)))<=20:=fQ (λx a=>by
  obtain⟨c,h,rfl⟩:=Gl.mp a
  exact D.c1.gc.top c h) (by omega)
 have:=D.len1
 omega
theorem LD.klc (D:LD N NT cps mh me ml LV L2):pX LV L2 (λi k g=>Cn k (sM N NT cps mh me ml LV i)/\Cn g (sO N NT cps mh me ml LV i)):=by
 have t:=D.five
 have n:∀i c,0<sM N NT cps mh me ml LV i c->c∈cps:=λi c h=>m5 (λj p=>kF (N:=N) (mh:=mh) (me:=me) (j:=j) (by omega)) (λj=>by have:=D.f0 j c;have:=D.g0 j c;omega) i h
 have o:∀i c,0<sO N NT cps mh me ml LV i c->c∈cps:=λi c h=>m5 (P:=c∈cps) (λj p=>by
  by_cases q:0<fF N cps mh me j c
  .exact kF q
  .exact pd (N:=N) (NT:=NT) (mh:=mh) (ml:=ml) (LV:=LV) (j:=j) (by omega)) (λj=>by have:=D.f0 j c;omega) i h
 refine⟨D.len2,by have:=D.lvl;omega,λi r s d f=>?_,λi k g h=>⟨F2 (h.1.len (n i)) (by omega),F2 (h.2.len (o i)) (by omega)⟩,λi r s k g x u v w d f h b1 u1 l u2=>?_⟩
 .have e:i<LV.length:=(Fa.mp d).1
  have C:=D.front d
  have b:=D.rear e f
  have A:=λm h=>vU C b (D.f0 i) (D.g0 i) (m:=m) h
  have O:=λm h=>tj C b (D.f0 i) (D.g0 i) (m:=m) h
  refine⟨λz=>?_,F2 (C.len λc a=>kF a) (by omega),F2 (b.len λc a=>pd a) (by omega),λm h=>⟨F2 ((A m h).len (cs:=cps) λc a=>kF (j:=i) (N:=N) (mh:=mh) (me:=me) (by omega)) (by omega),(A m h).nd⟩,λm h=>⟨F2 ((O m h).len (cs:=cps) λc a=>?_) (by omega),(O m h).nd⟩⟩
  .obtain ⟨c,_,a⟩:=D.busy e
   have:=(C.key c).mpr a
   rw[z]at this;cases this
  .by_cases q:0<fF N cps mh me i c
   .exact kF q
   .exact pd (N:=N) (NT:=NT) (mh:=mh) (ml:=ml) (LV:=LV) (j:=i) (by omega)
 .have e:i<LV.length:=(Fa.mp d).1
  have C:=D.front d
  have b:=D.rear e f
  exact⟨qi u1 h.1 (λc=>m6 (λj=>by have:=D.f0 j c;have:=D.g0 j c;omega) i) (vU C b (D.f0 i) (D.g0 i) b1),qi u2 h.2 (λc=>m6 (λj=>by have:=D.f0 j c;omega) i) (tj C b (D.f0 i) (D.g0 i) l)⟩
theorem LD.kl0 (D:LD N NT cps mh me ml LV L2):Cn [] (sM N NT cps mh me ml LV 0)/\Cn [] (sO N NT cps mh me ml LV 0):=⟨Cn.nil,Cn.nil⟩
noncomputable def bF (N NT:List NL) (cps:List Nat) (mh:MI) (LV:List Lv) (c:Nat):Int:=if c∈cps then max 0 (aa mh c-zF N NT cps mh LV c)else 0
theorem qO (a h z e l:Int) (n:Nat) (b:0<=a) (i:0<=z) (d:1<=e) (f:1<=l) (g:a+h+z<=(n:Int)):cf (λj=>min (ind a (a+h) e j) (ind (a+z) (a+h+z) l j)) n=min e l*max 0 (h-z):=by
 have E:∀j,min (ind a (a+h) e j) (ind (a+z) (a+h+z) l j)=ind (a+z) (a+h) (min e l) j:=λj=>by
  rw[CQ (by omega) (by omega),H8 (by omega),Int.min_eq_left (by omega)]
 rw[gF λj _=>E j,iz _ _ _ (by omega),Ht (show a+h<=(n:Int)by omega),show a+h-(a+z)=h-z by omega]
theorem xy (a h z e l:Int) (n:Nat) (b:0<=a) (g:0<=h) (k:0<=z) (f:1<=e) (i:1<=l) (d:a+h+z<=(n:Int)):cf (λj=>max (ind a (a+h) e j) (ind (a+z) (a+h+z) l j)) n=max e l*max 0 (h-z)+(e+l)*(h-max 0 (h-z)):=by
 have E:=m7 (λj=>max (ind a (a+h) e j) (ind (a+z) (a+h+z) l j)) (λj=>min (ind a (a+h) e j) (ind (a+z) (a+h+z) l j)) n
 rw[gF λj _=>tQ _ _,m7,qO a h z e l n b k f i d,iz _ _ _ b,iz _ _ _ (by omega),Ht (show a+h<=(n:Int)by omega),Ht d,show a+h-a=h by omega,show a+h+z-(a+z)=h by omega,H8 g]at E
 have q:=congrArg (· *max 0 (h-z)) (tQ e l)
 simp only[Int.add_mul]at q
 rw[Int.add_mul,Int.mul_sub,Int.mul_sub]
 omega
theorem LD.sumM (D:LD N NT cps mh me ml LV L2) (c:Nat):sM N NT cps mh me ml LV LV.length c=if c∈cps then min (aa me c) (aa ml c)*bF N NT cps mh LV c else 0:=by
 by_cases h:c∈cps
 .rw [if_pos h]
  unfold sM bF
  rw[if_pos h]
  have z0:=D.z0 h
  have f:=(D.h3 c h).1
  have a:0<=fA N cps mh c:=fW c
  have d:0<=fB NT cps mh c:=fW c
  have b:=(D.e3 c h).1
  have g:=(D.g3 c h).1
  have i:zF N NT cps mh LV c=(LV.length:Int)-(aa mh c+fA N cps mh c+fB NT cps mh c):=rfl
  refine(gF λj _=>?_).trans (qO (fA N cps mh c) (aa mh c) (zF N NT cps mh LV c) (aa me c) (aa ml c) LV.length a z0 b g (by omega))
  unfold fF fG
  rw[if_pos h,if_pos h]
 .rw [if_neg h]
  unfold sM
  have e:∀j,min (fF N cps mh me j c) (fG N NT cps mh ml LV j c)=0:=λj=>by unfold fF fG;rw[if_neg h,if_neg h];rfl
  rw[gF (g:=ind 0 0 0) λj _=>by rw[e];unfold ind;split<;>rfl,iz _ _ _ (by omega),Int.zero_mul]
noncomputable def pj (N NT:List NL) (cps:List Nat) (mh me ml:MI) (LV:List Lv) (c:Nat):Int:=max (aa me c) (aa ml c)*bF N NT cps mh LV c+(aa me c+aa ml c)*(aa mh c-bF N NT cps mh LV c)
theorem LD.sumO (D:LD N NT cps mh me ml LV L2) (c:Nat):sO N NT cps mh me ml LV LV.length c=if c∈cps then pj N NT cps mh me ml LV c else 0:=by
 by_cases h:c∈cps
 .rw [if_pos h]
  unfold sO pj bF
  rw[if_pos h]
  have z0:=D.z0 h
  have d:=(D.h3 c h).1
  have a:0<=fA N cps mh c:=fW c
  have f:0<=fB NT cps mh c:=fW c
  have b:=(D.e3 c h).1
  have g:=(D.g3 c h).1
  have i:zF N NT cps mh LV c=(LV.length:Int)-(aa mh c+fA N cps mh c+fB NT cps mh c):=rfl
  have q:=xy (fA N cps mh c) (aa mh c) (zF N NT cps mh LV c) (aa me c) (aa ml c) LV.length a d z0 b g (by omega)
  refine(gF λj _=>?_).trans q
  unfold fF fG
  rw[if_pos h,if_pos h]
 .rw [if_neg h]
  unfold sO
  have e:∀j,max (fF N cps mh me j c) (fG N NT cps mh ml LV j c)=0:=λj=>by unfold fF fG;rw[if_neg h,if_neg h];rfl
  rw[gF (g:=ind 0 0 0) λj _=>by rw[e];unfold ind;split<;>rfl,iz _ _ _ (by omega),Int.zero_mul]
end
section
variable {N NT:List NL} {cps:List Nat} {mh me ml:MI} {LV L2:List Lv}
theorem rp {nm:Nat} {e a b:Int} (m:0<=a):∀(L:List Lv) (i:Nat),(∀k l,L[k]? =some l->(aa l.m nm=e<->a<=((i+k:Nat):Int)/\((i+k:Nat):Int)<b))->b<=((i+L.length:Nat):Int)->et nm e i L=iS (max a (i:Int)) (b-max a (i:Int)).toNat
 | [],i,_,d=>by
  have:(b-max a (i:Int)).toNat=0:=by simp at d;omega
  rw[this];rfl
 | l::L,i,f,d=>by
  have g:=rp (nm:=nm) (e:=e) (a:=a) (b:=b) m L (i+1) (λk l hk=>by
   have:=f (k+1) l (by simpa using hk)
   rw[show i+1+k=i+(k+1)by omega];exact this) (by rw[Fd]at d;omega)
  have h:=f 0 l rfl
  rw[Nat.add_zero]at h
  unfold et
  by_cases q:aa l.m nm=e
  .rw [if_pos q,g]
   obtain⟨j,n⟩:=h.mp q
   rw[show max a ((i+1:Nat):Int)=(i:Int)+1 by omega,show max a (i:Int)=(i:Int)by omega,show(b-(i:Int)).toNat=(b-((i:Int)+1)).toNat+1 by omega]
   rfl
  .rw [if_neg q,g]
   have j:¬(a<=(i:Int)/\(i:Int)<b):=λz=>q (h.mpr z)
   by_cases r:a<=(i:Int)
   .have:(b-max a ((i+1:Nat):Int)).toNat=0:=by omega
    rw[this]
    have:(b-max a (i:Int)).toNat=0:=by omega
    rw[this];rfl
   .rw [show max a ((i+1:Nat):Int)=max a (i:Int)by omega]
theorem uC (mh:MI) (W:List (List Nat)):fs mh W=W.map (wt (aa mh)):=rfl
theorem LD.skc (D:LD N NT cps mh me ml LV L2) {ws:List (List Nat×Nat)} {g:List (Int×Nat)} {j:Int} (e:ws.map (λx=>x.1)=cb N cps) (d:g.map (λx=>x.1)=fs mh (ws.map (λx=>x.1))) (m:j=(LV.length:Nat)):∀c∈cps,∃a,kQ c mh me ws g LV j a (zF N NT cps mh LV c):=by
 intro c h
 have B:=D.h3 c h
 have A:=D.e3 c h
 have f:0<=fA N cps mh c:=fW c
 have w:0<=fB NT cps mh c:=fW c
 have z0:=D.z0 h
 have t:zF N NT cps mh LV c=(LV.length:Int)-(aa mh c+fA N cps mh c+fB NT cps mh c):=rfl
 have E:=D.lvl
 obtain⟨v,i,C⟩:=eM (m:=mh) (c:=c) (by rw[D.kh];exact h)
 obtain⟨u,n,r⟩:=eM (m:=me) (c:=c) (by rw[D.ke];exact h)
 rw[e]at d
 refine⟨fA N cps mh c,⟨⟨f,by omega⟩,⟨v,i,by omega,by omega,λo b=>?_⟩,⟨u,n,v,i, ?_⟩,λo b=>?_⟩⟩
 .rw [e,d,uC]at b
  obtain⟨p,q⟩:=DH D.T.g h o b
  refine⟨p, ?_⟩
  rw[q,D.fin1 h];omega
 .have s:∀k l,LV[k]? =some l->(aa l.m c=u.1<->fA N cps mh c<=((0+k:Nat):Int)/\((0+k:Nat):Int)<fA N cps mh c+aa mh c):=λk l hk=>by
   rw[(D.front hk).get,Nat.zero_add,r]
   unfold fF ind
   rw[if_pos h]
   split
   .rename_i z;exact⟨λ_=>z,λ_=>rfl⟩
   .rename_i z;exact⟨λy=>by omega,λy=>absurd y z⟩
  have q:=rp f LV 0 s (by omega)
  rw[q,show max (fA N cps mh c) ((0:Nat):Int)=fA N cps mh c by omega]
  congr 1
  omega
 .rw [e,d,uC]at b
  obtain⟨p,q⟩:=xv D.T h o b
  refine⟨p, ?_⟩
  rw[q,D.fin1 h,m,t]
  show _-(_+fB NT cps mh c)=_
  omega
theorem LD.spare (D:LD N NT cps mh me ml LV L2) {m e:MI} (d:aH m=cps.map λc=>(c,zF N NT cps mh LV c)) (h:∃b,bM cB m mh [] b/\ds dJ mh m b e):Cn e (bF N NT cps mh LV):=by
 obtain⟨b,g,i⟩:=h
 have nd:cps.Nodup:=D.T.g.nd
 have k:=ef d
 have f:=mC g Cn.nil (by rw[D.kh];exact nd) (λ_ _ z=>nomatch z)
 refine(pH i f (by rw[k];exact nd) (λc a j=>absurd (by rw[D.kh,<-k];exact a) j)).congr λc=>?_
 rw[if_neg (λz=>z.2.1 (by rw[D.kh,<-k];exact z.1)),D.kh]
 unfold bF cB
 by_cases a:c∈cps
 .rw [if_pos a,g4 d,if_pos a]
  by_cases q:0<aa mh c-zF N NT cps mh LV c
  .rw [if_pos ⟨a,q⟩];omega
  .rw [if_neg (λz=>q z.2)]
   show(0:Int)=_
   omega
 .rw [if_neg (λz=>a z.1),if_neg a]
theorem LD.held (D:LD N NT cps mh me ml LV L2) {m:MI} (a:aH m=cps.map λc=>(c,zF N NT cps mh LV c)) (c:Nat):c∈cV mh m cps<->0<bF N NT cps mh LV c:=by
 unfold cV
 rw[Ic,g4 a]
 unfold bF
 by_cases h:c∈cps
 .rw [if_pos h,if_pos h,decide_eq_true_eq]
  exact⟨λz=>by have:=z.2;omega,λz=>⟨h,by omega⟩⟩
 .rw [if_neg h,if_neg h]
  exact⟨λz=>absurd z.1 h,λz=>by omega⟩
theorem LD.held_nd (D:LD N NT cps mh me ml LV L2) (m:MI):(cV mh m cps).Nodup:=D.T.g.nd.sublist List.filter_sublist
theorem LD.sp_hi (D:LD N NT cps mh me ml LV L2) (c:Nat):0<=bF N NT cps mh LV c/\(c∈cps->bF N NT cps mh LV c<=aa mh c):=by
 unfold bF
 split
 .rename_i h
  have:=D.z0 h
  have:=(D.h3 c h).1
  exact⟨by omega,λ_=>by omega⟩
 .rename_i h;exact⟨Int.le_refl _,λz=>absurd z h⟩
theorem LD.t25 (D:LD N NT cps mh me ml LV L2) {d b m:MI} (e:aH d=cps.map λc=>(c,zF N NT cps mh LV c)) (C:Cn b (bF N NT cps mh LV)) (h:aH m=(cV mh d cps).map λc=>(c,aa mh c-zF N NT cps mh LV c)):b.length=m.length/\∀x∈b,∃v,look? m x.1=some v/\v.1=x.2.2.1:=
 nt C h (D.held_nd d) (λc=>(D.held e c).symm) λc f=>by
  have a:=(D.held e c).mp f
  unfold bF at a⊢
  by_cases q:c∈cps
  .rw [if_pos q]at a⊢;omega
  .rw [if_neg q]at a;omega
theorem LD.t26 (D:LD N NT cps mh me ml LV L2) {b i a m:MI} (f:aH b=cps.map λc=>(c,zF N NT cps mh LV c)) (C:Cn i (bF N NT cps mh LV)) (M:Cn a (sM N NT cps mh me ml LV LV.length)) (h:aH m=(cV mh b cps).map λc=>(c,min (aa me c) (aa ml c)*aa i c)):a.length=m.length/\∀x∈a,∃v,look? m x.1=some v/\v.1=x.2.2.1:=by
 refine nt M h (D.held_nd b) (λc=>?_) λc d=>?_
 .rw [D.held f,D.sumM]
  by_cases q:c∈cps
  .rw [if_pos q]
   have e:=(D.e3 c q).1
   have g:=(D.g3 c q).1
   have s:=(D.sp_hi c).1
   constructor
   .intro z
    by_cases r:0<(bF N NT cps mh LV c)
    .exact r
    .have:bF N NT cps mh LV c=0:=by omega
     rw[this,Int.mul_zero]at z;omega
   .intro z;exact Int.mul_pos (by omega) z
  .rw [if_neg q]
   have:bF N NT cps mh LV c=0:=by unfold bF;rw[if_neg q]
   rw[this]
 .have j:=(D.held f c).mp d
  have q:c∈cps:=(Ic.mp d).1
  rw[D.sumM,if_pos q,C.get]
theorem LD.t29 (D:LD N NT cps mh me ml LV L2) {a j m:MI} (C:Cn a (bF N NT cps mh LV)) (J:Cn j (sO N NT cps mh me ml LV LV.length)) (h:aH m=(dU mh cps).map λc=>(c,max (aa me c) (aa ml c)*aa a c+(aa me c+aa ml c)*(aa mh c-aa a c))):j.length=m.length/\∀x∈j,∃v,look? m x.1=some v/\v.1=x.2.2.1:=by
 refine nt J h (D.T.g.nd.sublist List.filter_sublist) (λc=>?_) λc f=>?_
 .rw [D.sumO]
  unfold dU
  rw[Ic,decide_eq_true_eq]
  by_cases q:c∈cps
  .rw [if_pos q]
   have e:=(D.e3 c q).1
   have g:=(D.g3 c q).1
   have i:=(D.h3 c q).1
   have s:=(D.sp_hi c).1
   have l:=(D.sp_hi c).2 q
   unfold pj
   have p:0<=max (aa me c) (aa ml c)*bF N NT cps mh LV c:=Int.mul_nonneg (by omega) s
   have k:0<=(aa me c+aa ml c)*(aa mh c-bF N NT cps mh LV c):=Int.mul_nonneg (by omega) (by omega)
   constructor
   .intro z
    refine⟨q, ?_⟩
    by_cases r:0<(aa mh c)
    .exact r
    .have b:bF N NT cps mh LV c=0:=by omega
     have d:aa mh c-bF N NT cps mh LV c=0:=by omega
     rw[d,b,Int.mul_zero,Int.mul_zero]at z;omega
   .rintro ⟨_,z⟩
    by_cases r:0<(bF N NT cps mh LV c)
    .have:0<max (aa me c) (aa ml c)*bF N NT cps mh LV c:=Int.mul_pos (by omega) r
     omega
    .have:0<(aa me c+aa ml c)*(aa mh c-bF N NT cps mh LV c):=Int.mul_pos (by omega) (by omega)
     omega
  .rw [if_neg q]
   exact⟨λz=>by omega,λz=>absurd z.1 q⟩
 .have q:c∈cps:=(Ic.mp f).1
  rw[D.sumO,if_pos q,C.get];rfl
end
theorem oU {a:List Nat} (d:a.Nodup) {i c:Nat} (h:a[i]? =some c):a.idxOf c=i:=by
 obtain⟨b,e⟩:=Fa.mp h
 rw[<-e];exact d.idxOf_getElem i b
theorem CR {a:List Nat} (b:a.Nodup) {i c:Nat} (h:c∈a.take i):c∈a/\a.idxOf c<i:=by
 obtain⟨k,hk,e⟩:=Iu.mp h
 rw[FQ]at hk
 rw[GO]at e
 have:=oU b (i:=k) (c:=c) (by rw[<-e];exact Fh (by omega))
 exact⟨List.mem_of_mem_take h,by omega⟩
theorem uB {a:List Nat} (d:a.Nodup) {c:Nat} (h:c∈a):a.reverse.idxOf c=a.length-1-a.idxOf c:=by
 have b:=Gt h
 have e:a.reverse.Nodup:=(List.reverse_perm a).nodup_iff.mpr d
 refine oU e ?_
 rw[List.getElem?_reverse (by omega)]
 rw[show a.length-1-(a.length-1-a.idxOf c)=a.idxOf c by omega,Fh b]
 rw[List.getElem_idxOf b]
theorem xl {a:List Nat} {pre:Nat->List Nat} {h:Nat->Int} (g:cH a pre h) (e:∀c∈a,h c<=3):∀c∈a,Fn a pre h c<=3*((a.idxOf c:Nat):Int)+3:=by
 have k:=iT g (P:=λc=>c∈a->Fn a pre h c<=3*((a.idxOf c:Nat):Int)+3) λc b i _=>by
  have:An a pre h c<=3*((a.idxOf c:Nat):Int):=fQ (λv f=>by
   obtain⟨p,hp,rfl⟩:=Gl.mp f
   obtain⟨d,j⟩:=g.ord c b p hp
   have:=i p hp d
   omega) (by omega)
  have:=d9 g b
  have:=e c b
  omega
 exactλc b=>k c b b
theorem rt {pre:Nat->List Nat} {p:Nat} (hp:(pre p).count p=0):∀{cps:List Nat},(∀c∈cps,(pre c).count p<=2)->(bc cps pre p).length+2*cps.count p<=2*cps.length
 | [],_=>FO _
 | x::cps,h=>by
  have i:=rt hp (cps:=cps) λc a=>h c (E4 _ a)
  have b:=h x E2
  unfold bc at i⊢
  rw[GP,FW,HZ,Fd,List.count_cons]
  by_cases q:x=p
  .subst q
   rw[hp,if_pos (show(x==x)=true by simp)];omega
  .rw [if_neg (show¬(x==p)=true by simpa using q)];omega
section
variable {N NT:List NL} {cps:List Nat} {n:Nat} {mh me ml:MI}
theorem mO {m:MI} {lo d:Int} (h:∀x∈m,lo<=x.2.2.1/\x.2.2.1<=d) {c:Nat} (b:c∈ak m):lo<=aa m c/\aa m c<=d:=by
 obtain⟨v,a,e⟩:=eM b
 rw[<-e]
 clear e
 induction m with
 | nil=>cases a
 | cons x m i=>
  obtain⟨k,t,y⟩:=x
  unfold look? at a
  by_cases q:k=c
  .rw [if_pos q]at a;cases a;exact h (k,t,v) E2
  .rw [if_neg q]at a
   exact i (λx f=>h x (E4 _ f)) ((GR.mp b).resolve_left λz=>q z.symm) a
theorem nV (a:cps.Nodup) (hk:aU N=cps) {c:Nat} (d:c∈cps):∃i x,N[i]? =some x/\x.c.1=c/\au N c=x.ps/\cps.idxOf c=i:=by
 obtain⟨x,R,g,e,j,hp,k⟩:=iY (N:=N) (by rw[hk];exact a) (c:=c) (by rw[hk];exact d)
 obtain⟨i,f,b⟩:=Iu.mp g
 have h:N[i]? =some x:=by rw[<-b];exact Fh f
 refine⟨i,x,h,e,hp,oU a ?_⟩
 rw[<-hk]
 unfold aU
 rw[Fl,h,<-e];rfl
structure mI (N NT:List NL) (cps:List Nat) (mh me ml:MI):Prop where
 c1:bE N cps mh me
 c2:bE NT cps.reverse mh ml
 T:fU cps (λc=>ad (au N c)) (λc=>ad (au NT c)) (aa mh)
 h3:∀c∈cps,0<=aa mh c/\aa mh c<=3
 e3:∀c∈cps,1<=aa me c/\aa me c<=3
 g3:∀c∈cps,1<=aa ml c/\aa ml c<=3
 kh:ak mh=cps
 ke:ak me=cps
 kl:ak ml=cps
theorem mI.ld {a L:List Lv} (D:mI N NT cps mh me ml) (l:cA cps (λc=>ad (au N c)) (aa mh) me a) (b:cA cps.reverse (λc=>ad (au NT c)) (aa mh) ml L):LD N NT cps mh me ml a L:=⟨D.c1,D.c2,D.T,l,b,D.h3,D.e3,D.g3,D.kh,D.ke,D.kl⟩
theorem Bn (L:cps.length=n) (a:cps.Nodup) (O:n<=5) (A:cps≠[]) (J:dH cps n mh me ml N) (V:cY cps N cps.length NT):mI N NT cps mh me ml:=by
 have ct:cps.take n=cps:=by rw[<-L];exact GJ
 have l:ak mh=cps:=J.kh.trans ct
 have u:ak me=cps:=J.ke.trans ct
 have w:ak ml=cps:=J.kl.trans ct
 have r:aU N=cps:=J.kn.trans ct
 have kt:aU NT=cps:=V.kt.trans GJ
 have k:∀c∈cps,0<=aa mh c/\aa mh c<=3:=λc h=>mO J.vh (by rw[l];exact h)
 have G:∀c∈cps,1<=aa me c/\aa me c<=3:=λc h=>mO J.ve (by rw[u];exact h)
 have H:∀c∈cps,1<=aa ml c/\aa ml c<=3:=λc h=>mO J.vl (by rw[w];exact h)
 have g:cH cps (λc=>ad (au N c)) (aa mh):=⟨a,λc h=>(k c h).1,λc h p hp=>by
  obtain⟨i,x,b,e,f,q⟩:=nV a r h
  have hp:p∈ad (au N c):=hp
  rw[f]at hp
  have:=CR a ((J.vn i x b).1 p hp)
  exact⟨this.1,by rw[q];exact this.2⟩⟩
 have y:∀c∈cps,∀p,(ad (au N c)).count p<=2:=λc h p=>by
  obtain⟨i,x,b,e,f,q⟩:=nV a r h
  rw[f];exact(J.vn i x b).2.1 p
 have E:∀c∈cps,ad (au NT c)=bc cps (λc=>ad (au N c)) c:=λc h=>by
  obtain⟨i,x,b,e,f,q⟩:=nV a kt h
  rw[f,V.vt x (FD b),e]
 have eq:∀c∈cps,∀d,d∈ad (au NT c)<->d∈cps/\c∈ad (au N d):=λc h d=>by
  rw[E c h];exact iG
 have s:cH cps.reverse (λc=>ad (au NT c)) (aa mh):=⟨(List.reverse_perm cps).nodup_iff.mpr a,λc h=>(k c (Gn.mp h)).1,λc h p hp=>by
  have h:=Gn.mp h
  obtain⟨j,t⟩:=(eq c h p).mp hp
  refine⟨Gn.mpr j, ?_⟩
  have I:=(g.ord p j c t).2
  have P:=Gt j
  rw[uB a j,uB a h]
  omega⟩
 have M:∀c∈cps,(ad (au N c)).count c=0:=λc h=>Hn.mpr λz=>by
  have:=(g.ord c h c z).2;omega
 have F:∀{o:List Nat} {D:Nat->List Nat},cH o D (aa mh)->o.length<=5->(∀c∈o,aa mh c<=3)->∀c∈o,Fn o D (aa mh) c<=20:=λg Q k c h=>by
  have:=xl g k c h
  have:=Gt h
  omega
 have ja:∀{m:MI} {c:Nat},ak m=cps->c∈cps->∃v,look? m c=some v:=λhk h=>g5 (by rw[hk];exact h)
 have C:mh.length<=8:=by have:=congrArg Fo l;unfold ak at this;rw[Fq]at this;omega
 refine⟨⟨⟨g,by omega,y,λc h=>ja u h,F g (by omega) λc h=>(k c h).2⟩,A,λc h=>by rw[r];exact h,by rw[r];exact a,λx b=>?_,C,by rw[l];exact a,λc h=>by rw[l];exact h⟩,
  ⟨⟨s,by rw[Ie];omega,λc h p=>?_,λc h=>ja w (Gn.mp h),F s (by rw[Ie];omega) λc h=>(k c (Gn.mp h)).2⟩,λz=>A (List.reverse_eq_nil_iff.mp z),λc h=>by rw[kt];exact Gn.mp h,by rw[kt];exact a,λx b=>?_,C,by rw[l];exact a,λc h=>by rw[l];exact Gn.mp h⟩,
  ⟨g,s,eq⟩,k,G,H,l,u,w⟩
 .obtain ⟨i,q,f⟩:=Iu.mp b
  have j:N[i]? =some x:=by rw[<-f];exact Fh q
  have t:=(J.vn i x j).2.2
  have I:N.length=n:=by have:=congrArg Fo r;unfold aU at this;rw[Fq]at this;omega
  omega
 .have h:=Gn.mp h
  rw[E c h,nr _ _ _ a]
  split
  .rename_i hp;exact y p hp c
  .omega
 .have B:x.c.1∈cps:=by rw[<-kt];exact Fc b
  rw[<-eV,V.vt x b]
  have j:=rt (pre:=λc=>ad (au N c)) (p:=x.c.1) (M _ B) (cps:=cps) λc h=>y c h _
  have t:=H1.mpr B
  omega
end
theorem zq (w:E9) (Y:Lw) (L:List Lv) (k:List E6) (q:KF w.params k) (f d t:Nat) (zF:Nat->Int) (g:∀c∈Y.cps,c<128) (G:Y.cps.Nodup) (H:Y.cps≠[]) (i:Y.lg=(Y.LV.length:Nat)) (E:L.length=Y.LV.length) (D:Y.LV.length<=900) (F:Y.ws.length=Y.hs.length) (B:∀x∈Y.ws,x.1.length<=900) (M:Y.ws.length<=900) (A:Y.cps.length<=5) (C:∀c∈Y.cps,∃a,kQ c Y.mh Y.me Y.ws Y.hs Y.LV Y.lg a (zF c)):ax (env w) (rO w Y L k f d t zF) (Dn (.block (((aI w.params).drop 17).take 3) (aq w.params Y))):=by
 let N:∀{w:E9} {k:List E6} {Y:Lw} {L:List Lv} {f d t:Nat} {zF:Nat->Int} (g:∀c∈Y.cps,c<128) (m e:Nat) (o:(aD Y.LV).length=m) (p:(aD L).length=e) (l:((m:Nat):Int)=Y.lg) (n:((e:Nat):Int)=Y.lg) (I:(aD Y.LV).length<=1000) (J:(aD L).length<=1000) (hk:∀(j S f s:Nat),ab (env w) (gK w Y j S Y.lg (λr=>aH r=Y.cps.map (λc=>(c,zF c))) k [] 0 f d t s [])),PP (env w) (rO w Y L k f d t zF):= @λw k Y L f d t zF g m e o p l n I J hk _ T=>
  .seg 68853694464 λU=>
  .use _ (dv Fs w Y.FA Y.fan (aD Y.LV) m o (by omega)) [13] [] λQ h2=>
  .seg 4098 λX=>
  .use _ (gn w (↑m:Int) Y.lg Q Y.tl l) [] [] λx4 h4=>
  .seg 68753031168 λZ=>
  .use _ (dv Fs w Y.bk Y.n2 (aD L) e p (by omega)) [14] [] λR h6=>
  .seg 4099 λO7=>
  .use _ (gn w (↑e:Int) Y.lg R Y.tl n) [] [] λx8 h8=>
  .seg 68803411980 λO=>
  .use _ (fL w Y.cps Y.tN g) [] [] λP gt=>
  .seg 1 λV=>
  .use _ (hk P (O 0) f 0) [0,3,4,4,4,4,4,4,4,4,4,4,4,2,0] [0] λb y=>
  .seg 0 λW=>
  T ((b.1,(b.2.1.1,b.2.1.2.1,b.2.1.2.2),b.2.2.1,b.2.2.2.1,b.2.2.2.2.1,b.2.2.2.2.2,O 0)) y [] [0,14,0,0,0,0,0,0,0,0,0,0,0,0,1,0] [0]
 have u:(aD Y.LV).length=Y.LV.length:=by unfold aD;rw[Fq]
 have v:(aD L).length=Y.LV.length:=by unfold aD;rw[Fq];exact E
 have hk:=λ(j S f s:Nat)=>yb w {Y with it:=j,SD:=S,fe:=f,se:=s} _ k q G i D F B M A zF C (λr h=>h) H d t
 rcases q with rfl | ⟨k4,v4,rfl⟩<;>exact aG _ (N g Y.LV.length Y.LV.length u v i.symm i.symm (by omega) (by omega) hk)
section
variable {N NT:List NL} {cps:List Nat} {mh me ml ms mp:MI} {LV L2:List Lv} {hd2:List (Nat×Nat)}
theorem oP {m:MI} {l:List Nat} (h:ak m=l):m.length=l.length:=by rw[<-h];unfold ak;rw[Fq]
theorem uE (h:ad hd2=cV mh ms cps):∀x∈hd2,x.1∈cps:=λx a=>by
 have:x.1∈ad hd2:=Fc a
 rw[h]at this
 exact(Ic.mp this).1
theorem uD (h:ad hd2=cV mh ms cps) (a:cps.length<=5):hd2.length<=900:=by
 rw[<-eV,h]
 have:=List.length_filter_le (λc=>decide (aa ms c<aa mh c)) cps
 unfold cV;omega
theorem LD.sp8 (D:LD N NT cps mh me ml LV L2) (C:Cn mp (bF N NT cps mh LV)):mp.length<=8:=by
 have a:=D.five
 exact F2 (C.len (cs:=cps) λc h=>Hy λq=>by unfold bF at h;rw[if_neg q]at h;omega) (by omega)
theorem LD.x25 (D:LD N NT cps mh me ml LV L2) (a:aH ms=cps.map (λc=>(c,zF N NT cps mh LV c))) (d:ad hd2=cV mh ms cps):∀x∈hd2,∃v u:Int×Nat,look? mh x.1=some v/\look? ms x.1=some u/\v.1-u.1=aa mh x.1-zF N NT cps mh LV x.1:=λx i=>by
 have h:=uE d x i
 obtain⟨v,g,e⟩:=eM (m:=mh) (c:=x.1) (by rw[D.kh];exact h)
 obtain⟨u,f,b⟩:=eM (m:=ms) (c:=x.1) (by rw[ef a];exact h)
 refine⟨v,u,g,f, ?_⟩
 rw[e,b,g4 a,if_pos h]
theorem LD.x26 (D:LD N NT cps mh me ml LV L2) (b:ad hd2=cV mh ms cps):∀x∈hd2,∃v u:Int×Nat,look? me x.1=some v/\look? ml x.1=some u/\(min v.1 u.1).natAbs<1000000/\min v.1 u.1*aa mp x.1=min (aa me x.1) (aa ml x.1)*aa mp x.1:=λx g=>by
 have h:=uE b x g
 obtain⟨v,f,e⟩:=eM (m:=me) (c:=x.1) (by rw[D.ke];exact h)
 obtain⟨u,d,a⟩:=eM (m:=ml) (c:=x.1) (by rw[D.kl];exact h)
 have b1:=D.e3 x.1 h
 have i:=D.g3 x.1 h
 exact⟨v,u,f,d,by omega,by rw[e,a]⟩
theorem LD.x28 (D:LD N NT cps mh me ml LV L2):∀c∈cps,∃v s u:Int×Nat,look? mh c=some v/\look? me c=some s/\look? ml c=some u/\(max s.1 u.1).natAbs<1000000/\(s.1+u.1).natAbs<1000000/\max s.1 u.1*aa mp c+(s.1+u.1)*(v.1-aa mp c)=max (aa me c) (aa ml c)*aa mp c+(aa me c+aa ml c)*(aa mh c-aa mp c):=λc h=>by
 obtain⟨v,g,e⟩:=eM (m:=mh) (c:=c) (by rw[D.kh];exact h)
 obtain⟨s,d,a⟩:=eM (m:=me) (c:=c) (by rw[D.ke];exact h)
 obtain⟨u,f,b⟩:=eM (m:=ml) (c:=c) (by rw[D.kl];exact h)
 have b1:=D.e3 c h
 have i:=D.g3 c h
 exact⟨v,s,u,g,d,f,by omega,by omega,by rw[e,a,b]⟩
end
noncomputable def fM (w:E9) (Y:Lw) (e:Nat):af:={d:=140,α:=Unit,c:=.func (aI w.params) (aq w.params Y),need:=[(Y.fr,bv [es w.params [115,99,114,105,112,116] Y.k1 (.ref Y.sa)] e Y.sl),(Y.c1,br),(Y.c2,br),(Y.c3,br),(Y.c4,br),(Y.c5,br),(Y.c6,br),(Y.c7,br),(Y.c8,br),(Y.c9,br),(Y.c10,br),(Y.c11,br),(Y.c12,br),(Y.sa,ae (Y.xs.map iv) Y.n0)],r:=λ_=>.ok (.ret (.bool true)),new:=λ_=>[(Y.sa,ae (Y.xs.map iv) Y.n0)],outer:=some []}
noncomputable def ij (P:E8) (x:List E6):Prop:=x=[]\/∃k a kt,x=[es P [107] k (.int a kt)]
theorem ij.kf {P:E8} {x:List E6} (h:ij P x):KF P x:=by
 rcases h with rfl | ⟨k,a,kt,rfl⟩
 .exact .inl rfl
 .exact .inr ⟨k,_,rfl⟩
theorem zk (w:E9) (Y:Lw) (n:Nat) (k:List E6) (r:ij w.params k) (f:Nat) (b:n<=5) (v:0<n) (u:Y.cps.length=n) (y:Y.cps.Nodup) (A:Y.ys.length=n+n*(n-1)/2):ax (env w) (rJ w Y n k f) (Dn (.block (((aI w.params).drop 4).take 5) (aq w.params Y))):=by
 let B:∀{w:E9} {k:List E6} {Y:Lw} {n:Nat} {f:Nat} (b:n<=5) (a:∀(o m e la nd:Nat) (l:Int) (t p q f g d i j:Nat),l=((n:Nat):Int)->ab (env w) {sJ w Y o m e la nd ((n:Nat):Int) (dH Y.cps n) k 0 l t p q f [] br [] [] [] g d i [] j []with needB:=[]}),PP (env w) (rJ w Y n k f):= @λw k Y n f b a _ D=>
  .seg 0x100100100100100100100100100100100100100100500000000b00b009009007007005005 λO=>
  .use _ (lL w (O 6) 0 (↑n:Int) (O 4) Y.tn (O 5) ((↑n:Int)-0) (by omega) rfl) [0] [] λC G=>
  .seg 2 λE=>
  .use _ (a C (O 0) (O 1) (O 2) (O 3) ((↑n:Int)-0) 0 0 0 f 0 0 0 0 (by trivial)) [1,5,5,5,5,5,5,5,5,4,3,2,1] [] λx s=>
  .seg 0 λF=>
  D (((x.1.1,x.1.2.1,x.1.2.2.1,x.1.2.2.2.1,x.1.2.2.2.2),(x.2.1.1,x.2.1.2.1,x.2.1.2.2.1,x.2.1.2.2.2),(x.2.2.1,x.2.2.2.1,x.2.2.2.2.1,x.2.2.2.2.2),O 0,O 1,O 2,O 3)) s [] [0,0,0,0,0,0,0,0,0,0,0] [0]
 have a:=λ(o m e la nd:Nat) (l:Int) (t p q f g d i j:Nat)=>Co w {Y with nd:=nd} o m e la (dH Y.cps n) k r n b u y A (λ_ _ _ _ h=>h) v l t p q f g d i j
 rcases r with rfl | ⟨H,I,kt,rfl⟩<;>exact aG _ (B b a)
theorem zj (w:E9) (Y:Lw) (j f:Nat) (b:Int) (u:List E6) (C:ij w.params u) (r:Y.cps.Nodup) (o:Y.cps.length<=5) (d:∀c∈Y.cps,c<128) (q:(aU Y.N).Nodup) (hk:∀c∈Y.cps,c∈aU Y.N) (p:∀x∈Y.N,x.ps.length<=10) (s:Y.cps≠[]):ax (env w) (yv w {Y with fe:=f} j b u) (Dn (.block (((aI w.params).drop 9).take 2) (aq w.params Y))):=by
 rcases C with rfl | ⟨t,v,kt,rfl⟩
 .exact aG _ (have l:∀(i k T f e:Nat),ab (env w) {fc w {Y with k6:=k,T:=T,fe:=f} i j b Y.N (cY Y.cps Y.N Y.cps.length) [] 0 br [] e []with needB:=[bh Y.N]}:=(λi k T f e=>w3 w {Y with k6:=k,T:=T,fe:=f} i j b Y.N (cY Y.cps Y.N Y.cps.length) r o d q hk p s (λ_ h=>h) e);λ_ n=>.seg 68769816578 λO=>.use _ (fL w Y.cps Y.tN d) [] [] λm B=>.seg 1 λy=>.use _ (l m (O 1) (O 0) (f+1) 0) [0,1,1,1,1,1,0] [0] λa g=>.seg 0 λA=>n ((a.1,a.2.1,(a.2.2.1,a.2.2.2),f+1,O 1,O 0)) g [] [0,0,0,0,0,0] [0,0])
 .exact aG _ (have l:∀(i k T f e:Nat),ab (env w) {fc w {Y with k6:=k,T:=T,fe:=f} i j b Y.N (cY Y.cps Y.N Y.cps.length) [es w.params [107] t (.int v kt)] 0 br [] e []with needB:=[bh Y.N]}:=(λi k T f e=>w4 w {Y with k6:=k,T:=T,fe:=f} i j b Y.N (cY Y.cps Y.N Y.cps.length) t kt v r o d q hk p s (λ_ h=>h) e);λ_ n=>.seg 68769816578 λO=>.use _ (fL w Y.cps Y.tN d) [] [] λm B=>.seg 1 λy=>.use _ (l m (O 1) (O 0) (f+1) 0) [0,1,1,1,1,1,0] [0] λa g=>.seg 0 λA=>n ((a.1,a.2.1,(a.2.2.1,a.2.2.2),f+1,O 1,O 0)) g [] [0,0,0,0,0,0] [0,0])
theorem zv (w:E9) (Y:Lw) (k:List E6) (b:KF w.params k) (h:cU Y.hs=Y.lg) (a:Y.hs≠[]):ax (env w) (jU w Y k) (Dn (.block [aA (aI w.params) 14] (aq w.params Y))):=by
 rcases b with rfl | ⟨d,v,rfl⟩
 .exact zw w Y h a
 .exact zx w Y d v h a
theorem zr (w:E9) (Y:Lw) (e:Nat) (N:List NL) (k:List E6) (g:KF w.params k) (C:bE Y.N Y.cps Y.mh Y.me) (a:bE N Y.cps.reverse Y.mh Y.ml) (h:∀c∈Y.cps,c<128) (d:Y.cps.length=3\/Y.cps.length=4\/Y.cps.length=5):fy (env w) (nz w Y e N k) (.func (aI w.params) (aq w.params Y)) (Dn (.block (((aI w.params).drop 15).take 2) (aq w.params Y))):=by
 have b:∀c∈Y.cps.reverse,c<128:=λc f=>h c (Gn.mp f)
 rcases g with rfl | ⟨i,v,rfl⟩
 .exact zt w Y e N C a h b d
 .exact zu w Y e N i v C a h b d
theorem pZ {N:List NL}:∀{cps:List Nat} {W:List (List Nat)},(cps.foldl (fu N) W).length<=W.length*2^cps.length
 | [],W=>by show W.length<=W.length*1;omega
 | c::cps,W=>by
  have i:=pZ (N:=N) (cps:=cps) (W:=fu N W c)
  have h:(fu N W c).length<=W.length*2:=by
   have:=p9 (ad (au N c)) c W
   unfold fu
   rw[FW];omega
  have a:(fu N W c).length*2^cps.length<=W.length*2*2^cps.length:=Nat.mul_le_mul_right _ h
  rw[Fd,Nat.pow_succ,Nat.mul_comm (2^cps.length) 2,<-Nat.mul_assoc]
  exact F2 i a
theorem we {Y:Lw} {h:Nat->Int} (g:cH Y.cps (λc=>ad (au Y.N c)) h) {x:List Nat} (p:x∈cb Y.N Y.cps):x.length<=Y.cps.length:=by
 obtain⟨a,b⟩:=(eB g x).mp p
 have nd:∀{y:List Nat},b6 (λc=>ad (au Y.N c)) y->(∀e∈y,e∈Y.cps)->y.Nodup/\∀c z,y=c::z->∀e∈z,Y.cps.idxOf e<Y.cps.idxOf c:=by
  intro y
  induction y with
  | nil=>intro _ _;exact⟨Gv,λ_ _ e=>nomatch e⟩
  | cons c y r=>
   intro q j
   obtain⟨i,n⟩:=r (sK q) λe f=>j e (E4 _ f)
   have k:∀e∈y,Y.cps.idxOf e<Y.cps.idxOf c:=λe f=>by
    cases y with
    | nil=>cases f
    | cons d z=>
     have o:=(g.ord c (j c E2) d q.1).2
     rcases GR.mp f with rfl | f
     .exact o
     .have:=n d z rfl e f;omega
   refine⟨GQ.mpr ⟨λz=>by have:=k c z;omega,i⟩,λs z e=>?_⟩
   injection e with l m
   subst l;subst m
   exact k
 have i:=(nd a λe f=>b e (Gn.mp f)).1
 have:=iA i λe f=>b e (Gn.mp f)
 rwa [Ie]at this
theorem Cm {a:List Nat} {n:Nat} {f m g:MI} {N:List NL} (J:dH a n f m g N) (k:aU N=a) (p:a.length=n) (o:n<=5):∀x∈N,x.ps.length<=10:=λx d=>by
 obtain⟨i,b,e⟩:=Iu.mp d
 have h:N[i]? =some x:=by rw[<-e];exact Fh b
 have j:=(J.vn i x h).2.2
 have l:N.length=n:=by have:=congrArg Fo k;unfold aU at this;rw[Fq]at this;omega
 omega
theorem wk {Y:Lw} {N:List NL} (D:mI Y.N N Y.cps Y.mh Y.me Y.ml) (g:∀c∈Y.cps,c<128) (i:Y.cps.length<=5) {ws:List (List Nat×Nat)} (h:ws.map (λx=>x.1)=cb Y.N Y.cps):ws.length<=900/\∀x∈ws,x.1.length<=900/\(∀c∈x.1,c<128)/\∀c∈x.1,∃v,look? Y.mh c=some v:=by
 have b:=congrArg Fo h
 rw[Fq]at b
 have d:=pZ (N:=Y.N) (cps:=Y.cps) (W:=[[]])
 have k:2^Y.cps.length<=2^5:=Nat.pow_le_pow_right (by decide) i
 refine⟨?_,λx j=>?_⟩
 .rw [b]
  have d:(cb Y.N Y.cps).length<=1*2^Y.cps.length:=d
  omega
 .have f:x.1∈cb Y.N Y.cps:=by rw[<-h];exact Fc j
  have l:=we D.T.g f
  have e:=((eB D.T.g x.1).mp f).2
  exact⟨by omega,λc a=>g c (e c a),λc a=>g5 (by rw[D.kh];exact e c a)⟩
theorem zy (w:E9) (Y:Lw) (j t:Nat) (F:(aU Y.N).Nodup) (hk:∀c∈Y.cps,c∈aU Y.N) (k:∀c∈Y.cps,c<128) (C:Y.cps.length<=5) (q:∀{ws:List (List Nat×Nat)},ws.map (λx=>x.1)=cb Y.N Y.cps->ws.length<=900/\∀x∈ws,x.1.length<=900/\(∀c∈x.1,c<128)/\∀c∈x.1,∃v,look? Y.mh c=some v):ax (env w) (yx w Y j t) (Dn (.block (((aI w.params).drop 11).take 3) (aq w.params Y))):=by
 have I:=λ(i W e u:Nat)=>wi w Y i (λo=>o.map (λx=>x.1)=cb Y.N Y.cps) F hk k Y.cps 0 j t W e [([],u)] rfl (by
  show 1*2^Y.cps.length<=32
  rw[Nat.one_mul]
  exact Nat.pow_le_pow_right (by decide) C) (λx J=>by rw[Gd.mp J];show 0+_<=10;omega) (λo G=>G)
 exact aG _ (λ_ r=>.seg 68753055750 λg=>.use _ (fL w Y.cps Y.tN k) [] [] λN Q=>.seg 1 λP=>.use _ (I N (g 1) 0 (g 0)) [0,3,3,3,4,0] [0] λa h=>.seg 0x1001005001005005003 λO=>.use _ ((λws p B i y W e A L=>CU w {Y with it:=i,W:=W,wn:=e,ws:=ws} B y (q p).2 (q p).1 A L) (a.1) h (O 2) (O 0) (O 1) (a.2.2.2.1) (a.2.2.2.2) 0 0) [2,0,0,4,5,6] [] λb m=>have n:(λ(M:List (Int×Nat))=>Gx (λ(f:Int×Nat)=>f.1) M=fs Y.mh (Gx (λ(f:List Nat×Nat)=>f.1) a.1)) b.1:=(Fx m);have D:eW w.params b.2.2.1:=(Fg m); .or _ _ (D) (λd=>.view [0] [] _ _ _ _ ((bC (a:=O 2) (congrArg (λl=>oD l b.2.2.2) d))) (.seg 184594433 λs=>r ((a.1,b.1,(a.2.1,a.2.2.1),(a.2.2.2.1,a.2.2.2.2),O 1,b.2.1)) ⟨h,n⟩ [] [9,3,4,4,4,5,4,3,2,1] [0])) (λd=>.pick _ _ (d) λR E=>.pick _ _ (E) λS H=>.view [0] [] _ _ _ _ ((bC (a:=O 2) (congrArg (λl=>oD l b.2.2.2) H))) (.seg 0xb00b001001001 λs=>r ((a.1,b.1,(a.2.1,a.2.2.1),(a.2.2.2.1,a.2.2.2.2),O 1,b.2.1)) ⟨h,n⟩ [] [9,3,4,4,4,5,4,3,2,1] [0])))
noncomputable def yw (w:E9) (Y:Lw) (L:Nat) (a:List (Int×Nat)):af:={d:=25,α:=List E6×Nat×List (Int×Nat)×Nat,c:=.block [aA (aI w.params) 3] (aq w.params Y),need:=[(Y.fr,bv [es w.params [115,99,114,105,112,116] Y.k1 (.ref Y.sa),es w.params [115,105,122,101] Y.k2 (.int Y.nn Y.tn),es w.params [99,101,108,108,115] Y.k3 (.ref Y.y)] Y.fe Y.sl),(Y.sa,ae (a.map iv) Y.n0),(Y.y,ae (Y.ys.map iv) Y.yn)],new:=λx=>[(Y.fr,bv ([es w.params [115,99,114,105,112,116] Y.k1 (.ref Y.sa),es w.params [115,105,122,101] Y.k2 (.int Y.nn Y.tn),es w.params [99,101,108,108,115] Y.k3 (.ref Y.y)]++(x.1++[])) x.2.1 Y.sl),(Y.sa,ae (a.map iv) Y.n0),(Y.y,ae (x.2.2.1.map iv) x.2.2.2)],post:=λx=>ij w.params x.1/\x.2.2.1.length=L}
theorem zl (w:E9) (Y:Lw) (L:Nat) (f:List (Int×Nat)) (h:Y.ys.length=L) (k:L≠0) (m:L<=20) (p:f.length<=63):ax (env w) (yw w Y L f) (Dn (.block [aA (aI w.params) 3] (aq w.params Y))):=by
 cases f with
 | nil=>exact aG _ (λ_ g=>.seg 0x1001000000000000 λi=>.use _ (dv iv w Y.sa Y.n0 ([]) 0 rfl (by trivial)) [1] [] λd l=>.seg 0x1001001001001001001001001001001001001001 λO=>.use _ (lL w (O 2) 0 0 (O 0) d (O 1) 0 (by trivial) rfl) [0] [] λe n=>.seg 2 λj=>.seg 137455738881 λq=>.use _ (cg w e 0 0 1 0 0 0 (by trivial)) [1] [] λu t=>.seg 4098 λs=>g ([],Y.fe,Y.ys,Y.yn) ⟨.inl rfl,h⟩ [] [5,4,4] [])
 | cons x b=>exact aG _ (λ_ g=>.seg 0x1001000000000000 λi=>.use _ (dv iv w Y.sa Y.n0 (x::b) (Fo (x::b)) rfl (by omega)) [1] [] λd l=>.seg 0x1001001001001001001001001001001001001001 λO=>.use _ (lL w (O 2) 0 ((↑(Fo (x::b)):Int)) (O 0) d (O 1) ((↑(Fo (x::b)):Int)-0) (by omega) rfl) [0] [] λe n=>.seg 2 λj=>.use _ (Ev w {Y with it:=e,xs:=x::b} L k m p (by simp) ((↑(Fo (x::b)):Int)-0) 0 0 0 Y.fe Y.yn (by trivial) h) [1,2,1,1] [] λa o=>.seg 0 λr=>g ([es w.params [107] a.1.1 (.int a.1.2.1 a.1.2.2)],a.2.1,a.2.2.1,a.2.2.2) ⟨.inr ⟨_,_,_,rfl⟩,o⟩ [] [0,0,0] [])
theorem C3 (w:E9) (Y:Lw) (f:Nat) (k:((Y.xs.map (λx:Int×Nat=>x.1)).sum).fmod 3=0) (j:Y.cps=[97,98,99]) (l:Y.nn=3):ax (env w) (iO w Y f 6) (Dn (.block ((aI w.params).take 3) (aq w.params Y))):=by
 unfold iO
 rw[j,l]
 exact aG _ (λ_ q=>.seg 0x1001003001003003001001001000000 λO=>.use _ (jK w (O 1) Y.sa Y.n0 (O 3) 0 (O 2) Y.xs ((Y.xs.map (λx:Int×Nat=>x.1)).sum) rfl) [1,3,0] [] λo A=>.seg 1 λh=>.use _ (eO w ((Y.xs.map (λx:Int×Nat=>x.1)).sum) 3 o (h 0) 0 (by trivial) k) [] [] λp B=>.seg 1 λt=>.use _ (b8 w 3 0 (O 0) p 3 rfl) [] [] λd C=>.seg 68753039362 λi=>.seg 0x2001002002002004004004001001001001001 λa=>.seg 0x1007007001002001001001001001001 λb=>.use _ (bx w 3 1 d (b 12) 2 rfl) [] [] λm u=>.seg 1 λr=>.use _ (gp w 3 2 d m 6 (by trivial) rfl) [] [] λn v=>.seg 1 λg=>.use _ (g9 w 6 2 n (g 0) 3 (by trivial) (by trivial) rfl) [] [] λD y=>.seg 563018706460674 λs=>.seg 0xa00a001004001001004001004001004001002001001001001001001 λe=>q (((i 0,d,e 2,f+1+1,a 0),e 1,[(10,a 1),(13,a 2),(29,a 3),(2,b 1),(0,b 2),(0,b 3)],0)) (by trivial) [] [9,9,8,0] [])
theorem C0 (w:E9) (Y:Lw) (f:Nat) (k:((Y.xs.map (λx:Int×Nat=>x.1)).sum).fmod 3=1) (j:Y.cps=[97,98,99,100]) (l:Y.nn=4):ax (env w) (iO w Y f 10) (Dn (.block ((aI w.params).take 3) (aq w.params Y))):=by
 unfold iO
 rw[j,l]
 exact aG _ (λ_ q=>.seg 0x1001003001003003001001001000000 λb=>.use _ (jK w (b 1) Y.sa Y.n0 (b 3) 0 (b 2) Y.xs ((Y.xs.map (λx:Int×Nat=>x.1)).sum) rfl) [1,3,0] [] λo A=>.seg 1 λh=>.use _ (eO w ((Y.xs.map (λx:Int×Nat=>x.1)).sum) 3 o (h 0) 1 (by trivial) k) [] [] λp B=>.seg 1 λt=>.use _ (b8 w 3 1 (b 0) p 4 rfl) [] [] λd C=>.seg 68753039362 λi=>.seg 0x2001002002002004004004001001001001001 λa=>.seg 0x1007007001002001001001001001001 λO=>.use _ (bx w 4 1 d (O 12) 3 rfl) [] [] λm u=>.seg 1 λr=>.use _ (gp w 4 3 d m 12 (by trivial) rfl) [] [] λn v=>.seg 1 λg=>.use _ (g9 w 12 2 n (g 0) 6 (by trivial) (by trivial) rfl) [] [] λD y=>.seg 563018706460674 λs=>.seg 0xa00a001004001001004001004001004001002001001001001001001 λe=>q (((i 0,d,e 2,f+1+1,a 0),e 1,[(10,a 1),(13,a 2),(29,a 3),(20,a 4),(2,O 1),(0,O 2),(0,O 3),(0,O 4),(3,O 5),(2,O 6)],0)) (by trivial) [] [9,9,8,0] [])
theorem CZ (w:E9) (Y:Lw) (g:Nat) (k:((Y.xs.map (λx:Int×Nat=>x.1)).sum).fmod 3=2) (j:Y.cps=[97,98,99,100,101]) (l:Y.nn=5):ax (env w) (iO w Y g 15) (Dn (.block ((aI w.params).take 3) (aq w.params Y))):=by
 unfold iO
 rw[j,l]
 exact aG _ (λ_ q=>.seg 0x1001003001003003001001001000000 λb=>.use _ (jK w (b 1) Y.sa Y.n0 (b 3) 0 (b 2) Y.xs ((Y.xs.map (λx:Int×Nat=>x.1)).sum) rfl) [1,3,0] [] λo A=>.seg 1 λi=>.use _ (eO w ((Y.xs.map (λx:Int×Nat=>x.1)).sum) 3 o (i 0) 2 (by trivial) k) [] [] λp B=>.seg 1 λt=>.use _ (b8 w 3 2 (b 0) p 5 rfl) [] [] λd C=>.seg 68753039362 λf=>.seg 0x2001002002002004004004001001001001001 λa=>.seg 0x1007007001002001001001001001001 λO=>.use _ (bx w 5 1 d (O 12) 4 rfl) [] [] λm u=>.seg 1 λr=>.use _ (gp w 5 4 d m 20 (by trivial) rfl) [] [] λn v=>.seg 1 λh=>.use _ (g9 w 20 2 n (h 0) 10 (by trivial) (by trivial) rfl) [] [] λD y=>.seg 563018706460674 λs=>.seg 0xa00a001004001001004001004001004001002001001001001001001 λe=>q (((f 0,d,e 2,g+1+1,f 1),e 1,[(10,a 0),(13,a 1),(29,a 2),(20,a 3),(27,a 4),(2,O 1),(0,O 2),(0,O 3),(0,O 4),(3,O 5),(2,O 6),(0,O 7),(0,O 8),(2,O 9),(0,O 10)],0)) (by trivial) [] [9,9,8,0] [])
theorem BV (w:E9) (f:Lw) (l:Nat) (IF:f.xs.length<=63):∃π:Pc w (aq w.params f) (.func (aI w.params) (aq w.params f)) (fM w f l),gz (some []) [] 140 π (.run (aI w.params)) (bg (fM w f l).need++[]):=by
 let IB:∀(w:E9) (z z2 n1:Nat) (Y:Lw) (m M:MI) (U:m.length=M.length) (hs:∀x∈m,∃IC,look? M x.1=some IC/\IC.1=x.2.2.1),PP (env w) ({bl [(z,dO w.params (.type "dict") none iv m n1),(z2,dO w.params (.type "dict") none iv M Y.n2)] (.ret (.bool false))with d:=20}):= @λw z z2 n1 Y m M U hs _ O=>
  .seg 281543712972801 λQ=>
  .use _ (DT w z z2 m M n1 Y.n2 U hs) [0,0] [] λa h2=>
  .seg 0 λO3=>
  O () trivial [0,0] [] []
 let IJ:∀(Y:Lw) (c0 t0:Nat) (N:List NL) (P:List Lv) (k:List E6) (r:KF w.params k) (D:LD Y.N N Y.cps Y.mh Y.me Y.ml Y.LV P) (hw:Y.ws.map (λx=>x.1)=cb Y.N Y.cps) (Z:Y.hs.map (λx=>x.1)=fs Y.mh (Y.ws.map (λx=>x.1))) (V:Y.lg=(Y.LV.length:Nat)) (g:∀c∈Y.cps,c<128) (h9:∀x∈Y.ws,x.1.length<=900) (IA:Y.ws.length<=900),Pc w (aq w.params Y) (.func (aI w.params) (aq w.params Y)) (fM w f l):=λY c0 t0 N P k r D hw Z V g h9 IA=>
  have A:Y.cps.length<=5:=D.five
  have i:Y.cps.Nodup:=D.T.g.nd
  have U:Y.ws.length=Y.hs.length:=by
   have:=congrArg Fo Z
   unfold fs at this
   simpa using this.symm
  have Iw:Y.cps.length<=10:=by omega
  .blk _ _ ((zq w Y P k r Y.fe c0 t0 (zF Y.N N Y.cps Y.mh Y.LV) g i D.c1.ne V D.len2 (by have:=D.lvl;omega) U h9 IA A (D.skc hw Z V)).c _) .next 3 [0,0,0,0,16,16,14,2,17,4,4,12,11,5,5,7] λb B=>
  have B:aH b.1=Y.cps.map (λc=>(c,zF Y.N N Y.cps Y.mh Y.LV c)):=B
  have gt:ak b.1=Y.cps:=ef B
  let Y:Lw:={Y with ms:=b.1,k9:=b.2.1.1,a:=b.2.1.2.1,ta:=b.2.1.2.2,fe:=b.2.2.1,se:=b.2.2.2.2.2.1,SD:=b.2.2.2.2.2.2}
  .blk _ _ ((zp w Y P k r Y.fe (λmm jj=>Cn mm (sM Y.N N Y.cps Y.mh Y.me Y.ml Y.LV Y.LV.length)/\Cn jj (sO Y.N N Y.cps Y.mh Y.me Y.ml Y.LV Y.LV.length)) V _ D.klc D.kl0 (λmm jj h=>h)).c _) .next 3 [0,6,11,11,12,19] λa v=>
  have v:(Cn a.1.1 (sM Y.N N Y.cps Y.mh Y.me Y.ml Y.LV Y.LV.length)/\Cn a.2.1.1 (sO Y.N N Y.cps Y.mh Y.me Y.ml Y.LV Y.LV.length))/\KM w.params a.2.2.1.1 a.2.2.1.2:=v
  have few:=D.klc.few Y.LV.length _ _ v.1
  have hk:=v.2
  let Y:Lw:={Y with Mt:=a.1.2.2.1,Jn:=a.2.1.2.2.1,fe:=a.2.2.2.1,k10:=a.2.2.2.2.1,k11:=a.2.2.2.2.2}
  .blk _ _ ((xU w Y (by have:=oP D.kh;omega) (by have:=D.kh;show(ak Y.mh).Nodup;rw[this];exact i) (by have:=oP gt;show b.1.length<=8;omega) (by show(ak b.1).Nodup;rw[gt];exact i) (λz=>by have:=oP D.kh;rw[z]at this;exact D.c1.ne (GL.mp this.symm))).c _) .next 1 [31,11,15,15,18] λe IG=>
  have C:Cn e.1 (bF Y.N N Y.cps Y.mh Y.LV):=D.spare B IG
  let Y:Lw:={Y with mp:=e.1,spe:=e.2.1,Sp:=e.2.2.1,Spd:=e.2.2.2.1}
  .blk _ _ ((zn w Y a.2.2.1.1 a.2.2.1.2 hk g (λc T=>⟨g5 (by have:=D.kh;show c∈ak Y.mh;rw[this];exact T),g5 (by show c∈ak b.1;rw[gt];exact T)⟩) Iw).c _) .next 1 [7,16,1,1,1,1] λp q=>
  have q:ad p.1=cV Y.mh b.1 Y.cps:=q
  let Y:Lw:={Y with hn:=p.2.1,k12:=p.2.2.1,hl:=p.2.2.2.1,fe:=p.2.2.2.2}
  .cmp _ _ (λ(y:Nat×Nat) (z:Nat×MI×Nat)=>{bl [(y.1,dO w.params (.type "dict") none iv e.1 y.2),(z.1,dO w.params (.type "dict") none iv z.2.1 z.2.2)] (.ret (.bool false))with d:=20}) .NotEq (bI (aA (aI w.params) 25)) (λy:Nat×Nat=>y.1) (λz:Nat×MI×Nat=>z.1) true false [7,7,7] [4,9,5,5,5,5] [10,6]
   (aG _ (λ_ O=>.seg 0x1001001001001001001001001000000 λQ=>.use _ (pk w (Q 0) 0 Y.Sp Y.Spd e.2.2.2.2 e.1 Y.spe (D.sp8 C) C.nd) [0,1,1] [] λa h2=>.seg 0 λO3=>O (Q 0,a) trivial [] [3,1,1,0] []:PP (env w) (yU w Y e.2.2.2.2)))
   (zH w Y p.1 (λc=>aa Y.mh c-zF Y.N N Y.cps Y.mh Y.LV c) a.2.2.1.1 a.2.2.1.2 hk (by rw[q];exact D.held_nd _) (uD q A) (D.x25 B q)) (λ_ _=>rfl)
   (λy z _ hz=>have t:=D.t25 B C (m:=z.2.1) (q▸hz);aG _ (IB w y.1 z.1 y.2 {Lw.z with n2:=z.2.2} e.1 z.2.1 t.1 t.2)) λ_ _ _ _ _ _=>
  .cmp _ _ (λ(y:Nat×Nat) (z:Nat×MI×Nat)=>{bl [(y.1,dO w.params (.type "dict") none iv a.1.1 y.2),(z.1,dO w.params (.type "dict") none iv z.2.1 z.2.2)] (.ret (.bool false))with d:=20}) .NotEq (bI (aA (aI w.params) 26)) (λy:Nat×Nat=>y.1) (λz:Nat×MI×Nat=>z.1) true false [2,14,14] [0,5,20,26,9,22,27,9] [11,8]
   (Cc w Y a.1.2.2.2.1 a.1.2.1 a.1.2.2.2.2 a.1.1 a.2.2.1.1 a.2.2.1.2 hk few.1 v.1.1.nd)
   (zG w Y p.1 (λc=>min (aa Y.me c) (aa Y.ml c)*aa Y.mp c) a.2.2.1.1 a.2.2.1.2 hk (by rw[q];exact D.held_nd _) (uD q A) (D.x26 q)) (λ_ _=>rfl)
   (λy z _ hz=>have t:=D.t26 B C v.1.1 (m:=z.2.1) (q▸hz);aG _ (IB w y.1 z.1 y.2 {Lw.z with n2:=z.2.2} a.1.1 z.2.1 t.1 t.2)) λ_ _ _ _ _ _=>
  .blk _ _ ((zm w Y (λc=>max (aa Y.me c) (aa Y.ml c)*aa Y.mp c+(aa Y.me c+aa Y.ml c)*(aa Y.mh c-aa Y.mp c)) b.2.2.2.1 b.2.2.2.2.1 a.2.2.1.1 a.2.2.1.2 hk Y.fe g i Iw D.x28).c _) .next 2 [2,18,13,3,3,22,3,11,3,3,3] λd G=>
  have G:aH d.1=(dU Y.mh Y.cps).map (λc=>(c,max (aa Y.me c) (aa Y.ml c)*aa Y.mp c+(aa Y.me c+aa Y.ml c)*(aa Y.mh c-aa Y.mp c)))/\fD w.params d.2.2.1:=G
  have t29:=D.t29 C v.1.2 G.1
  let Y:Lw:={Y with fe:=d.2.2.2.1}
  .cmp _ _ (λ(y:Nat×Nat) (_:Unit)=>{bl [(y.1,dO w.params (.type "dict") none iv a.2.1.1 y.2),(d.2.2.2.2.2.2.2,dO w.params (.type "dict") none iv d.1 d.2.1)] (.ret (.bool true))with d:=20}) .Eq (bI (aA (aI w.params) 29)) (λy:Nat×Nat=>y.1) (λ_:Unit=>d.2.2.2.2.2.2.2) false true [0,24,24] [0] [3,13]
   (Cb w Y d.2.2.2.2.2.2.1 d.2.2.2.2.2.2.2 a.2.1.2.2.2.1 a.2.1.2.1 a.2.1.2.2.2.2 a.2.1.1 a.2.2.1.1 a.2.2.1.2 d.2.2.1 hk G.2 few.2 v.1.2.nd)
   (zE w Y d.2.2.2.2.2.2.1 d.2.2.2.2.2.2.2 a.2.1.2.2.2.1 a.2.1.2.1 a.2.1.2.2.2.2 a.2.1.1 a.2.2.1.1 a.2.2.1.2 d.2.2.1 hk G.2) (λ_ _=>rfl)
   (λy _ _ _=>aG _ (λ_ O=>.seg 281543712972801 λQ=>.use _ (DU w y.1 d.2.2.2.2.2.2.2 a.2.1.1 d.1 y.2 d.2.1 t29.1 t29.2) [0,0] [] λa h2=>.seg 0 λO3=>O () trivial [0,0] [] [])) λ_ _ _ _ _ _=>
  .fin () trivial 99 [40]
 let II:∀(n:Nat) (Y:Lw) (k:List E6) (r:ij w.params k) (E:n=3\/n=4\/n=5) (o:Y.cps.length=n) (i:Y.cps.Nodup) (g:∀c∈Y.cps,c<128) (I:Y.ys.length=n+n*(n-1)/2),Pc w (aq w.params Y) (.func (aI w.params) (aq w.params Y)) (fM w f l):=λn Y k r E o i g I=>
  have A:n<=5:=by omega
  have W:Y.cps.length<=5:=by omega
  have Iz:Y.cps≠[]:=λz=>by rw[z]at o;simp at o;omega
  .blk _ _ ((zk w Y n k r Y.fe A (by omega) o i I).c _) .next 5 [0,1,1,1,1,1,1,1] λb hJ=>
  let Y:Lw:={Y with k5:=b.1.1,fe:=b.1.2.2.2.1,mh:=b.2.1.1,me:=b.2.1.2.1,ml:=b.2.1.2.2.1,N:=b.2.1.2.2.2,er:=b.2.2.1.1,ee:=b.2.2.1.2.1,el:=b.2.2.1.2.2.1,en:=b.2.2.1.2.2.2,H:=b.2.2.2.1,E:=b.2.2.2.2.1,G:=b.2.2.2.2.2.1,nd:=b.2.2.2.2.2.2,nn:=((n:Nat):Int)}
  have J:dH Y.cps n Y.mh Y.me Y.ml Y.N:=hJ
  have kn:aU Y.N=Y.cps:=by rw[J.kn,<-o];exact GJ
  have Ix:(aU Y.N).Nodup:=by rw[kn];exact i
  have hk:∀c∈Y.cps,c∈aU Y.N:=λc T=>by rw[kn];exact T
  .blk _ _ ((zj w Y b.1.2.2.1 Y.fe b.1.2.1 k r i W g Ix hk (Cm J kn o A) Iz).c _) .next 2 [0,0,3,10,7,7] λa X=>
  have X:cY Y.cps Y.N Y.cps.length a.1:=X
  have F:=Bn o i A Iz J X
  let Y:Lw:={Y with fe:=a.2.2.2.1,k6:=a.2.2.2.2.1,T:=a.2.2.2.2.2}
  have wl:∀{ws:List (List Nat×Nat)},ws.map (λx=>x.1)=cb Y.N Y.cps->_:=λ{ws}=>wk (Y:=Y) F g W (ws:=ws)
  .blk _ _ ((zy w Y a.2.2.1.1 a.2.2.1.2 Ix hk g W wl).c _) .next 3 [1,7,1,1,12,12,1,7,2] λe u=>
  have u:e.1.map (λx=>x.1)=cb Y.N Y.cps/\e.2.1.map (λx=>x.1)=fs Y.mh (e.1.map (λx=>x.1)):=u
  have Iy:=EM F.T.g e.2.1 (by rw[u.2,u.1];rfl)
  let Y:Lw:={Y with ws:=e.1,hs:=e.2.1,W:=e.2.2.2.1.1,wn:=e.2.2.2.1.2,V:=e.2.2.2.2.1,vn:=e.2.2.2.2.2,lg:=cU e.2.1,v1:=.ref Y.sa,v2:=.int ((n:Nat):Int) Y.tn,v3:=.ref Y.y,v5:=.int b.1.2.1 b.1.2.2.1}
  .blk _ _ ((zv w Y k r.kf rfl Iy.1).c _) .next 1 [11,5,8] λp _=>
  let Y:Lw:={Y with k7:=p.1,tl:=p.2.1,fe:=p.2.2}
  .blk _ _ (zr w Y a.2.1 a.1 k r.kf F.c1 F.c2 g (by rw[show Y.cps.length=n from o];exact E)) .next 2 [0,2,2,11,11,2,14,4,7,4,8,8,5,5] λd S=>
  let Y:Lw:={Y with LV:=d.1.1,FA:=d.1.2.1,fan:=d.1.2.2,bk:=d.2.1.2.1,n2:=d.2.1.2.2,k8:=d.2.2.1,fe:=d.2.2.2.1,sl:=d.2.2.2.2}
  have S:cA Y.cps (λc=>ad (au Y.N c)) (aa Y.mh) Y.me Y.LV/\cA Y.cps.reverse (λc=>ad (au a.1 c)) (aa Y.mh) Y.ml d.2.1.1:=S
  have D:=F.ld S.1 S.2
  IJ Y e.2.2.1.1 e.2.2.1.2 a.1 d.2.1.1 k r.kf D u.1 u.2 (Iy.2.trans D.len1.symm) g (λx j=>((wl u.1).2 x j).1) (wl u.1).1
 let Iv:∀(n L:Nat) (Y:Lw) (E:n=3\/n=4\/n=5) (o:Y.cps.length=n) (i:Y.cps.Nodup) (g:∀c∈Y.cps,c<128) (R:L=n+n*(n-1)/2) (I:Y.ys.length=L),Pc w (aq w.params Y) (.func (aI w.params) (aq w.params Y)) (fM w f l):=λn L Y E o i g R I=>
  have h0:L≠0:=by rw[R];rcases E with rfl | rfl | rfl<;>decide
  have IE:L<=20:=by rw[R];rcases E with rfl | rfl | rfl<;>decide
  .blk _ _ ((zl w Y L f.xs I h0 IE IF).c _) .next 1 [0,1,1] λx j=>
  let Y:Lw:={Y with fe:=x.2.1,ys:=x.2.2.1,yn:=x.2.2.2}
  have j:ij w.params x.1/\x.2.2.1.length=L:=j
  II n Y x.1 j.1 E o i g (j.2.trans R)
 let io:Pc w (aq w.params f) (.func (aI w.params) (aq w.params f)) (fM w f l):=
  .or _ _ (show((f.xs.map (λx:Int×Nat=>x.1)).sum).fmod 3=0\/(((f.xs.map (λx:Int×Nat=>x.1)).sum).fmod 3=1\/((f.xs.map (λx:Int×Nat=>x.1)).sum).fmod 3=2)by rw[GN _ (by omega)];omega)
   (λH=>let s:Lw:={f with cps:=[97,98,99],nn:=3}; .blk _ _ ((C3 w s l H rfl rfl).c _) .next 3 [0,0,11] λx j=>Iv 3 6 {s with k2:=x.1.1,tn:=x.1.2.1,k3:=x.1.2.2.1,y:=x.2.1,fe:=x.1.2.2.2.1,tN:=x.1.2.2.2.2,ys:=x.2.2.1,yn:=x.2.2.2} (.inl rfl) rfl (show([97,98,99]:List Nat).Nodup by decide) (show∀c∈([97,98,99]:List Nat),c<128 by decide) rfl j)
   (λh=>.or _ _ h (λH=>let s:Lw:={f with cps:=[97,98,99,100],nn:=4}; .blk _ _ ((C0 w s l H rfl rfl).c _) .next 3 [0,0,11] λx j=>Iv 4 10 {s with k2:=x.1.1,tn:=x.1.2.1,k3:=x.1.2.2.1,y:=x.2.1,fe:=x.1.2.2.2.1,tN:=x.1.2.2.2.2,ys:=x.2.2.1,yn:=x.2.2.2} (.inr (.inl rfl)) rfl (show([97,98,99,100]:List Nat).Nodup by decide) (show∀c∈([97,98,99,100]:List Nat),c<128 by decide) rfl j)
    (λH=>let s:Lw:={f with cps:=[97,98,99,100,101],nn:=5}; .blk _ _ ((CZ w s l H rfl rfl).c _) .next 3 [0,0,11] λx j=>Iv 5 15 {s with k2:=x.1.1,tn:=x.1.2.1,k3:=x.1.2.2.1,y:=x.2.1,fe:=x.1.2.2.2.1,tN:=x.1.2.2.2.2,ys:=x.2.2.1,yn:=x.2.2.2} (.inr (.inr rfl)) rfl (show([97,98,99,100,101]:List Nat).Nodup by decide) (show∀c∈([97,98,99,100,101]:List Nat),c<128 by decide) rfl j))
 have ID:gz (some []) [] 140 io (.run (aI w.params)) (bg (fM w f l).need++[])=mX [] 140 io (.run (aI w.params)) (bg (fM w f l).need++[]):=by kernel_rfl
 exact⟨io,ID.mpr (qq ..)⟩
theorem BY (w:E9) (Y:Lw) (e:Nat) (g:Y.xs.length<=63):ab (env w) (fM w Y e):=by
 intro a k h i n p s F P j
 have h:a.handled=none:=h.resolve_left (λz=>nomatch z)
 have H:bt (env w) 140 a:=⟨h,n⟩
 have b:a.code=.func (aI w.params) (aq w.params Y):=k
 have G:=Go.eq (Go.start P) (ic _)
 rw[F3,b]
 show wp _ _ (do point;match<-(Hd (aI w.params) (aq w.params Y)).onRaise (leaving (aq w.params Y))with|.ret v=>ret v | _=>ret .none) _ _ p s
 rw[E7]
 refine aL (wpAny_point λp=>?_)
 rw[E7,Gu]
 obtain⟨r,o⟩:=BV w Y e g
 refine s9 H (FO _) b (es0:=some []) (λes l=>by cases l;exact i [] rfl) (λx f q p Z _ m d=>?_) r (.run _) _ p s G o
 cases m
 exact j () q trivial (Go.sub (U:=[(Y.sa,ae (Y.xs.map iv) Y.n0)]) (r:=(Z++[]).flatten) d).after
noncomputable def yT (w:E9) (Y:Lw):af:={d:=150,α:=Unit,c:=.call (.ref 1227) ⟨[.ref Y.sa],[]⟩,need:=[(Y.sa,ae (Y.xs.map iv) Y.n0)],r:=λ_=>.ok (.ret (.bool true)),new:=λ_=>[(Y.sa,ae (Y.xs.map iv) Y.n0)],outer:=some []}
theorem BW (w:E9) (s n:Nat) (x:List (Int×Nat)) (q:x.length<=63):ab (env w) (yT w {Lw.z with sa:=s,n0:=n,xs:=x}):=av (λ_ u=>.seg 0xd00d000000001 λO=>.use _ ((λp a f g h i j k l m b d e r o t=>BY w {Lw.z with fr:=p,c1:=a,c2:=f,c3:=g,c4:=h,c5:=i,c6:=j,c7:=k,c8:=l,c9:=m,c10:=b,c11:=d,c12:=e,sa:=s,n0:=n,k1:=r,sl:=t,xs:=x} o q) (O 0) (O 1) (O 2) (O 3) (O 4) (O 5) (O 6) (O 7) (O 8) (O 9) (O 10) (O 11) (O 12) (O 13) 1 (#[])) [12,11,10,9,8,7,6,5,4,3,2,1,0,0] [] λy v=>u () trivial [] [0] [])
abbrev rowO:OpenRow:=PySem.Challenge.rw_io0005_01.row
theorem BS:LeftO rowO.prog (qv pw) (ku pw) (λ_=>true) (obsZ kP) (valZ base 1228 1959) 22000:=
 (congrArg (λp=>LeftO p (qv p) (ku p) (λ_=>true) (obsZ kP) (valZ base 1228 1959) 22000) sX).mpr BR
noncomputable def gj:DefRec×List (Str×Expr):=(defOf (qv pw) rowO.name).get (by kernel_rfl)
theorem C6:defOf (qv pw) rowO.name=some (gj.1,gj.2):=by kernel_rfl
theorem hp:rowO.prog.theDef rowO.name=some (gj.1.params,gj.1.body,gj.1.scope):=by kernel_rfl
theorem hk:kwWritten? gj.1.params.kwonlyargs gj.1.params.kw_defaults=some gj.2:=by kernel_rfl
theorem C7:rowO.prog.bare:=⟨rfl,rfl,rfl,rfl,rfl,by decide+kernel⟩
theorem bo:(chainsOk (qv pw)&&opensWell rowO.prog&&(frees rowO.toRowW&&rowO.within.isEmpty))=true:=by kernel_rfl
theorem CW:rowO.toRowW.promised:=by w_witness2
noncomputable def wd:Prop:=∀(w:E9) (s:Fe) (n:List Int) (i:List Fb),AllIn s.heap (base w.params)->s.heap.objs.size=1229->
 s.heap.get? 1228=some {cls:=.type "list",data:=.seq i.toArray}->IntsAre i n->n.length<=63->(PyData.list (n.map PyData.int)).layable0=true->s.gens= #[]->
 Fr (FT pq w) callerA (PySem.call (.ref 1227) [.ref 1228]) (λv a=>v=.bool true/\(∀b o,s.heap.get? b=some o->a.heap.get? b=some o)/\a.gens= #[]/\a.os=s.os) (λ_ _=>False) s
theorem vV {h d:Heap} (k:∀b o,h.get? b=some o->d.get? b=some o):∀{K:Frag},AllIn h K->AllIn d K
 | [],_=>trivial
 | _::_,⟨a,b⟩=>⟨k _ _ a,vV k b⟩
theorem zA (H:wd):PySem.Challenge.rw_io0005_01.Holds:=by
 refine BX λJ=>?_
 refine holds_openX (XP:=λ_ _=>True) BS (λ_ _=>trivial) (λ_ _ _ _ _=>trivial) C6 hp hk (λio _=>recFacts_nil rfl) (by rfl) J bo C7 CW ?_
 intro w M s mg mb G y fa gt pm R U S kV ho Y X V u m P Iw Q L A o C E r
 obtain⟨d,g,k,W⟩:=z_facts (K:=base) (as:=kP) (λ_=>by kernel_rfl) y
 have f:AllIn s.heap (base w.params):=vV L.keeps d
 have b:Frag.In (base w.params) s.heap:=InK.keeps w M.heap s.heap g L.keeps
 refine Ground.open G ?_
 intro T B D N O
 wrow_args A o C E r
 rename_i I _ _ q _ _ _ _ _ F _ j _ _ _ i _ Z _
 obtain⟨h,a⟩:=script_at L
 have x:=script_obj L j
 rw[k]at h a
 subst h
 x_fa T b u
 have e:FT rowO.prog w=FT pq w:=congrArg (λp=>FT p w) sX
 rw[e]
 refine wpAny_mono (H w s I F f a x i (by omega) q m) ?_ ?_
 .rintro Iv s' ⟨rfl,hk,n,v⟩
  exact⟨.inl ⟨_,_,[],rfl,λ_=>rfl,ReadsW.bool true,(by kernel_rfl),λ_=>⟨Gv,λ_ t=>(nomatch t)⟩⟩,.of_keep hk,v,.of_eq n⟩
 .intro _ _ l;exact l.elim
theorem vB:∀l:List (Code×Pos),cF l<=HT l
 | []=>FO _
 | (c,p)::l=>by
  have i:=vB l
  have h:c.frames+(if c.isCreation=true then 1 else 0)<=c.cUnits:=by
   cases c with
   | builtin id a=>
    show _<=1+3*_
    split<;>omega
   | call f a=>
    rw[if_neg (show¬(Code.call f a).isCreation=true fromλz=>nomatch z)]
    show 0+0<=1
    omega
   | _=>
    rw[if_neg (λz=>nomatch z)]
    show _+0<=3*_
    omega
  rw[unitsOf_cons]
  unfold cF at i⊢
  simp only[Fw,List.sum_cons,GK]
  split at h<;>rename_i q
  .rw [if_pos q,Fd];omega
  .rw [if_neg q];omega
theorem ur:∀{i:List Fb} {b:List Int},IntsAre i b->∃a:List (Int×Nat),i=a.map iv/\b=a.map (λx=>x.1)
 | _,_,.nil=>⟨[],rfl,rfl⟩
 | _,_,.cons n t h=>by
  obtain⟨a,e,d⟩:=ur h
  exact⟨(n,t)::a,by rw[e];rfl,by rw[d];rfl⟩
theorem Ce (P:E8):kt P 1228=none:=by kernel_rfl
theorem EC:wd:=by
 intro w s E D j B e r f v n
 obtain⟨g,rfl,rfl⟩:=ur r
 rw[Fq]at f
 refine wpAny_call λd p l k=>?_
 obtain⟨b1,t,b3,u,i⟩:=k
 have C:HT d.below<=4:=i
 have y:=vB d.below
 refine BW w 1228 0 g f d l (.inr b1) (λes m=>by cases m;exact b3 [] rfl) ⟨by show _+4*150<=640;omega,by show _+10*150<=2000;omega⟩ p s _ ⟨EH j,λq h=>?_, ?_,λq h=>?_,λq h=>?_,by omega⟩ λx F _ A=>⟨rfl,λb o a=>?_,A.same.gens.trans n,A.same.os⟩
 .rw [Gd.mp h];exact e
 .exact GQ.mpr ⟨λz=>(nomatch z),Gv⟩
 .rw [Gd.mp h];exact Ce w.params
 .rw [Gd.mp h];exact FO _
 .by_cases q:b=1228
  .subst q
   rw[e]at a
   cases a
   exact A.has (1228,ae (g.map iv) 0) E2
  .exact A.keep b o a λz=>q (Gd.mp z)
theorem final:PySem.Challenge.rw_io0005_01.Holds:=zA EC
end Mine
theorem PySem.Challenge.cw_io0005_01_holds : PySem.Challenge.rw_io0005_01.Holds :=
 Mine.final
