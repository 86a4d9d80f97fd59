import PyProof.Rows.All
import Wide.All
import OpenK.AllK
import Wide.FinOn
import Open.Tops
import Lean
import PySem.Challenge.RW_sh0076_03
open PySem renaming wpAny_bind->BK,wpAny_pure->BM,wpAny_mono->C7,wpAny_holding->CT,wpAny_standAt->Cb,wpAny_call_entry->Cj,builtinLookup_eq_fast->Cv,wpAny_callSpecial?_slot->Cz,wpAny_of_eq->D3,wpAny_field->D4,wpAny_rule->D6,call_meets->DN,typeIs_str->DP,typeLookup_type->DT,wpAny_evalPart_none->De,getMethod_builtin->Dq,wpAny_eqBool_int->Dx,wpAny_execs_nil->EA,wpAny_tupleItemsOf->EH,wpAny_seqItems->EI,wpAny_newObj_type->EK,isTrue->EP,wpAny_truthy_bool->EX
open Int renaming ofNat->BL,ofNat_lt->EG,not_le->ES,not_lt->ET
open PySem.Str renaming ofString->BN
open List renaming map_inj_left->BO,mem_singleton->BP,mem_append->BR,toArray->BU,all_eq_true->BV,length_map->BW,length_append->BY,mem_of_getElem?->BZ,not_mem_nil->Ba,getElem?_map->Bc,length_cons->Bh,getElem?_eq_getElem->Bi,mem_filter->Bj,mem_cons->Bl,mem_map->Bm,append_nil->Bp,mem_cons_of_mem->Bq,isEmpty_iff->Br,map_append->Bv,getElem?_set_self->Bw,getElem?_append_left->Bz,getD_eq_getElem?_getD->C0,getElem?_eq_none->C3,flatMap_cons->C5,append_assoc->CA,mem_cons_self->CB,getElem?_append_right->CC,nodup_cons->CG,nodup_nil->CH,filter_cons->CK,forIn_cons->CM,nil_append->CN,drop_eq_nil_iff->CP,length_nil->CS,lookup_cons->CX,length_set->Ce,any_eq_true->Ci,lookup->Co,mem_flatMap->Cr,map_cons->Cs,set_set->Ct,getElem?_eq_none_iff->Cu,mem_iff_getElem?->Cw,nodup_append->D0,all_cons->D7,set_append_right->D8,length_filter_le->D9,getElem?_eq_some_iff->DA,forIn_nil->DI,append_cons->DL,size_toArray->DW,getElem?_set_ne->DX,cons_append->DZ,getElem_mem->Da,pairwise_singleton->Dg,getElem?_drop->Dm,drop_eq_nil_of_le->Do,reverse_cons->Dp,count_append->Dr,getElem?_toArray->Ds,map_eq_nil_iff->E6,find?_cons->E9,getElem?_take->EF,flatten_cons->EJ,map_map->EU,flatMap->EV
open Nat renaming beq->BQ,eq_of_beq_eq_true->Bg,le_trans->Bn,lt_of_le_of_lt->C4,le_add_right->C6,le_of_ble_eq_true->C9,le_refl->CD,lt_of_succ_lt_succ->CJ,ble->CL,beq_refl->CQ,lt_of_lt_of_le->CV,zero_le->Ca,lt_succ_self->Cg,le_succ_of_le->Ck,blt->Cn,zero_add->Cx,add_le_add_left->D1,le_of_eq->D2,sub_self->DC,blt_eq->DM,ne_of_lt->DQ,le_of_lt->DR,lt_or_ge->Dc,succ_le_succ->Dd,not_lt->Dj,succ_pos->Du,lt_irrefl->Dz,mul_le_mul_left->E5,le_succ->EL
open PySem.Data renaming fields->BS,func->Bb,dict->Be,seq->Bt
open PySem.Value renaming bool->BX,int->Di,type->Dv
open Bool renaming and_eq_true_iff->Bd,false_ne_true->Bk,and_eq_true->Bu,not_eq_true'->Bx,or_eq_true_iff->CI,or_eq_true->DU,false_eq_true->Dn,eq_iff_iff->E8
open PySem.Heap renaming get?_push_size->Bf,get?_push_of_some->By,get?_update_self->CZ,ExtBut->DB,mk->DY,lt_size->Dt
open LawfulBEq renaming eq_of_beq->Bo
open PySem.SeqAt renaming shaped->C8
open ForInStep renaming yield->CE
open Array renaming length_toList->CF,getElem?_toList->CU,getElem?_modify->DS,eq_empty_of_size_eq_zero->Dk,toList_inj->Dw,toList_append->E7,ext_getElem?->EB
open Option.some renaming inj->CR
open Option renaming isSome_iff_exists->CW,map->Dy,map_eq_some_iff->EY
open PySem.Builtin.SmallTypes renaming stopIteration->CY
open List.cons renaming inj->Cc
open PySem.PyData renaming int->Cm,list->D5,keyHash->DH,depthAll->DV,eqv->ER
open PySem.W.Fast renaming te14364793385576792824->Cp
open PySem.Builtin.Str renaming strSliceIndices->Cq,occurrences->DE,tooLong->DG
open PySem.Obj renaming mapSeq->Cy,mapFields->E4
open PySem.Heap.SameBut renaming update->DF
open PySem.F renaming plain_max_loop->DJ
open PySem.Challenge renaming rw_sh0076_03->DK
open PySem.pyHashByItsType renaming reduced->Df
open Classical renaming propDecidable->Dh
open PySem.Txt renaming split->Dl
open PySem.NameKind renaming cell->E0
open PySem.W renaming piece_app->ED,segRun_of->EN,absHeap_size->EO
open PySem.W.Looks renaming of_pure->EM
open PySem.Sre renaming inSet->EW
open PySem PySem.W PySem.Calls PyProof.Rows
set_option Elab.async false
set_option maxRecDepth 100000
set_option maxHeartbeats 0
set_option genSizeOf false
set_option genInjectivity false
set_option genCtorIdx false
set_option backward.match.sparseCases false
set_option compiler.extract_closed false
set_option linter.all false
noncomputable section
namespace Mine
noncomputable abbrev pw:Program:=PySem.Challenge.pw_sh0076_03
noncomputable abbrev N:Value:=Value.none
noncomputable abbrev I(i:Int)(t:Nat):Value:=Di i t
noncomputable abbrev S(s:String):Str:=BN s
noncomputable abbrev T(s:Str)(t:Nat):Value:=Value.str s t
noncomputable abbrev Y(s:String):Value:=Dv s
noncomputable abbrev oqq(a:String)(d:Data):Obj:=⟨Y a,none,d,#[]⟩
noncomputable abbrev B(s:String):Value:=Value.builtin s
noncomputable abbrev R(a:Nat):Value:=Value.ref a
noncomputable abbrev E(P:Params)(x:Str)(t:Nat)(v:Value):DictEntry:=⟨DH P x,.str x t,v⟩
noncomputable def st(i:Nat):Stmt:=pw.main.body.getD i default
noncomputable def sub(s:Stmt)(j:Nat):Stmt:=match s with
 | .ClassDef _ _ _ b _ _ _ _ _ _ _=>b.getD j default
 | _=>default
noncomputable def fn(s:Stmt)(qual:Str)(gl:Addr)(clo:List (Str×Addr))(dV kV doc pm:Value)(an:Option Addr)(cd ct:Value)(bi:Addr):FuncData:=match s with
 | .FunctionDef name params body _ _ _ scope _ _ _=>{name,qualname:=qual,params,body:= .stmts body,scope,globals:=gl,closure:=clo,defaults:=dV,kwdefaults:=kV,doc,pyModule:=pm,annotations:=an,code:=cd,closureTuple:=ct,builtins:=bi}
 | _=>default
noncomputable abbrev xE(k t:Nat)(s:String):DictEntry:=⟨k,I k t,T (S s) (t + 1)⟩
noncomputable abbrev fE(P:Params)(s:String)(t:Nat)(v:Value):DictEntry:=E P (S s) t v
noncomputable abbrev wV(s:String)(t:Nat):Value:=T (S s) t
noncomputable abbrev wcp(t:Nat):Value:=wV "/claim/cut.py" t
noncomputable abbrev nD(o:Obj)(l r:BT):BT:= .node o l r
noncomputable abbrev lF(o:Obj):BT:= .node o .nil .nil
noncomputable abbrev eT:BT:= .nil
noncomputable def top.env_1:Env:={scope:=pw.main.scope,locals:=mainNs,globals:=mainNs,cells:=[],code:= .ref 30,frame:=some 31}
noncomputable abbrev ann:Option Value:=some (Value.ref 6)
noncomputable abbrev zQf:List Stmt:=behindTheImports pw
@[reducible] noncomputable def cdE:Code:=Code.body zQf top.env_1
noncomputable abbrev fr0:List PySem.Frame:=[topFrame ⟨0,0,0,0⟩]
noncomputable abbrev sh(t:BT)(n toks:Nat)(os:OsState):SharedT:=⟨t,n,{},⟨[]⟩,{},toks,os⟩
@[reducible] noncomputable def zRQ (l:List Stmt) (p:Pos):Thread:=⟨(Fast.tw12563942051412417395 l top.env_1).wrap doneF deadEnd id id,cdE,p,fr0⟩
theorem zD7{w:World}{n:Nat}{s:SharedT}{l:List Stmt}{p:Pos}{r:Option (Flow×SharedT×Code×Pos)}
  (h:Fast.tw10110043849684766642 Fast.tw14364793385576792824 pw w 28 ann 1 n s (zRQ l p)=r):segRunT treeTable pw w 28 ann 1 n s (piecesOf l top.env_1 cdE p fr0)=r:=by
 rw [Fast.te10110043849684766642,Cp];unfold piecesOf;rw [Fast.te12563942051412417395];exact h
noncomputable def tp1(P:Params):Obj:=oqq "dict" (Be (BU [fE P "__name__" 1 (wV "builtins" 160),fE P "__doc__" 2 (B "builtins.__doc__:str#\x6fpaque"),fE P "__package__" 3 (B "builtins.__package__:str#\x6fpaque"),fE P "__loader__" 4 (B "builtins.__loader__:shared#\x6fpaque"),fE P "__spec__" 5 (B "builtins.__spec__#\x6fpaque"),fE P "__build_class__" 6 (B "__build_class__"),fE P "__\x69mport__" 7 (B "__\x69mport__"),fE P "abs" 8 (B "abs"),fE P "all" 9 (B "all"),fE P "any" 10 (B "any"),fE P "ascii" 11 (B "ascii"),fE P "bin" 12 (B "bin"),fE P "breakpoint" 13 (B "breakpoint"),fE P "callable" 14 (B "callable"),fE P "chr" 15 (B "chr"),fE P "compile" 16 (B "compile"),fE P "delattr" 17 (B "delattr"),fE P "dir" 18 (B "dir"),fE P "divmod" 19 (B "divmod"),fE P "eval" 20 (B "eval"),fE P "exec" 21 (B "exec"),fE P "format" 22 (B "format"),fE P "getattr" 23 (B "getattr"),fE P "globals" 24 (B "globals"),fE P "hasattr" 25 (B "hasattr"),fE P "hash" 26 (B "hash"),fE P "hex" 27 (B "hex"),fE P "id" 28 (B "id"),fE P "input" 29 (B "input"),fE P "isinstance" 30 (B "isinstance"),fE P "issubclass" 31 (B "issubclass"),fE P "iter" 32 (B "iter"),fE P "aiter" 33 (B "aiter"),fE P "len" 34 (B "len"),fE P "locals" 35 (B "locals"),fE P "max" 36 (B "max"),fE P "min" 37 (B "min"),fE P "next" 38 (B "next"),fE P "anext" 39 (B "anext"),fE P "oct" 40 (B "oct"),fE P "ord" 41 (B "ord"),fE P "pow" 42 (B "pow"),fE P "print" 43 (B "print"),fE P "repr" 44 (B "repr"),fE P "round" 45 (B "round"),fE P "setattr" 46 (B "setattr"),fE P "sorted" 47 (B "sorted"),fE P "sum" 48 (B "sum"),fE P "vars" 49 (B "vars"),fE P "None" 50 N,fE P "Ellipsis" 51 Value.ellipsis,fE P "NotImplemented" 52 Value.notImplemented,fE P "False" 53 (BX false),fE P "True" 54 (BX true),fE P "bool" 55 (Y "bool"),fE P "memoryview" 56 (Y "memoryview"),fE P "bytearray" 57 (Y "bytearray"),fE P "bytes" 58 (Y "bytes"),fE P "classmethod" 59 (Y "classmethod"),fE P "complex" 60 (Y "complex"),fE P "dict" 61 (Y "dict"),fE P "enumerate" 62 (Y "enumerate"),fE P "filter" 63 (Y "filter"),fE P "float" 64 (Y "float"),fE P "frozenset" 65 (Y "frozenset"),fE P "property" 66 (Y "property"),fE P "int" 67 (Y "int"),fE P "list" 68 (Y "list"),fE P "map" 69 (Y "map"),fE P "object" 70 (Y "object"),fE P "range" 71 (Y "range"),fE P "reversed" 72 (Y "reversed"),fE P "set" 73 (Y "set"),fE P "slice" 74 (Y "slice"),fE P "staticmethod" 75 (Y "staticmethod"),fE P "str" 76 (Y "str"),fE P "super" 77 (Y "super"),fE P "tuple" 78 (Y "tuple"),fE P "type" 79 (Y "type"),fE P "zip" 80 (Y "zip"),fE P "__debug__" 81 (BX true),fE P "BaseException" 82 (Y "BaseException"),fE P "BaseExceptionGroup" 83 (Y "BaseExceptionGroup"),fE P "Exception" 84 (Y "Exception"),fE P "GeneratorExit" 85 (Y "GeneratorExit"),fE P "KeyboardInterrupt" 86 (Y "KeyboardInterrupt"),fE P "SystemExit" 87 (Y "SystemExit"),fE P "ArithmeticError" 88 (Y "ArithmeticError"),fE P "AssertionError" 89 (Y "AssertionError"),fE P "AttributeError" 90 (Y "AttributeError"),fE P "BufferError" 91 (Y "BufferError"),fE P "EOFError" 92 (Y "EOFError"),fE P "ImportError" 93 (Y "ImportError"),fE P "LookupError" 94 (Y "LookupError"),fE P "MemoryError" 95 (Y "MemoryError"),fE P "NameError" 96 (Y "NameError"),fE P "OSError" 97 (Y "OSError"),fE P "ReferenceError" 98 (Y "ReferenceError"),fE P "RuntimeError" 99 (Y "RuntimeError"),fE P "StopAsyncIteration" 100 (Y "StopAsyncIteration"),fE P "StopIteration" 101 (Y "StopIteration"),fE P "SyntaxError" 102 (Y "SyntaxError"),fE P "SystemError" 103 (Y "SystemError"),fE P "TypeError" 104 (Y "TypeError"),fE P "ValueError" 105 (Y "ValueError"),fE P "Warning" 106 (Y "Warning"),fE P "FloatingPointError" 107 (Y "FloatingPointError"),fE P "OverflowError" 108 (Y "OverflowError"),fE P "ZeroDivisionError" 109 (Y "ZeroDivisionError"),fE P "BytesWarning" 110 (Y "BytesWarning"),fE P "DeprecationWarning" 111 (Y "DeprecationWarning"),fE P "EncodingWarning" 112 (Y "EncodingWarning"),fE P "FutureWarning" 113 (Y "FutureWarning"),fE P "ImportWarning" 114 (Y "ImportWarning"),fE P "PendingDeprecationWarning" 115 (Y "PendingDeprecationWarning"),fE P "ResourceWarning" 116 (Y "ResourceWarning"),fE P "RuntimeWarning" 117 (Y "RuntimeWarning"),fE P "SyntaxWarning" 118 (Y "SyntaxWarning"),fE P "UnicodeWarning" 119 (Y "UnicodeWarning"),fE P "UserWarning" 120 (Y "UserWarning"),fE P "BlockingIOError" 121 (Y "BlockingIOError"),fE P "ChildProcessError" 122 (Y "ChildProcessError"),fE P "ConnectionError" 123 (Y "ConnectionError"),fE P "FileExistsError" 124 (Y "FileExistsError"),fE P "FileNotFoundError" 125 (Y "FileNotFoundError"),fE P "InterruptedError" 126 (Y "InterruptedError"),fE P "IsADirectoryError" 127 (Y "IsADirectoryError"),fE P "NotADirectoryError" 128 (Y "NotADirectoryError"),fE P "PermissionError" 129 (Y "PermissionError"),fE P "ProcessLookupError" 130 (Y "ProcessLookupError"),fE P "TimeoutError" 131 (Y "TimeoutError"),fE P "IndentationError" 132 (Y "IndentationError"),fE P "_IncompleteInputError" 133 (Y "_IncompleteInputError"),fE P "IndexError" 134 (Y "IndexError"),fE P "KeyError" 135 (Y "KeyError"),fE P "ModuleNotFoundError" 136 (Y "ModuleNotFoundError"),fE P "NotImplementedError" 137 (Y "NotImplementedError"),fE P "PythonFinalizationError" 138 (Y "PythonFinalizationError"),fE P "RecursionError" 139 (Y "RecursionError"),fE P "UnboundLocalError" 140 (Y "UnboundLocalError"),fE P "UnicodeError" 141 (Y "UnicodeError"),fE P "BrokenPipeError" 142 (Y "BrokenPipeError"),fE P "ConnectionAbortedError" 143 (Y "ConnectionAbortedError"),fE P "ConnectionRefusedError" 144 (Y "ConnectionRefusedError"),fE P "ConnectionResetError" 145 (Y "ConnectionResetError"),fE P "TabError" 146 (Y "TabError"),fE P "UnicodeDecodeError" 147 (Y "UnicodeDecodeError"),fE P "UnicodeEncodeError" 148 (Y "UnicodeEncodeError"),fE P "UnicodeTranslateError" 149 (Y "UnicodeTranslateError"),fE P "ExceptionGroup" 150 (Y "ExceptionGroup"),fE P "EnvironmentError" 151 (Y "OSError"),fE P "IOError" 152 (Y "OSError"),fE P "open" 153 (B "open"),fE P "quit" 154 (B "builtins.quit#\x6fpaque"),fE P "exit" 155 (B "builtins.exit#\x6fpaque"),fE P "copyright" 156 (B "builtins.copyright#\x6fpaque"),fE P "credits" 157 (B "builtins.credits#\x6fpaque"),fE P "license" 158 (B "builtins.license#\x6fpaque"),fE P "help" 159 (B "builtins.help#\x6fpaque")]) 159)
noncomputable def tp2(P:Params):Obj:=oqq "dict" (Be (BU [fE P "builtins" 162 (R 4),fE P "__main__" 163 (R 5),fE P "_sre" 244 (R 12)]) 3)
noncomputable def tp3(P:Params):Obj:=⟨N,none,Be (BU [fE P "\x69mport.loaded._sre" 183 (BX true),fE P "class._frozen_\x69mportlib.BuiltinImporter" 185 (R 14),fE P "watched.\x69mport" 206 (R 18),fE P "class._frozen_\x69mportlib.ModuleSpec" 216 (R 22),fE P "sys.modules.booked-epoch" 245 (I 3 0),fE P "\x69mport.later-laid._sre" 270 (BX true),fE P "watched.library" 272 (R 27),fE P "watched.library-objects" 0 (wV "\x0c" 0),fE P "watched.library-deep._sre" 273 (wV "\x04\x00\x00\x0b\x04\x00\x00\x0b\x04\x00\x00\x03\x04\x00\x00\x0b\x08\x04dict\x02" 0)]) 9,#[]⟩
noncomputable def tp4(P:Params):Obj:=oqq "dict" (Be (BU [fE P "__name__" 165 (wV "__main__" 164),fE P "__doc__" 166 N,fE P "__package__" 167 N,fE P "__loader__" 168 (B "__main__.__loader__#\x6fpaque"),fE P "__spec__" 169 N,fE P "__annotations__" 170 (R 6),fE P "__builtins__" 171 (R 4),fE P "__file__" 173 (wcp 172),fE P "__cached__" 174 N,fE P "_sre" 275 (R 12)]) 10)
noncomputable def tp5(P:Params):Obj:=⟨Y "module",some 0,Data.plain,#[]⟩
noncomputable def tp6(P:Params):Obj:=⟨Y "module",some 3,Data.plain,#[]⟩
noncomputable def tp7(P:Params):Obj:=oqq "dict" (Be (BU []) 0)
noncomputable def tp8(P:Params):Obj:=oqq "tuple" (Bt #[] 0)
noncomputable def tp9(P:Params):Obj:=⟨N,none,BS #[],#[]⟩
noncomputable def zCk(P:Params):Obj:=oqq "code" (BS #[wV "<module>" 176,wV "<module>" 177,wcp 178,I 1 0,I 0 0,I 0 0,I 0 0,I 0 0,R 7,BX false,I 175 0,R 8,N,N,N,N,I 179 0,I 1 0,wcp 180])
noncomputable def zCn(P:Params):Obj:=⟨Y "frame",none,Data.plain,#[some (R 9),some (R 3),some (R 3),none,some (wV "__main__" 164),none,some (R 0)]⟩
noncomputable def zDu(P:Params):Obj:=oqq "dict" (Be (BU [fE P "__name__" 247 (wV "_sre" 246),fE P "__doc__" 248 N,fE P "__package__" 250 (wV "" 249),fE P "__loader__" 251 (B "off-the-table:_sre.__loader__:shared#\x6fpaque"),fE P "__spec__" 252 (B "off-the-table:_sre.__spec__:shared#\x6fpaque"),fE P "compile" 253 (B "_sre.compile"),fE P "template" 254 (B "off-the-table:_sre.template:shared#\x6fpaque"),fE P "getcodesize" 255 (B "off-the-table:_sre.getcodesize:shared#\x6fpaque"),fE P "ascii_iscased" 256 (B "off-the-table:_sre.ascii_iscased:shared#\x6fpaque"),fE P "unicode_iscased" 257 (B "off-the-table:_sre.unicode_iscased:shared#\x6fpaque"),fE P "ascii_tolower" 258 (B "off-the-table:_sre.ascii_tolower:shared#\x6fpaque"),fE P "unicode_tolower" 259 (B "off-the-table:_sre.unicode_tolower:shared#\x6fpaque"),fE P "MAGIC" 261 (I 20230612 260),fE P "CODESIZE" 263 (I 4 262),fE P "MAXREPEAT" 265 (I 4294967295 264),fE P "MAXGROUPS" 267 (I 1073741823 266),fE P "copyright" 269 (wV " SRE 2.2.2 Copyright (c) 1997-2002 by Secret Labs AB " 268)]) 17)
noncomputable def zCy(P:Params):Obj:=⟨Y "module",some 11,Data.plain,#[]⟩
noncomputable def zCz(P:Params):Obj:=oqq "dict" (Be (BU [fE P "__module__" 189 (wV "_frozen_\x69mportlib" 186),fE P "__firstlineno__" 190 (I 971 187),fE P "__doc__" 191 (B "_frozen_\x69mportlib.BuiltinImporter.__doc__:str#\x6fpaque"),fE P "_ORIGIN" 192 (wV "built-in" 188),fE P "find_spec" 193 (B "_frozen_\x69mportlib.BuiltinImporter.find_spec#\x6fpaque"),fE P "create_module" 194 (B "_frozen_\x69mportlib.BuiltinImporter.create_module#\x6fpaque"),fE P "exec_module" 195 (B "_frozen_\x69mportlib.BuiltinImporter.exec_module#\x6fpaque"),fE P "get_code" 196 (B "_frozen_\x69mportlib.BuiltinImporter.get_code#\x6fpaque"),fE P "get_source" 197 (B "_frozen_\x69mportlib.BuiltinImporter.get_source#\x6fpaque"),fE P "is_package" 198 (B "_frozen_\x69mportlib.BuiltinImporter.is_package#\x6fpaque"),fE P "load_module" 199 (B "_frozen_\x69mportlib.BuiltinImporter.load_module#\x6fpaque"),fE P "__static_attributes__" 200 (R 15),fE P "__dict__" 202 (R 16),fE P "__weakref__" 204 (R 17)]) 14)
noncomputable def zCg(P:Params):Obj:=oqq "type" (Data.cls {name:=(S "BuiltinImporter"),bases:=[Y "object"],mro:=[R 14,Y "object"],ns:=13,qualname:=(S "BuiltinImporter"),hasDict:=true,slotNames:=[],subclasses:=[],abstract:=false,collection:=none,hasDel:=false})
noncomputable def zCE(P:Params):Obj:=oqq "tuple" (Bt #[] 0)
noncomputable def zCe(P:Params):Obj:=oqq "getset_descriptor" (BS #[wV "__dict__" 201,R 14,B "function.__dict__",B "function.__dict__#set"])
noncomputable def zCs(P:Params):Obj:=oqq "getset_descriptor" (BS #[wV "__weakref__" 203,R 14,B "ExceptionGroup.__weakref__",N])
noncomputable def zCo(P:Params):Obj:=⟨N,none,Bt #[I 13 0,wV "\x06½\n__module__\x06º\x11_frozen_\x69mportlib\x06¾\x0f__firstlineno__\x04»\x00ϋ\x06¿\x07__doc__\t4_frozen_\x69mportlib.BuiltinImporter.__doc__:str#\x6fpaque\x06À\x07_ORIGIN\x06¼\x08built-in\x06Á\tfind_spec\t2_frozen_\x69mportlib.BuiltinImporter.find_spec#\x6fpaque\x06Â\rcreate_module\t6_frozen_\x69mportlib.BuiltinImporter.create_module#\x6fpaque\x06Ã\x0bexec_module\t4_frozen_\x69mportlib.BuiltinImporter.exec_module#\x6fpaque\x06Ä\x08get_code\t1_frozen_\x69mportlib.BuiltinImporter.get_code#\x6fpaque\x06Å\nget_source\t3_frozen_\x69mportlib.BuiltinImporter.get_source#\x6fpaque\x06Æ\nis_package\t3_frozen_\x69mportlib.BuiltinImporter.is_package#\x6fpaque\x06Ç\x0bload_module\t4_frozen_\x69mportlib.BuiltinImporter.load_module#\x6fpaque\x06È\x15__static_attributes__\x04\x00\x00\x0f\x06Ê\x08__dict__\x04\x00\x00\x10\x06Ì\x0b__weakref__\x04\x00\x00\x11" 0,BX true,BX true,wV "" 205,I 21 0,wV "\x06ã\n__module__\x06Ù\x11_frozen_\x69mportlib\x06ä\x0f__firstlineno__\x04Ú\x00Ȳ\x06å\x07__doc__\t/_frozen_\x69mportlib.ModuleSpec.__doc__:str#\x6fpaque\x06æ\x08__init__\t,_frozen_\x69mportlib.ModuleSpec.__init__#\x6fpaque\x06ç\x08__repr__\t,_frozen_\x69mportlib.ModuleSpec.__repr__#\x6fpaque\x06è\x06__eq__\t*_frozen_\x69mportlib.ModuleSpec.__eq__#\x6fpaque\x06é\x06cached\t*_frozen_\x69mportlib.ModuleSpec.cached#\x6fpaque\x06ê\x06parent\t*_frozen_\x69mportlib.ModuleSpec.parent#\x6fpaque\x06ë\x0chas_location\t0_frozen_\x69mportlib.ModuleSpec.has_location#\x6fpaque\x06ì\x15__static_attributes__\x04\x00\x00\x17\x06î\x08__dict__\x04\x00\x00\x18\x06ð\x0b__weakref__\x04\x00\x00\x19\x06ñ\x08__hash__\x00" 0,BX true,BX true,wV "" 242] 1,#[]⟩
noncomputable def zCB(P:Params):Obj:=oqq "list" (Bt #[] 0)
noncomputable def zCt(P:Params):Obj:=oqq "dict" (Be (BU [fE P "name" 208 (wV "_sre" 207),fE P "loader" 209 (R 14),fE P "origin" 210 (wV "built-in" 184),fE P "loader_state" 211 N,fE P "submodule_search_locations" 212 N,fE P "_uninitialized_submodules" 213 (R 19),fE P "_set_fileattr" 214 (BX false),fE P "_cached" 215 N,fE P "_initializing" 243 (BX false)]) 9)
noncomputable def zCD(P:Params):Obj:=oqq "dict" (Be (BU [fE P "__module__" 227 (wV "_frozen_\x69mportlib" 217),fE P "__firstlineno__" 228 (I 562 218),fE P "__doc__" 229 (B "_frozen_\x69mportlib.ModuleSpec.__doc__:str#\x6fpaque"),fE P "__init__" 230 (B "_frozen_\x69mportlib.ModuleSpec.__init__#\x6fpaque"),fE P "__repr__" 231 (B "_frozen_\x69mportlib.ModuleSpec.__repr__#\x6fpaque"),fE P "__eq__" 232 (B "_frozen_\x69mportlib.ModuleSpec.__eq__#\x6fpaque"),fE P "cached" 233 (B "_frozen_\x69mportlib.ModuleSpec.cached#\x6fpaque"),fE P "parent" 234 (B "_frozen_\x69mportlib.ModuleSpec.parent#\x6fpaque"),fE P "has_location" 235 (B "_frozen_\x69mportlib.ModuleSpec.has_location#\x6fpaque"),fE P "__static_attributes__" 236 (R 23),fE P "__dict__" 238 (R 24),fE P "__weakref__" 240 (R 25),fE P "__hash__" 241 N]) 13)
noncomputable def zCi(P:Params):Obj:=oqq "type" (Data.cls {name:=(S "ModuleSpec"),bases:=[Y "object"],mro:=[R 22,Y "object"],ns:=21,qualname:=(S "ModuleSpec"),hasDict:=true,slotNames:=[],subclasses:=[],abstract:=false,collection:=none,hasDel:=false})
noncomputable def zCh(P:Params):Obj:=oqq "tuple" (Bt #[wV "_cached" 219,wV "_set_fileattr" 220,wV "_uninitialized_submodules" 221,wV "loader" 222,wV "loader_state" 223,wV "name" 224,wV "origin" 225,wV "submodule_search_locations" 226] 0)
noncomputable def zCp(P:Params):Obj:=oqq "getset_descriptor" (BS #[wV "__dict__" 237,R 22,B "function.__dict__",B "function.__dict__#set"])
noncomputable def zCA(P:Params):Obj:=oqq "getset_descriptor" (BS #[wV "__weakref__" 239,R 22,B "ExceptionGroup.__weakref__",N])
noncomputable def zCj(P:Params):Obj:=⟨R 22,some 20,Data.plain,#[]⟩
noncomputable def zCq(P:Params):Obj:=⟨N,none,Bt #[I 11 0,T (PySem.Str.mk #[6,247,8,95,95,110,97,109,101,95,95,6,246,4,95,115,114,101,6,248,7,95,95,100,111,99,95,95,0,6,250,11,95,95,112,97,99,107,97,103,101,95,95,6,249,0,6,251,10,95,95,108,111,97,100,101,114,95,95,4,0,0,14,6,252,8,95,95,115,112,101,99,95,95,4,0,0,26,6,253,7,99,111,109,112,105,108,101,9,12,95,115,114,101,46,99,111,109,112,105,108,101,6,254,8,116,101,109,112,108,97,116,101,9,13,95,115,114,101,46,116,101,109,112,108,97,116,101,6,255,11,103,101,116,99,111,100,101,115,105,122,101,9,16,95,115,114,101,46,103,101,116,99,111,100,101,115,105,122,101,6,256,13,97,115,99,105,105,95,105,115,99,97,115,101,100,9,18,95,115,114,101,46,97,115,99,105,105,95,105,115,99,97,115,101,100,6,257,15,117,110,105,99,111,100,101,95,105,115,99,97,115,101,100,9,20,95,115,114,101,46,117,110,105,99,111,100,101,95,105,115,99,97,115,101,100,6,258,13,97,115,99,105,105,95,116,111,108,111,119,101,114,9,18,95,115,114,101,46,97,115,99,105,105,95,116,111,108,111,119,101,114,6,259,15,117,110,105,99,111,100,101,95,116,111,108,111,119,101,114,9,20,95,115,114,101,46,117,110,105,99,111,100,101,95,116,111,108,111,119,101,114,6,261,5,77,65,71,73,67,4,260,0,20230612,6,263,8,67,79,68,69,83,73,90,69,4,262,0,4,6,265,9,77,65,88,82,69,80,69,65,84,4,264,0,4294967295,6,267,9,77,65,88,71,82,79,85,80,83,4,266,0,1073741823,6,269,9,99,111,112,121,114,105,103,104,116,6,268,53,32,83,82,69,32,50,46,50,46,50,32,67,111,112,121,114,105,103,104,116,32,40,99,41,32,49,57,57,55,45,50,48,48,50,32,98,121,32,83,101,99,114,101,116,32,76,97,98,115,32,65,66,32]) 0,BX true,BX false,wV "_sre" 271] 0,#[]⟩
noncomputable def zEk(P:Params):Obj:=oqq "tuple" (Bt #[] 0)
noncomputable def yDO(P:Params):Obj:=⟨N,none,BS #[],#[]⟩
noncomputable def zEn(P:Params):Obj:=oqq "code" (BS #[wV "<module>" 277,wV "<module>" 278,wcp 279,I 1 0,I 0 0,I 0 0,I 0 0,I 0 0,R 28,BX false,I 276 0,R 29,N,N,N,N,I 280 0,I 1 0,wcp 281])
noncomputable def zEl(P:Params):Obj:=⟨Y "frame",none,Data.plain,#[some (R 30),some (R 3),some (R 3),none,some (wV "__main__" 164),none,some (R 0)]⟩
noncomputable def tS(b:Bool)(P:Params):BT:=(nD (tp1 P) (nD (tp2 P) (nD (tp4 P) (nD (tp8 P) (nD (zCE P) (lF (zEl P)) eT) (lF (zCh P))) (nD (zDu P) (lF (zCB P)) (lF (zCq P)))) (nD (tp6 P) (nD (zCk P) (lF (zCs P)) (lF (zCA P))) (nD (zCz P) (lF (zCD P)) (lF (yDO P))))) (nD (tp3 P) (nD (tp5 P) (nD (tp9 P) (lF (zCe P)) (lF (zCp P))) (nD (zCy P) (lF (zCt P)) (lF (zEk P)))) (nD (tp7 P) (nD (zCn P) (lF (zCo P)) (lF (zCj P))) (nD (zCg P) (lF (zCi P)) (lF (zEn P))))))
noncomputable def yDd(P:Params):Obj:=oqq "dict" (Be (BU [fE P "__name__" 165 (wV "cpy313.stringprep" 289),fE P "__doc__" 166 N,fE P "__package__" 167 N,fE P "__loader__" 168 (B "__main__.__loader__#\x6fpaque"),fE P "__spec__" 169 N,fE P "__annotations__" 170 (R 6),fE P "__builtins__" 171 (R 4),fE P "__file__" 173 (wcp 172),fE P "__cached__" 174 N,fE P "_sre" 275 (R 12),fE P "_wall" 288 (R 38)]) 11)
noncomputable def zU3:Obj:=⟨N,none,BS #[I 2 0,I 0 0,R 37],#[]⟩
noncomputable def zB:Obj:=oqq "tuple" (Bt #[] 0)
noncomputable def zH:Obj:=⟨N,none,BS #[],#[]⟩
noncomputable def zA2:Obj:=oqq "tuple" (Bt #[wV "k" 285] 0)
noncomputable def zBj:Obj:=⟨N,none,Bb (fn (st 1) (S "_wall") 0 [] N N N N none N N 0),#[]⟩
noncomputable def zAt:Obj:=oqq "code" (BS #[wV "_wall" 282,wV "_wall" 283,wcp 284,I 2 0,I 1 0,I 0 0,I 0 0,I 3 0,R 32,BX true,I 276 0,R 33,N,R 34,R 35,R 36,I 286 0,I 2 0,wcp 287])
noncomputable def zAs:Obj:=oqq "function" (Bb (fn (st 1) (S "_wall") 3 [] N N N (wV "__main__" 164) none (R 37) N 0))
noncomputable def t6(b:Bool)(P:Params):BT:=(nD (tp1 P) (nD (tp2 P) (nD (yDd P) (nD (tp8 P) (nD (zCE P) (lF (zEl P)) eT) (lF (zCh P))) (nD (zDu P) (nD (zCB P) (lF zB) eT) (lF (zCq P)))) (nD (tp6 P) (nD (zCk P) (nD (zCs P) (lF zH) eT) (lF (zCA P))) (nD (zCz P) (nD (zCD P) (lF zAt) eT) (lF zU3)))) (nD (tp3 P) (nD (tp5 P) (nD (tp9 P) (nD (zCe P) (lF zB) eT) (lF (zCp P))) (nD (zCy P) (nD (zCt P) (lF zBj) eT) (lF (zEk P)))) (nD (tp7 P) (nD (zCn P) (nD (zCo P) (lF zA2) eT) (lF (zCj P))) (nD (zCg P) (nD (zCi P) (lF zAs) eT) (lF (zEn P))))))
noncomputable def yAa:List Stmt:=[st 1,st 2]
theorem g6(b:Bool)(w:World)(os:OsState):segRunT treeTable pw w 28 ann 1 39 (sh (tS b w.params) 32 282 os) (piecesOf yAa top.env_1 cdE ⟨0,0,0,0⟩ fr0)=some (.next,sh (t6 b w.params) 39 291 os,cdE,⟨5,0,5,8⟩):=zD7 (by kernel_rfl)
noncomputable def yCF(P:Params):Obj:=oqq "dict" (Be (BU [fE P "__name__" 165 (wV "cpy313.stringprep" 289),fE P "__doc__" 166 N,fE P "__package__" 167 N,fE P "__loader__" 168 (B "__main__.__loader__#\x6fpaque"),fE P "__spec__" 169 N,fE P "__annotations__" 170 (R 6),fE P "__builtins__" 171 (R 4),fE P "__file__" 173 (wcp 172),fE P "__cached__" 174 N,fE P "_sre" 275 (R 12),fE P "_wall" 288 (R 38),fE P "b1_set" 350 (R 46)]) 12)
noncomputable def zBV:Obj:=oqq "list" (Bt #[I 173 291,I 847 292,I 6150 293,I 6155 294,I 6156 295,I 6157 296,I 8203 297,I 8204 298,I 8205 299,I 8288 300,I 65279 301] 0)
noncomputable def zB6:Obj:=oqq "range" (BS #[I 65024 302,I 65040 303,I 1 304])
noncomputable def zB3:Obj:=oqq "list" (Bt #[I 65024 307,I 65025 308,I 65026 309,I 65027 310,I 65028 311,I 65029 312,I 65030 313,I 65031 314,I 65032 315,I 65033 316,I 65034 317,I 65035 318,I 65036 319,I 65037 320,I 65038 321,I 65039 322] 18)
noncomputable def zB9:Obj:=oqq "range_iterator" (BS #[I 65040 0,I 0 0,I 1 0])
noncomputable def zCa:Obj:=oqq "StopIteration" (BS #[R 43,N,N,N,BX false,N])
noncomputable def zBZ:Obj:=oqq "list" (Bt #[I 173 291,I 847 292,I 6150 293,I 6155 294,I 6156 295,I 6157 296,I 8203 297,I 8204 298,I 8205 299,I 8288 300,I 65279 301,I 65024 307,I 65025 308,I 65026 309,I 65027 310,I 65028 311,I 65029 312,I 65030 313,I 65031 314,I 65032 315,I 65033 316,I 65034 317,I 65035 318,I 65036 319,I 65037 320,I 65038 321,I 65039 322] 0)
noncomputable def uF(b:Bool)(P:Params):Obj:=oqq "set" (Data.set #[(65024,(I 65024 307)),(65025,(I 65025 308)),(65026,(I 65026 309)),(65027,(I 65027 310)),(65028,(I 65028 311)),(65029,(I 65029 312)),(6150,(I 6150 293)),(65030,(I 65030 313)),(65031,(I 65031 314)),(65032,(I 65032 315)),(65033,(I 65033 316)),(6155,(I 6155 294)),(6156,(I 6156 295)),(6157,(I 6157 296)),(8203,(I 8203 297)),(8204,(I 8204 298)),(8205,(I 8205 299)),(65034,(I 65034 317)),(65035,(I 65035 318)),(65036,(I 65036 319)),(65037,(I 65037 320)),(65038,(I 65038 321)),(65039,(I 65039 322)),(173,(I 173 291)),(847,(I 847 292)),(8288,(I 8288 300)),(65279,(I 65279 301))] 29 {mask:=127,place:=#[0,1,2,3,4,5,6,7,8,9,10,11,12,13,14,15,16,17,18,19,20,21,22,45,79,96,127],dummies:=#[],finger:=0,led:=!b,moves:=2,plain:=true})
noncomputable def zB2:Obj:=oqq "list_iterator" (BS #[N,I 27 0])
noncomputable def zBY:Obj:=oqq "StopIteration" (BS #[R 48,N,N,N,BX false,N])
noncomputable def t0(b:Bool)(P:Params):BT:=(nD (tp1 P) (nD (tp2 P) (nD (yCF P) (nD (tp8 P) (nD (zCE P) (lF (zEl P)) (lF zB2)) (nD (zCh P) (lF zBV) eT)) (nD (zDu P) (nD (zCB P) (lF zB) eT) (nD (zCq P) (lF zB) eT))) (nD (tp6 P) (nD (zCk P) (nD (zCs P) (lF zH) (lF zBY)) (nD (zCA P) (lF zB3) eT)) (nD (zCz P) (nD (zCD P) (lF zAt) eT) (nD zU3 (lF zBZ) eT)))) (nD (tp3 P) (nD (tp5 P) (nD (tp9 P) (nD (zCe P) (lF zB) (lF zB)) (nD (zCp P) (lF zB6) eT)) (nD (zCy P) (nD (zCt P) (lF zBj) eT) (nD (zEk P) (lF zCa) eT))) (nD (tp7 P) (nD (zCn P) (nD (zCo P) (lF zA2) eT) (nD (zCj P) (lF zB9) eT)) (nD (zCg P) (nD (zCi P) (lF zAs) eT) (nD (zEn P) (lF (uF b P)) eT)))))
noncomputable def zZS:List Stmt:=[st 3]
noncomputable abbrev gPz(w:World):Prop:=∀os:OsState,segRunT treeTable pw w 28 ann 1 999 (sh (t6 (w.params.followText "set-order") w.params) 39 291 os) (piecesOf zZS top.env_1 cdE ⟨5,0,5,8⟩ fr0)=some (.next,sh (t0 (w.params.followText "set-order") w.params) 50 351 os,cdE,⟨6,0,6,6⟩)
theorem zZT(w:World):gPz ((w.withFollow "set-order" false).withFollow "special-get-raises" false):=fun os=>zD7 (by kernel_rfl)
theorem yAe(w:World):gPz ((w.withFollow "set-order" false).withFollow "special-get-raises" true):=fun os=>zD7 (by kernel_rfl)
theorem yB9(w:World):gPz ((w.withFollow "set-order" true).withFollow "special-get-raises" false):=fun os=>zD7 (by kernel_rfl)
theorem yAS(w:World):gPz ((w.withFollow "set-order" true).withFollow "special-get-raises" true):=fun os=>zD7 (by kernel_rfl)
noncomputable def yAZ(P:Params):Obj:=oqq "dict" (Be (BU [fE P "__name__" 165 (wV "cpy313.stringprep" 289),fE P "__doc__" 166 N,fE P "__package__" 167 N,fE P "__loader__" 168 (B "__main__.__loader__#\x6fpaque"),fE P "__spec__" 169 N,fE P "__annotations__" 170 (R 6),fE P "__builtins__" 171 (R 4),fE P "__file__" 173 (wcp 172),fE P "__cached__" 174 N,fE P "_sre" 275 (R 12),fE P "_wall" 288 (R 38),fE P "b1_set" 350 (R 46),fE P "in_table_b1" 357 (R 56)]) 13)
noncomputable def zPM:Obj:=⟨N,none,BS #[I 2 0,I 0 0,R 37,I 7 0,I 0 0,R 55],#[]⟩
noncomputable def zDm:Obj:=oqq "tuple" (Bt #[wV "code" 354] 0)
noncomputable def zC7:Obj:=⟨N,none,Bb (fn (st 4) (S "in_table_b1") 0 [] N N N N none N N 0),#[]⟩
noncomputable def zB5:Obj:=oqq "code" (BS #[wV "in_table_b1" 351,wV "in_table_b1" 352,wcp 353,I 7 0,I 1 0,I 0 0,I 0 0,I 3 0,R 50,BX true,I 276 0,R 51,N,R 52,R 53,R 54,I 355 0,I 7 0,wcp 356])
noncomputable def zBh:Obj:=oqq "function" (Bb (fn (st 4) (S "in_table_b1") 3 [] N N N (wV "cpy313.stringprep" 289) none (R 55) N 0))
noncomputable def t1(b:Bool)(P:Params):BT:=(nD (tp1 P) (nD (tp2 P) (nD (yAZ P) (nD (tp8 P) (nD (zCE P) (lF (zEl P)) (lF zB2)) (nD (zCh P) (lF zBV) (lF zB5))) (nD (zDu P) (nD (zCB P) (lF zB) (lF zH)) (nD (zCq P) (lF zB) eT))) (nD (tp6 P) (nD (zCk P) (nD (zCs P) (lF zH) (lF zBY)) (nD (zCA P) (lF zB3) eT)) (nD (zCz P) (nD (zCD P) (lF zAt) (lF zB)) (nD zPM (lF zBZ) eT)))) (nD (tp3 P) (nD (tp5 P) (nD (tp9 P) (nD (zCe P) (lF zB) (lF zB)) (nD (zCp P) (lF zB6) (lF zBh))) (nD (zCy P) (nD (zCt P) (lF zBj) (lF zDm)) (nD (zEk P) (lF zCa) eT))) (nD (tp7 P) (nD (zCn P) (nD (zCo P) (lF zA2) (lF zB)) (nD (zCj P) (lF zB9) eT)) (nD (zCg P) (nD (zCi P) (lF zAs) (lF zC7)) (nD (zEn P) (lF (uF b P)) eT)))))
noncomputable def yBg:List Stmt:=[st 4]
theorem g1(b:Bool)(w:World)(os:OsState):segRunT treeTable pw w 28 ann 1 30 (sh (t0 b w.params) 50 351 os) (piecesOf yBg top.env_1 cdE ⟨6,0,6,6⟩ fr0)=some (.next,sh (t1 b w.params) 57 358 os,cdE,⟨7,0,8,30⟩):=zD7 (by kernel_rfl)
noncomputable def yC4(P:Params):Obj:=oqq "dict" (Be (BU [fE P "__name__" 165 (wV "cpy313.stringprep" 289),fE P "__doc__" 166 N,fE P "__package__" 167 N,fE P "__loader__" 168 (B "__main__.__loader__#\x6fpaque"),fE P "__spec__" 169 N,fE P "__annotations__" 170 (R 6),fE P "__builtins__" 171 (R 4),fE P "__file__" 173 (wcp 172),fE P "__cached__" 174 N,fE P "_sre" 275 (R 12),fE P "_wall" 288 (R 38),fE P "b1_set" 350 (R 46),fE P "in_table_b1" 357 (R 56),fE P "b3_exceptions" 2308 (R 57)]) 14)
noncomputable def uO(b:Bool)(P:Params):Obj:=oqq "dict" (Be (BU [xE 181 358 "μ",xE 223 361 "ss",xE 304 364 "i̇",xE 329 367 "ʼn",xE 383 370 "s",xE 496 373 "ǰ",xE 837 376 "ι",xE 890 379 " ι",xE 912 382 "ΐ",xE 944 385 "ΰ",xE 962 388 "σ",xE 976 391 "β",xE 977 394 "θ",xE 978 397 "υ",xE 979 400 "ύ",xE 980 403 "ϋ",xE 981 406 "φ",xE 982 409 "π",xE 1008 412 "κ",xE 1009 415 "ρ",xE 1010 418 "σ",xE 1013 421 "ε",xE 1415 424 "եւ",xE 7830 427 "ẖ",xE 7831 430 "ẗ",xE 7832 433 "ẘ",xE 7833 436 "ẙ",xE 7834 439 "aʾ",xE 7835 442 "ṡ",xE 8016 445 "ὐ",xE 8018 448 "ὒ",xE 8020 451 "ὔ",xE 8022 454 "ὖ",xE 8064 457 "ἀι",xE 8065 460 "ἁι",xE 8066 463 "ἂι",xE 8067 466 "ἃι",xE 8068 469 "ἄι",xE 8069 472 "ἅι",xE 8070 475 "ἆι",xE 8071 478 "ἇι",xE 8072 481 "ἀι",xE 8073 484 "ἁι",xE 8074 487 "ἂι",xE 8075 490 "ἃι",xE 8076 493 "ἄι",xE 8077 496 "ἅι",xE 8078 499 "ἆι",xE 8079 502 "ἇι",xE 8080 505 "ἠι",xE 8081 508 "ἡι",xE 8082 511 "ἢι",xE 8083 514 "ἣι",xE 8084 517 "ἤι",xE 8085 520 "ἥι",xE 8086 523 "ἦι",xE 8087 526 "ἧι",xE 8088 529 "ἠι",xE 8089 532 "ἡι",xE 8090 535 "ἢι",xE 8091 538 "ἣι",xE 8092 541 "ἤι",xE 8093 544 "ἥι",xE 8094 547 "ἦι",xE 8095 550 "ἧι",xE 8096 553 "ὠι",xE 8097 556 "ὡι",xE 8098 559 "ὢι",xE 8099 562 "ὣι",xE 8100 565 "ὤι",xE 8101 568 "ὥι",xE 8102 571 "ὦι",xE 8103 574 "ὧι",xE 8104 577 "ὠι",xE 8105 580 "ὡι",xE 8106 583 "ὢι",xE 8107 586 "ὣι",xE 8108 589 "ὤι",xE 8109 592 "ὥι",xE 8110 595 "ὦι",xE 8111 598 "ὧι",xE 8114 601 "ὰι",xE 8115 604 "αι",xE 8116 607 "άι",xE 8118 610 "ᾶ",xE 8119 613 "ᾶι",xE 8124 616 "αι",xE 8126 619 "ι",xE 8130 622 "ὴι",xE 8131 625 "ηι",xE 8132 628 "ήι",xE 8134 631 "ῆ",xE 8135 634 "ῆι",xE 8140 637 "ηι",xE 8146 640 "ῒ",xE 8147 643 "ΐ",xE 8150 646 "ῖ",xE 8151 649 "ῗ",xE 8162 652 "ῢ",xE 8163 655 "ΰ",xE 8164 658 "ῤ",xE 8166 661 "ῦ",xE 8167 664 "ῧ",xE 8178 667 "ὼι",xE 8179 670 "ωι",xE 8180 673 "ώι",xE 8182 676 "ῶ",xE 8183 679 "ῶι",xE 8188 682 "ωι",xE 8360 685 "rs",xE 8450 688 "c",xE 8451 691 "°c",xE 8455 694 "ɛ",xE 8457 697 "°f",xE 8459 700 "h",xE 8460 703 "h",xE 8461 706 "h",xE 8464 709 "i",xE 8465 712 "i",xE 8466 715 "l",xE 8469 718 "n",xE 8470 721 "no",xE 8473 724 "p",xE 8474 727 "q",xE 8475 730 "r",xE 8476 733 "r",xE 8477 736 "r",xE 8480 739 "sm",xE 8481 742 "tel",xE 8482 745 "tm",xE 8484 748 "z",xE 8488 751 "z",xE 8492 754 "b",xE 8493 757 "c",xE 8496 760 "e",xE 8497 763 "f",xE 8499 766 "m",xE 8510 769 "γ",xE 8511 772 "π",xE 8517 775 "d",xE 13169 778 "hpa",xE 13171 781 "au",xE 13173 784 "ov",xE 13184 787 "pa",xE 13185 790 "na",xE 13186 793 "μa",xE 13187 796 "ma",xE 13188 799 "ka",xE 13189 802 "kb",xE 13190 805 "mb",xE 13191 808 "gb",xE 13194 811 "pf",xE 13195 814 "nf",xE 13196 817 "μf",xE 13200 820 "hz",xE 13201 823 "khz",xE 13202 826 "mhz",xE 13203 829 "ghz",xE 13204 832 "thz",xE 13225 835 "pa",xE 13226 838 "kpa",xE 13227 841 "mpa",xE 13228 844 "gpa",xE 13236 847 "pv",xE 13237 850 "nv",xE 13238 853 "μv",xE 13239 856 "mv",xE 13240 859 "kv",xE 13241 862 "mv",xE 13242 865 "pw",xE 13243 868 "nw",xE 13244 871 "μw",xE 13245 874 "mw",xE 13246 877 "kw",xE 13247 880 "mw",xE 13248 883 "kω",xE 13249 886 "mω",xE 13251 889 "bq",xE 13254 892 "c∕kg",xE 13255 895 "co.",xE 13256 898 "db",xE 13257 901 "gy",xE 13259 904 "hp",xE 13261 907 "kk",xE 13262 910 "km",xE 13271 913 "ph",xE 13273 916 "ppm",xE 13274 919 "pr",xE 13276 922 "sv",xE 13277 925 "wb",xE 64256 928 "ff",xE 64257 931 "fi",xE 64258 934 "fl",xE 64259 937 "ffi",xE 64260 940 "ffl",xE 64261 943 "st",xE 64262 946 "st",xE 64275 949 "մն",xE 64276 952 "մե",xE 64277 955 "մի",xE 64278 958 "վն",xE 64279 961 "մխ",xE 119808 964 "a",xE 119809 967 "b",xE 119810 970 "c",xE 119811 973 "d",xE 119812 976 "e",xE 119813 979 "f",xE 119814 982 "g",xE 119815 985 "h",xE 119816 988 "i",xE 119817 991 "j",xE 119818 994 "k",xE 119819 997 "l",xE 119820 1000 "m",xE 119821 1003 "n",xE 119822 1006 "o",xE 119823 1009 "p",xE 119824 1012 "q",xE 119825 1015 "r",xE 119826 1018 "s",xE 119827 1021 "t",xE 119828 1024 "u",xE 119829 1027 "v",xE 119830 1030 "w",xE 119831 1033 "x",xE 119832 1036 "y",xE 119833 1039 "z",xE 119860 1042 "a",xE 119861 1045 "b",xE 119862 1048 "c",xE 119863 1051 "d",xE 119864 1054 "e",xE 119865 1057 "f",xE 119866 1060 "g",xE 119867 1063 "h",xE 119868 1066 "i",xE 119869 1069 "j",xE 119870 1072 "k",xE 119871 1075 "l",xE 119872 1078 "m",xE 119873 1081 "n",xE 119874 1084 "o",xE 119875 1087 "p",xE 119876 1090 "q",xE 119877 1093 "r",xE 119878 1096 "s",xE 119879 1099 "t",xE 119880 1102 "u",xE 119881 1105 "v",xE 119882 1108 "w",xE 119883 1111 "x",xE 119884 1114 "y",xE 119885 1117 "z",xE 119912 1120 "a",xE 119913 1123 "b",xE 119914 1126 "c",xE 119915 1129 "d",xE 119916 1132 "e",xE 119917 1135 "f",xE 119918 1138 "g",xE 119919 1141 "h",xE 119920 1144 "i",xE 119921 1147 "j",xE 119922 1150 "k",xE 119923 1153 "l",xE 119924 1156 "m",xE 119925 1159 "n",xE 119926 1162 "o",xE 119927 1165 "p",xE 119928 1168 "q",xE 119929 1171 "r",xE 119930 1174 "s",xE 119931 1177 "t",xE 119932 1180 "u",xE 119933 1183 "v",xE 119934 1186 "w",xE 119935 1189 "x",xE 119936 1192 "y",xE 119937 1195 "z",xE 119964 1198 "a",xE 119966 1201 "c",xE 119967 1204 "d",xE 119970 1207 "g",xE 119973 1210 "j",xE 119974 1213 "k",xE 119977 1216 "n",xE 119978 1219 "o",xE 119979 1222 "p",xE 119980 1225 "q",xE 119982 1228 "s",xE 119983 1231 "t",xE 119984 1234 "u",xE 119985 1237 "v",xE 119986 1240 "w",xE 119987 1243 "x",xE 119988 1246 "y",xE 119989 1249 "z",xE 120016 1252 "a",xE 120017 1255 "b",xE 120018 1258 "c",xE 120019 1261 "d",xE 120020 1264 "e",xE 120021 1267 "f",xE 120022 1270 "g",xE 120023 1273 "h",xE 120024 1276 "i",xE 120025 1279 "j",xE 120026 1282 "k",xE 120027 1285 "l",xE 120028 1288 "m",xE 120029 1291 "n",xE 120030 1294 "o",xE 120031 1297 "p",xE 120032 1300 "q",xE 120033 1303 "r",xE 120034 1306 "s",xE 120035 1309 "t",xE 120036 1312 "u",xE 120037 1315 "v",xE 120038 1318 "w",xE 120039 1321 "x",xE 120040 1324 "y",xE 120041 1327 "z",xE 120068 1330 "a",xE 120069 1333 "b",xE 120071 1336 "d",xE 120072 1339 "e",xE 120073 1342 "f",xE 120074 1345 "g",xE 120077 1348 "j",xE 120078 1351 "k",xE 120079 1354 "l",xE 120080 1357 "m",xE 120081 1360 "n",xE 120082 1363 "o",xE 120083 1366 "p",xE 120084 1369 "q",xE 120086 1372 "s",xE 120087 1375 "t",xE 120088 1378 "u",xE 120089 1381 "v",xE 120090 1384 "w",xE 120091 1387 "x",xE 120092 1390 "y",xE 120120 1393 "a",xE 120121 1396 "b",xE 120123 1399 "d",xE 120124 1402 "e",xE 120125 1405 "f",xE 120126 1408 "g",xE 120128 1411 "i",xE 120129 1414 "j",xE 120130 1417 "k",xE 120131 1420 "l",xE 120132 1423 "m",xE 120134 1426 "o",xE 120138 1429 "s",xE 120139 1432 "t",xE 120140 1435 "u",xE 120141 1438 "v",xE 120142 1441 "w",xE 120143 1444 "x",xE 120144 1447 "y",xE 120172 1450 "a",xE 120173 1453 "b",xE 120174 1456 "c",xE 120175 1459 "d",xE 120176 1462 "e",xE 120177 1465 "f",xE 120178 1468 "g",xE 120179 1471 "h",xE 120180 1474 "i",xE 120181 1477 "j",xE 120182 1480 "k",xE 120183 1483 "l",xE 120184 1486 "m",xE 120185 1489 "n",xE 120186 1492 "o",xE 120187 1495 "p",xE 120188 1498 "q",xE 120189 1501 "r",xE 120190 1504 "s",xE 120191 1507 "t",xE 120192 1510 "u",xE 120193 1513 "v",xE 120194 1516 "w",xE 120195 1519 "x",xE 120196 1522 "y",xE 120197 1525 "z",xE 120224 1528 "a",xE 120225 1531 "b",xE 120226 1534 "c",xE 120227 1537 "d",xE 120228 1540 "e",xE 120229 1543 "f",xE 120230 1546 "g",xE 120231 1549 "h",xE 120232 1552 "i",xE 120233 1555 "j",xE 120234 1558 "k",xE 120235 1561 "l",xE 120236 1564 "m",xE 120237 1567 "n",xE 120238 1570 "o",xE 120239 1573 "p",xE 120240 1576 "q",xE 120241 1579 "r",xE 120242 1582 "s",xE 120243 1585 "t",xE 120244 1588 "u",xE 120245 1591 "v",xE 120246 1594 "w",xE 120247 1597 "x",xE 120248 1600 "y",xE 120249 1603 "z",xE 120276 1606 "a",xE 120277 1609 "b",xE 120278 1612 "c",xE 120279 1615 "d",xE 120280 1618 "e",xE 120281 1621 "f",xE 120282 1624 "g",xE 120283 1627 "h",xE 120284 1630 "i",xE 120285 1633 "j",xE 120286 1636 "k",xE 120287 1639 "l",xE 120288 1642 "m",xE 120289 1645 "n",xE 120290 1648 "o",xE 120291 1651 "p",xE 120292 1654 "q",xE 120293 1657 "r",xE 120294 1660 "s",xE 120295 1663 "t",xE 120296 1666 "u",xE 120297 1669 "v",xE 120298 1672 "w",xE 120299 1675 "x",xE 120300 1678 "y",xE 120301 1681 "z",xE 120328 1684 "a",xE 120329 1687 "b",xE 120330 1690 "c",xE 120331 1693 "d",xE 120332 1696 "e",xE 120333 1699 "f",xE 120334 1702 "g",xE 120335 1705 "h",xE 120336 1708 "i",xE 120337 1711 "j",xE 120338 1714 "k",xE 120339 1717 "l",xE 120340 1720 "m",xE 120341 1723 "n",xE 120342 1726 "o",xE 120343 1729 "p",xE 120344 1732 "q",xE 120345 1735 "r",xE 120346 1738 "s",xE 120347 1741 "t",xE 120348 1744 "u",xE 120349 1747 "v",xE 120350 1750 "w",xE 120351 1753 "x",xE 120352 1756 "y",xE 120353 1759 "z",xE 120380 1762 "a",xE 120381 1765 "b",xE 120382 1768 "c",xE 120383 1771 "d",xE 120384 1774 "e",xE 120385 1777 "f",xE 120386 1780 "g",xE 120387 1783 "h",xE 120388 1786 "i",xE 120389 1789 "j",xE 120390 1792 "k",xE 120391 1795 "l",xE 120392 1798 "m",xE 120393 1801 "n",xE 120394 1804 "o",xE 120395 1807 "p",xE 120396 1810 "q",xE 120397 1813 "r",xE 120398 1816 "s",xE 120399 1819 "t",xE 120400 1822 "u",xE 120401 1825 "v",xE 120402 1828 "w",xE 120403 1831 "x",xE 120404 1834 "y",xE 120405 1837 "z",xE 120432 1840 "a",xE 120433 1843 "b",xE 120434 1846 "c",xE 120435 1849 "d",xE 120436 1852 "e",xE 120437 1855 "f",xE 120438 1858 "g",xE 120439 1861 "h",xE 120440 1864 "i",xE 120441 1867 "j",xE 120442 1870 "k",xE 120443 1873 "l",xE 120444 1876 "m",xE 120445 1879 "n",xE 120446 1882 "o",xE 120447 1885 "p",xE 120448 1888 "q",xE 120449 1891 "r",xE 120450 1894 "s",xE 120451 1897 "t",xE 120452 1900 "u",xE 120453 1903 "v",xE 120454 1906 "w",xE 120455 1909 "x",xE 120456 1912 "y",xE 120457 1915 "z",xE 120488 1918 "α",xE 120489 1921 "β",xE 120490 1924 "γ",xE 120491 1927 "δ",xE 120492 1930 "ε",xE 120493 1933 "ζ",xE 120494 1936 "η",xE 120495 1939 "θ",xE 120496 1942 "ι",xE 120497 1945 "κ",xE 120498 1948 "λ",xE 120499 1951 "μ",xE 120500 1954 "ν",xE 120501 1957 "ξ",xE 120502 1960 "ο",xE 120503 1963 "π",xE 120504 1966 "ρ",xE 120505 1969 "θ",xE 120506 1972 "σ",xE 120507 1975 "τ",xE 120508 1978 "υ",xE 120509 1981 "φ",xE 120510 1984 "χ",xE 120511 1987 "ψ",xE 120512 1990 "ω",xE 120531 1993 "σ",xE 120546 1996 "α",xE 120547 1999 "β",xE 120548 2002 "γ",xE 120549 2005 "δ",xE 120550 2008 "ε",xE 120551 2011 "ζ",xE 120552 2014 "η",xE 120553 2017 "θ",xE 120554 2020 "ι",xE 120555 2023 "κ",xE 120556 2026 "λ",xE 120557 2029 "μ",xE 120558 2032 "ν",xE 120559 2035 "ξ",xE 120560 2038 "ο",xE 120561 2041 "π",xE 120562 2044 "ρ",xE 120563 2047 "θ",xE 120564 2050 "σ",xE 120565 2053 "τ",xE 120566 2056 "υ",xE 120567 2059 "φ",xE 120568 2062 "χ",xE 120569 2065 "ψ",xE 120570 2068 "ω",xE 120589 2071 "σ",xE 120604 2074 "α",xE 120605 2077 "β",xE 120606 2080 "γ",xE 120607 2083 "δ",xE 120608 2086 "ε",xE 120609 2089 "ζ",xE 120610 2092 "η",xE 120611 2095 "θ",xE 120612 2098 "ι",xE 120613 2101 "κ",xE 120614 2104 "λ",xE 120615 2107 "μ",xE 120616 2110 "ν",xE 120617 2113 "ξ",xE 120618 2116 "ο",xE 120619 2119 "π",xE 120620 2122 "ρ",xE 120621 2125 "θ",xE 120622 2128 "σ",xE 120623 2131 "τ",xE 120624 2134 "υ",xE 120625 2137 "φ",xE 120626 2140 "χ",xE 120627 2143 "ψ",xE 120628 2146 "ω",xE 120647 2149 "σ",xE 120662 2152 "α",xE 120663 2155 "β",xE 120664 2158 "γ",xE 120665 2161 "δ",xE 120666 2164 "ε",xE 120667 2167 "ζ",xE 120668 2170 "η",xE 120669 2173 "θ",xE 120670 2176 "ι",xE 120671 2179 "κ",xE 120672 2182 "λ",xE 120673 2185 "μ",xE 120674 2188 "ν",xE 120675 2191 "ξ",xE 120676 2194 "ο",xE 120677 2197 "π",xE 120678 2200 "ρ",xE 120679 2203 "θ",xE 120680 2206 "σ",xE 120681 2209 "τ",xE 120682 2212 "υ",xE 120683 2215 "φ",xE 120684 2218 "χ",xE 120685 2221 "ψ",xE 120686 2224 "ω",xE 120705 2227 "σ",xE 120720 2230 "α",xE 120721 2233 "β",xE 120722 2236 "γ",xE 120723 2239 "δ",xE 120724 2242 "ε",xE 120725 2245 "ζ",xE 120726 2248 "η",xE 120727 2251 "θ",xE 120728 2254 "ι",xE 120729 2257 "κ",xE 120730 2260 "λ",xE 120731 2263 "μ",xE 120732 2266 "ν",xE 120733 2269 "ξ",xE 120734 2272 "ο",xE 120735 2275 "π",xE 120736 2278 "ρ",xE 120737 2281 "θ",xE 120738 2284 "σ",xE 120739 2287 "τ",xE 120740 2290 "υ",xE 120741 2293 "φ",xE 120742 2296 "χ",xE 120743 2298 "ψ",xE 120744 2300 "ω",xE 120763 2302 "σ"]) 650)
noncomputable def zEz:Obj:=oqq "dict" (Be (BU [xE 982 409 "π",xE 1008 412 "κ",xE 1009 415 "ρ",xE 1010 418 "σ",xE 1013 421 "ε",xE 1415 424 "եւ",xE 7830 427 "ẖ",xE 7831 430 "ẗ",xE 7832 433 "ẘ",xE 7833 436 "ẙ",xE 7834 439 "aʾ",xE 7835 442 "ṡ",xE 8016 445 "ὐ",xE 8018 448 "ὒ",xE 8020 451 "ὔ",xE 8022 454 "ὖ",xE 8064 457 "ἀι"]) 17)
noncomputable def zEQ:Obj:=oqq "dict" (Be (BU [xE 8065 460 "ἁι",xE 8066 463 "ἂι",xE 8067 466 "ἃι",xE 8068 469 "ἄι",xE 8069 472 "ἅι",xE 8070 475 "ἆι",xE 8071 478 "ἇι",xE 8072 481 "ἀι",xE 8073 484 "ἁι",xE 8074 487 "ἂι",xE 8075 490 "ἃι",xE 8076 493 "ἄι",xE 8077 496 "ἅι",xE 8078 499 "ἆι",xE 8079 502 "ἇι",xE 8080 505 "ἠι",xE 8081 508 "ἡι"]) 17)
noncomputable def zEC:Obj:=oqq "dict" (Be (BU [xE 8082 511 "ἢι",xE 8083 514 "ἣι",xE 8084 517 "ἤι",xE 8085 520 "ἥι",xE 8086 523 "ἦι",xE 8087 526 "ἧι",xE 8088 529 "ἠι",xE 8089 532 "ἡι",xE 8090 535 "ἢι",xE 8091 538 "ἣι",xE 8092 541 "ἤι",xE 8093 544 "ἥι",xE 8094 547 "ἦι",xE 8095 550 "ἧι",xE 8096 553 "ὠι",xE 8097 556 "ὡι",xE 8098 559 "ὢι"]) 17)
noncomputable def zEO:Obj:=oqq "dict" (Be (BU [xE 8099 562 "ὣι",xE 8100 565 "ὤι",xE 8101 568 "ὥι",xE 8102 571 "ὦι",xE 8103 574 "ὧι",xE 8104 577 "ὠι",xE 8105 580 "ὡι",xE 8106 583 "ὢι",xE 8107 586 "ὣι",xE 8108 589 "ὤι",xE 8109 592 "ὥι",xE 8110 595 "ὦι",xE 8111 598 "ὧι",xE 8114 601 "ὰι",xE 8115 604 "αι",xE 8116 607 "άι",xE 8118 610 "ᾶ"]) 17)
noncomputable def zES:Obj:=oqq "dict" (Be (BU [xE 8119 613 "ᾶι",xE 8124 616 "αι",xE 8126 619 "ι",xE 8130 622 "ὴι",xE 8131 625 "ηι",xE 8132 628 "ήι",xE 8134 631 "ῆ",xE 8135 634 "ῆι",xE 8140 637 "ηι",xE 8146 640 "ῒ",xE 8147 643 "ΐ",xE 8150 646 "ῖ",xE 8151 649 "ῗ",xE 8162 652 "ῢ",xE 8163 655 "ΰ",xE 8164 658 "ῤ",xE 8166 661 "ῦ"]) 17)
noncomputable def zEB:Obj:=oqq "dict" (Be (BU [xE 8167 664 "ῧ",xE 8178 667 "ὼι",xE 8179 670 "ωι",xE 8180 673 "ώι",xE 8182 676 "ῶ",xE 8183 679 "ῶι",xE 8188 682 "ωι",xE 8360 685 "rs",xE 8450 688 "c",xE 8451 691 "°c",xE 8455 694 "ɛ",xE 8457 697 "°f",xE 8459 700 "h",xE 8460 703 "h",xE 8461 706 "h",xE 8464 709 "i",xE 8465 712 "i"]) 17)
noncomputable def zFM:Obj:=oqq "dict" (Be (BU [xE 8466 715 "l",xE 8469 718 "n",xE 8470 721 "no",xE 8473 724 "p",xE 8474 727 "q",xE 8475 730 "r",xE 8476 733 "r",xE 8477 736 "r",xE 8480 739 "sm",xE 8481 742 "tel",xE 8482 745 "tm",xE 8484 748 "z",xE 8488 751 "z",xE 8492 754 "b",xE 8493 757 "c",xE 8496 760 "e",xE 8497 763 "f"]) 17)
noncomputable def zFl:Obj:=oqq "dict" (Be (BU [xE 8499 766 "m",xE 8510 769 "γ",xE 8511 772 "π",xE 8517 775 "d",xE 13169 778 "hpa",xE 13171 781 "au",xE 13173 784 "ov",xE 13184 787 "pa",xE 13185 790 "na",xE 13186 793 "μa",xE 13187 796 "ma",xE 13188 799 "ka",xE 13189 802 "kb",xE 13190 805 "mb",xE 13191 808 "gb",xE 13194 811 "pf",xE 13195 814 "nf"]) 17)
noncomputable def zFE:Obj:=oqq "dict" (Be (BU [xE 13196 817 "μf",xE 13200 820 "hz",xE 13201 823 "khz",xE 13202 826 "mhz",xE 13203 829 "ghz",xE 13204 832 "thz",xE 13225 835 "pa",xE 13226 838 "kpa",xE 13227 841 "mpa",xE 13228 844 "gpa",xE 13236 847 "pv",xE 13237 850 "nv",xE 13238 853 "μv",xE 13239 856 "mv",xE 13240 859 "kv",xE 13241 862 "mv",xE 13242 865 "pw"]) 17)
noncomputable def zFA:Obj:=oqq "dict" (Be (BU [xE 13243 868 "nw",xE 13244 871 "μw",xE 13245 874 "mw",xE 13246 877 "kw",xE 13247 880 "mw",xE 13248 883 "kω",xE 13249 886 "mω",xE 13251 889 "bq",xE 13254 892 "c∕kg",xE 13255 895 "co.",xE 13256 898 "db",xE 13257 901 "gy",xE 13259 904 "hp",xE 13261 907 "kk",xE 13262 910 "km",xE 13271 913 "ph",xE 13273 916 "ppm"]) 17)
noncomputable def zE6:Obj:=oqq "dict" (Be (BU [xE 13274 919 "pr",xE 13276 922 "sv",xE 13277 925 "wb",xE 64256 928 "ff",xE 64257 931 "fi",xE 64258 934 "fl",xE 64259 937 "ffi",xE 64260 940 "ffl",xE 64261 943 "st",xE 64262 946 "st",xE 64275 949 "մն",xE 64276 952 "մե",xE 64277 955 "մի",xE 64278 958 "վն",xE 64279 961 "մխ",xE 119808 964 "a",xE 119809 967 "b"]) 17)
noncomputable def zFa:Obj:=oqq "dict" (Be (BU [xE 119810 970 "c",xE 119811 973 "d",xE 119812 976 "e",xE 119813 979 "f",xE 119814 982 "g",xE 119815 985 "h",xE 119816 988 "i",xE 119817 991 "j",xE 119818 994 "k",xE 119819 997 "l",xE 119820 1000 "m",xE 119821 1003 "n",xE 119822 1006 "o",xE 119823 1009 "p",xE 119824 1012 "q",xE 119825 1015 "r",xE 119826 1018 "s"]) 17)
noncomputable def zFD:Obj:=oqq "dict" (Be (BU [xE 119827 1021 "t",xE 119828 1024 "u",xE 119829 1027 "v",xE 119830 1030 "w",xE 119831 1033 "x",xE 119832 1036 "y",xE 119833 1039 "z",xE 119860 1042 "a",xE 119861 1045 "b",xE 119862 1048 "c",xE 119863 1051 "d",xE 119864 1054 "e",xE 119865 1057 "f",xE 119866 1060 "g",xE 119867 1063 "h",xE 119868 1066 "i",xE 119869 1069 "j"]) 17)
noncomputable def zE0:Obj:=oqq "dict" (Be (BU [xE 119870 1072 "k",xE 119871 1075 "l",xE 119872 1078 "m",xE 119873 1081 "n",xE 119874 1084 "o",xE 119875 1087 "p",xE 119876 1090 "q",xE 119877 1093 "r",xE 119878 1096 "s",xE 119879 1099 "t",xE 119880 1102 "u",xE 119881 1105 "v",xE 119882 1108 "w",xE 119883 1111 "x",xE 119884 1114 "y",xE 119885 1117 "z",xE 119912 1120 "a"]) 17)
noncomputable def zFg:Obj:=oqq "dict" (Be (BU [xE 119913 1123 "b",xE 119914 1126 "c",xE 119915 1129 "d",xE 119916 1132 "e",xE 119917 1135 "f",xE 119918 1138 "g",xE 119919 1141 "h",xE 119920 1144 "i",xE 119921 1147 "j",xE 119922 1150 "k",xE 119923 1153 "l",xE 119924 1156 "m",xE 119925 1159 "n",xE 119926 1162 "o",xE 119927 1165 "p",xE 119928 1168 "q",xE 119929 1171 "r"]) 17)
noncomputable def zFx:Obj:=oqq "dict" (Be (BU [xE 119930 1174 "s",xE 119931 1177 "t",xE 119932 1180 "u",xE 119933 1183 "v",xE 119934 1186 "w",xE 119935 1189 "x",xE 119936 1192 "y",xE 119937 1195 "z",xE 119964 1198 "a",xE 119966 1201 "c",xE 119967 1204 "d",xE 119970 1207 "g",xE 119973 1210 "j",xE 119974 1213 "k",xE 119977 1216 "n",xE 119978 1219 "o",xE 119979 1222 "p"]) 17)
noncomputable def zE4:Obj:=oqq "dict" (Be (BU [xE 119980 1225 "q",xE 119982 1228 "s",xE 119983 1231 "t",xE 119984 1234 "u",xE 119985 1237 "v",xE 119986 1240 "w",xE 119987 1243 "x",xE 119988 1246 "y",xE 119989 1249 "z",xE 120016 1252 "a",xE 120017 1255 "b",xE 120018 1258 "c",xE 120019 1261 "d",xE 120020 1264 "e",xE 120021 1267 "f",xE 120022 1270 "g",xE 120023 1273 "h"]) 17)
noncomputable def zFH:Obj:=oqq "dict" (Be (BU [xE 120024 1276 "i",xE 120025 1279 "j",xE 120026 1282 "k",xE 120027 1285 "l",xE 120028 1288 "m",xE 120029 1291 "n",xE 120030 1294 "o",xE 120031 1297 "p",xE 120032 1300 "q",xE 120033 1303 "r",xE 120034 1306 "s",xE 120035 1309 "t",xE 120036 1312 "u",xE 120037 1315 "v",xE 120038 1318 "w",xE 120039 1321 "x",xE 120040 1324 "y"]) 17)
noncomputable def zFv:Obj:=oqq "dict" (Be (BU [xE 120041 1327 "z",xE 120068 1330 "a",xE 120069 1333 "b",xE 120071 1336 "d",xE 120072 1339 "e",xE 120073 1342 "f",xE 120074 1345 "g",xE 120077 1348 "j",xE 120078 1351 "k",xE 120079 1354 "l",xE 120080 1357 "m",xE 120081 1360 "n",xE 120082 1363 "o",xE 120083 1366 "p",xE 120084 1369 "q",xE 120086 1372 "s",xE 120087 1375 "t"]) 17)
noncomputable def zFJ:Obj:=oqq "dict" (Be (BU [xE 120088 1378 "u",xE 120089 1381 "v",xE 120090 1384 "w",xE 120091 1387 "x",xE 120092 1390 "y",xE 120120 1393 "a",xE 120121 1396 "b",xE 120123 1399 "d",xE 120124 1402 "e",xE 120125 1405 "f",xE 120126 1408 "g",xE 120128 1411 "i",xE 120129 1414 "j",xE 120130 1417 "k",xE 120131 1420 "l",xE 120132 1423 "m",xE 120134 1426 "o"]) 17)
noncomputable def zFq:Obj:=oqq "dict" (Be (BU [xE 120138 1429 "s",xE 120139 1432 "t",xE 120140 1435 "u",xE 120141 1438 "v",xE 120142 1441 "w",xE 120143 1444 "x",xE 120144 1447 "y",xE 120172 1450 "a",xE 120173 1453 "b",xE 120174 1456 "c",xE 120175 1459 "d",xE 120176 1462 "e",xE 120177 1465 "f",xE 120178 1468 "g",xE 120179 1471 "h",xE 120180 1474 "i",xE 120181 1477 "j"]) 17)
noncomputable def zFm:Obj:=oqq "dict" (Be (BU [xE 120182 1480 "k",xE 120183 1483 "l",xE 120184 1486 "m",xE 120185 1489 "n",xE 120186 1492 "o",xE 120187 1495 "p",xE 120188 1498 "q",xE 120189 1501 "r",xE 120190 1504 "s",xE 120191 1507 "t",xE 120192 1510 "u",xE 120193 1513 "v",xE 120194 1516 "w",xE 120195 1519 "x",xE 120196 1522 "y",xE 120197 1525 "z",xE 120224 1528 "a"]) 17)
noncomputable def zEJ:Obj:=oqq "dict" (Be (BU [xE 120225 1531 "b",xE 120226 1534 "c",xE 120227 1537 "d",xE 120228 1540 "e",xE 120229 1543 "f",xE 120230 1546 "g",xE 120231 1549 "h",xE 120232 1552 "i",xE 120233 1555 "j",xE 120234 1558 "k",xE 120235 1561 "l",xE 120236 1564 "m",xE 120237 1567 "n",xE 120238 1570 "o",xE 120239 1573 "p",xE 120240 1576 "q",xE 120241 1579 "r"]) 17)
noncomputable def zFb:Obj:=oqq "dict" (Be (BU [xE 120242 1582 "s",xE 120243 1585 "t",xE 120244 1588 "u",xE 120245 1591 "v",xE 120246 1594 "w",xE 120247 1597 "x",xE 120248 1600 "y",xE 120249 1603 "z",xE 120276 1606 "a",xE 120277 1609 "b",xE 120278 1612 "c",xE 120279 1615 "d",xE 120280 1618 "e",xE 120281 1621 "f",xE 120282 1624 "g",xE 120283 1627 "h",xE 120284 1630 "i"]) 17)
noncomputable def zEG:Obj:=oqq "dict" (Be (BU [xE 120285 1633 "j",xE 120286 1636 "k",xE 120287 1639 "l",xE 120288 1642 "m",xE 120289 1645 "n",xE 120290 1648 "o",xE 120291 1651 "p",xE 120292 1654 "q",xE 120293 1657 "r",xE 120294 1660 "s",xE 120295 1663 "t",xE 120296 1666 "u",xE 120297 1669 "v",xE 120298 1672 "w",xE 120299 1675 "x",xE 120300 1678 "y",xE 120301 1681 "z"]) 17)
noncomputable def zEP:Obj:=oqq "dict" (Be (BU [xE 120328 1684 "a",xE 120329 1687 "b",xE 120330 1690 "c",xE 120331 1693 "d",xE 120332 1696 "e",xE 120333 1699 "f",xE 120334 1702 "g",xE 120335 1705 "h",xE 120336 1708 "i",xE 120337 1711 "j",xE 120338 1714 "k",xE 120339 1717 "l",xE 120340 1720 "m",xE 120341 1723 "n",xE 120342 1726 "o",xE 120343 1729 "p",xE 120344 1732 "q"]) 17)
noncomputable def zFd:Obj:=oqq "dict" (Be (BU [xE 120345 1735 "r",xE 120346 1738 "s",xE 120347 1741 "t",xE 120348 1744 "u",xE 120349 1747 "v",xE 120350 1750 "w",xE 120351 1753 "x",xE 120352 1756 "y",xE 120353 1759 "z",xE 120380 1762 "a",xE 120381 1765 "b",xE 120382 1768 "c",xE 120383 1771 "d",xE 120384 1774 "e",xE 120385 1777 "f",xE 120386 1780 "g",xE 120387 1783 "h"]) 17)
noncomputable def zFw:Obj:=oqq "dict" (Be (BU [xE 120388 1786 "i",xE 120389 1789 "j",xE 120390 1792 "k",xE 120391 1795 "l",xE 120392 1798 "m",xE 120393 1801 "n",xE 120394 1804 "o",xE 120395 1807 "p",xE 120396 1810 "q",xE 120397 1813 "r",xE 120398 1816 "s",xE 120399 1819 "t",xE 120400 1822 "u",xE 120401 1825 "v",xE 120402 1828 "w",xE 120403 1831 "x",xE 120404 1834 "y"]) 17)
noncomputable def zER:Obj:=oqq "dict" (Be (BU [xE 120405 1837 "z",xE 120432 1840 "a",xE 120433 1843 "b",xE 120434 1846 "c",xE 120435 1849 "d",xE 120436 1852 "e",xE 120437 1855 "f",xE 120438 1858 "g",xE 120439 1861 "h",xE 120440 1864 "i",xE 120441 1867 "j",xE 120442 1870 "k",xE 120443 1873 "l",xE 120444 1876 "m",xE 120445 1879 "n",xE 120446 1882 "o",xE 120447 1885 "p"]) 17)
noncomputable def zEF:Obj:=oqq "dict" (Be (BU [xE 120448 1888 "q",xE 120449 1891 "r",xE 120450 1894 "s",xE 120451 1897 "t",xE 120452 1900 "u",xE 120453 1903 "v",xE 120454 1906 "w",xE 120455 1909 "x",xE 120456 1912 "y",xE 120457 1915 "z",xE 120488 1918 "α",xE 120489 1921 "β",xE 120490 1924 "γ",xE 120491 1927 "δ",xE 120492 1930 "ε",xE 120493 1933 "ζ",xE 120494 1936 "η"]) 17)
noncomputable def zFr:Obj:=oqq "dict" (Be (BU [xE 120495 1939 "θ",xE 120496 1942 "ι",xE 120497 1945 "κ",xE 120498 1948 "λ",xE 120499 1951 "μ",xE 120500 1954 "ν",xE 120501 1957 "ξ",xE 120502 1960 "ο",xE 120503 1963 "π",xE 120504 1966 "ρ",xE 120505 1969 "θ",xE 120506 1972 "σ",xE 120507 1975 "τ",xE 120508 1978 "υ",xE 120509 1981 "φ",xE 120510 1984 "χ",xE 120511 1987 "ψ"]) 17)
noncomputable def zE1:Obj:=oqq "dict" (Be (BU [xE 120512 1990 "ω",xE 120531 1993 "σ",xE 120546 1996 "α",xE 120547 1999 "β",xE 120548 2002 "γ",xE 120549 2005 "δ",xE 120550 2008 "ε",xE 120551 2011 "ζ",xE 120552 2014 "η",xE 120553 2017 "θ",xE 120554 2020 "ι",xE 120555 2023 "κ",xE 120556 2026 "λ",xE 120557 2029 "μ",xE 120558 2032 "ν",xE 120559 2035 "ξ",xE 120560 2038 "ο"]) 17)
noncomputable def zEM:Obj:=oqq "dict" (Be (BU [xE 120561 2041 "π",xE 120562 2044 "ρ",xE 120563 2047 "θ",xE 120564 2050 "σ",xE 120565 2053 "τ",xE 120566 2056 "υ",xE 120567 2059 "φ",xE 120568 2062 "χ",xE 120569 2065 "ψ",xE 120570 2068 "ω",xE 120589 2071 "σ",xE 120604 2074 "α",xE 120605 2077 "β",xE 120606 2080 "γ",xE 120607 2083 "δ",xE 120608 2086 "ε",xE 120609 2089 "ζ"]) 17)
noncomputable def zEW:Obj:=oqq "dict" (Be (BU [xE 120610 2092 "η",xE 120611 2095 "θ",xE 120612 2098 "ι",xE 120613 2101 "κ",xE 120614 2104 "λ",xE 120615 2107 "μ",xE 120616 2110 "ν",xE 120617 2113 "ξ",xE 120618 2116 "ο",xE 120619 2119 "π",xE 120620 2122 "ρ",xE 120621 2125 "θ",xE 120622 2128 "σ",xE 120623 2131 "τ",xE 120624 2134 "υ",xE 120625 2137 "φ",xE 120626 2140 "χ"]) 17)
noncomputable def zE8:Obj:=oqq "dict" (Be (BU [xE 120627 2143 "ψ",xE 120628 2146 "ω",xE 120647 2149 "σ",xE 120662 2152 "α",xE 120663 2155 "β",xE 120664 2158 "γ",xE 120665 2161 "δ",xE 120666 2164 "ε",xE 120667 2167 "ζ",xE 120668 2170 "η",xE 120669 2173 "θ",xE 120670 2176 "ι",xE 120671 2179 "κ",xE 120672 2182 "λ",xE 120673 2185 "μ",xE 120674 2188 "ν",xE 120675 2191 "ξ"]) 17)
noncomputable def zFc:Obj:=oqq "dict" (Be (BU [xE 120676 2194 "ο",xE 120677 2197 "π",xE 120678 2200 "ρ",xE 120679 2203 "θ",xE 120680 2206 "σ",xE 120681 2209 "τ",xE 120682 2212 "υ",xE 120683 2215 "φ",xE 120684 2218 "χ",xE 120685 2221 "ψ",xE 120686 2224 "ω",xE 120705 2227 "σ",xE 120720 2230 "α",xE 120721 2233 "β",xE 120722 2236 "γ",xE 120723 2239 "δ",xE 120724 2242 "ε"]) 17)
noncomputable def zEX:Obj:=oqq "dict" (Be (BU [xE 120725 2245 "ζ",xE 120726 2248 "η",xE 120727 2251 "θ",xE 120728 2254 "ι",xE 120729 2257 "κ",xE 120730 2260 "λ",xE 120731 2263 "μ",xE 120732 2266 "ν",xE 120733 2269 "ξ",xE 120734 2272 "ο",xE 120735 2275 "π",xE 120736 2278 "ρ",xE 120737 2281 "θ",xE 120738 2284 "σ",xE 120739 2287 "τ",xE 120740 2290 "υ",xE 120741 2293 "φ"]) 17)
noncomputable def zEN:Obj:=oqq "dict" (Be (BU [xE 120742 2296 "χ",xE 120743 2298 "ψ",xE 120744 2300 "ω",xE 120763 2302 "σ"]) 4)
noncomputable def t2(b:Bool)(P:Params):BT:=(nD (tp1 P) (nD (tp2 P) (nD (yC4 P) (nD (tp8 P) (nD (zCE P) (nD (zEl P) (lF zEB) (lF zEN)) (nD zB2 (lF zFm) eT)) (nD (zCh P) (nD zBV (lF zE0) eT) (nD zB5 (lF zEF) eT))) (nD (zDu P) (nD (zCB P) (nD zB (lF zFA) eT) (nD zH (lF zEP) eT)) (nD (zCq P) (nD zB (lF zFH) eT) (nD zEQ (lF zEW) eT)))) (nD (tp6 P) (nD (zCk P) (nD (zCs P) (nD zH (lF zFl) eT) (nD zBY (lF zFb) eT)) (nD (zCA P) (nD zB3 (lF zFx) eT) (nD (uO b P) (lF zE1) eT))) (nD (zCz P) (nD (zCD P) (nD zAt (lF zFa) eT) (nD zB (lF zFw) eT)) (nD zPM (nD zBZ (lF zFJ) eT) (nD zEO (lF zFc) eT))))) (nD (tp3 P) (nD (tp5 P) (nD (tp9 P) (nD (zCe P) (nD zB (lF zFM) eT) (nD zB (lF zEJ) eT)) (nD (zCp P) (nD zB6 (lF zFg) eT) (nD zBh (lF zFr) eT))) (nD (zCy P) (nD (zCt P) (nD zBj (lF zE6) eT) (nD zDm (lF zFd) eT)) (nD (zEk P) (nD zCa (lF zFv) eT) (nD zEC (lF zE8) eT)))) (nD (tp7 P) (nD (zCn P) (nD (zCo P) (nD zA2 (lF zFE) eT) (nD zB (lF zEG) eT)) (nD (zCj P) (nD zB9 (lF zE4) eT) (nD zEz (lF zEM) eT))) (nD (zCg P) (nD (zCi P) (nD zAs (lF zFD) eT) (nD zC7 (lF zER) eT)) (nD (zEn P) (nD (uF b P) (lF zFq) eT) (nD zES (lF zEX) eT))))))
noncomputable def yDA(P:Params):Obj:=oqq "dict" (Be (BU [fE P "__name__" 165 (wV "cpy313.netrc" 2317),fE P "__doc__" 166 N,fE P "__package__" 167 N,fE P "__loader__" 168 (B "__main__.__loader__#\x6fpaque"),fE P "__spec__" 169 N,fE P "__annotations__" 170 (R 6),fE P "__builtins__" 171 (R 4),fE P "__file__" 173 (wcp 172),fE P "__cached__" 174 N,fE P "_sre" 275 (R 12),fE P "_wall" 288 (R 38),fE P "b1_set" 350 (R 46),fE P "in_table_b1" 357 (R 56),fE P "b3_exceptions" 2308 (R 57),fE P "map_table_b3" 2316 (R 102),fE P "_netrclex" 2376 (R 140),fE P "LPAR" 2378 (I 7 2377),fE P "RPAR" 2380 (I 8 2379),fE P "LSQB" 2382 (I 9 2381),fE P "RSQB" 2384 (I 10 2383),fE P "COLON" 2386 (I 11 2385),fE P "COMMA" 2388 (I 12 2387),fE P "SEMI" 2390 (I 13 2389),fE P "PLUS" 2392 (I 14 2391),fE P "MINUS" 2394 (I 15 2393),fE P "STAR" 2396 (I 16 2395),fE P "SLASH" 2398 (I 17 2397),fE P "VBAR" 2400 (I 18 2399),fE P "AMPER" 2402 (I 19 2401),fE P "LESS" 2404 (I 20 2403),fE P "GREATER" 2406 (I 21 2405),fE P "EQUAL" 2408 (I 22 2407),fE P "DOT" 2410 (I 23 2409),fE P "PERCENT" 2412 (I 24 2411),fE P "LBRACE" 2414 (I 25 2413),fE P "RBRACE" 2416 (I 26 2415),fE P "EQEQUAL" 2418 (I 27 2417),fE P "NOTEQUAL" 2420 (I 28 2419),fE P "LESSEQUAL" 2422 (I 29 2421),fE P "GREATEREQUAL" 2424 (I 30 2423),fE P "TILDE" 2426 (I 31 2425),fE P "CIRCUMFLEX" 2428 (I 32 2427),fE P "LEFTSHIFT" 2430 (I 33 2429),fE P "RIGHTSHIFT" 2432 (I 34 2431),fE P "DOUBLESTAR" 2434 (I 35 2433),fE P "PLUSEQUAL" 2436 (I 36 2435),fE P "MINEQUAL" 2438 (I 37 2437),fE P "STAREQUAL" 2440 (I 38 2439),fE P "SLASHEQUAL" 2442 (I 39 2441),fE P "PERCENTEQUAL" 2444 (I 40 2443),fE P "AMPEREQUAL" 2446 (I 41 2445),fE P "VBAREQUAL" 2448 (I 42 2447),fE P "CIRCUMFLEXEQUAL" 2450 (I 43 2449),fE P "LEFTSHIFTEQUAL" 2452 (I 44 2451),fE P "RIGHTSHIFTEQUAL" 2454 (I 45 2453),fE P "DOUBLESTAREQUAL" 2456 (I 46 2455),fE P "DOUBLESLASH" 2458 (I 47 2457),fE P "DOUBLESLASHEQUAL" 2460 (I 48 2459),fE P "AT" 2462 (I 49 2461),fE P "ATEQUAL" 2464 (I 50 2463),fE P "RARROW" 2466 (I 51 2465),fE P "ELLIPSIS" 2468 (I 52 2467),fE P "COLONEQUAL" 2470 (I 53 2469),fE P "EXCLAMATION" 2472 (I 54 2471)]) 64)
noncomputable def zU2:Obj:=⟨N,none,BS #[I 2 0,I 0 0,R 37,I 7 0,I 0 0,R 55,I 10 0,I 0 0,R 101,I 16 0,I 0 0,R 108],#[]⟩
noncomputable def zK5:Obj:=oqq "tuple" (Bt #[wV "code" 2312,wV "r" 2313] 0)
noncomputable def zG5:Obj:=⟨N,none,Bb (fn (st 6) (S "map_table_b3") 0 [] N N N N none N N 0),#[]⟩
noncomputable def zC9:Obj:=oqq "code" (BS #[wV "map_table_b3" 2309,wV "map_table_b3" 2310,wcp 2311,I 10 0,I 1 0,I 0 0,I 0 0,I 3 0,R 96,BX true,I 276 0,R 97,N,R 98,R 99,R 100,I 2314 0,I 10 0,wcp 2315])
noncomputable def zBs:Obj:=oqq "function" (Bb (fn (st 6) (S "map_table_b3") 3 [] N N N (wV "cpy313.stringprep" 289) none (R 101) N 0))
noncomputable def zDD:Obj:=oqq "builtin_function_or_method" (BS #[B "type.__prepare__",Y "type"])
noncomputable def zGm(P:Params):Obj:=oqq "dict" (Be (BU [fE P "__module__" 2326 (wV "cpy313.netrc" 2317),fE P "__qualname__" 2328 (wV "_netrclex" 2327),fE P "__firstlineno__" 2330 (I 16 2329),fE P "__init__" 2338 (R 116),fE P "_read_char" 2346 (R 123),fE P "get_token" 2356 (R 130),fE P "push_token" 2364 (R 137),fE P "__static_attributes__" 2369 (R 138)]) 8)
noncomputable def zGT:Obj:=⟨N,none,BS #[I 18 0,I 4 0,R 115,I 24 0,I 4 0,R 122,I 30 0,I 4 0,R 129,I 57 0,I 4 0,R 136],#[]⟩
noncomputable def zGd:Obj:=oqq "code" (BS #[wV "_netrclex" 2321,wV "_netrclex" 2322,wcp 2323,I 16 0,I 0 0,I 0 0,I 0 0,I 0 0,R 106,BX false,I 276 0,R 107,N,N,N,N,I 2324 0,I 16 0,wcp 2325])
noncomputable def zGa:Obj:=⟨Y "frame",none,Data.plain,#[some (R 108),some (R 3),some (R 105),none,some (wV "cpy313.netrc" 2317),none,some (R 0)]⟩
noncomputable def zGb:Obj:=oqq "tuple" (Bt #[wV "self" 2334,wV "fp" 2335] 0)
noncomputable def zGx:Obj:=⟨N,none,Bb (fn (sub (st 8) 0) (S "_netrclex.__init__") 0 [] N N N N none N N 0),#[]⟩
noncomputable def zDF:Obj:=oqq "code" (BS #[wV "__init__" 2331,wV "_netrclex.__init__" 2332,wcp 2333,I 18 0,I 2 0,I 0 0,I 0 0,I 3 0,R 110,BX true,I 276 0,R 111,N,R 112,R 113,R 114,I 2336 0,I 18 0,wcp 2337])
noncomputable def zBv:Obj:=oqq "function" (Bb (fn (sub (st 8) 0) (S "_netrclex.__init__") 3 [] N N N (wV "cpy313.netrc" 2317) none (R 115) N 0))
noncomputable def zF6:Obj:=oqq "tuple" (Bt #[wV "self" 2342,wV "ch" 2343] 0)
noncomputable def zFQ:Obj:=⟨N,none,Bb (fn (sub (st 8) 1) (S "_netrclex._read_char") 0 [] N N N N none N N 0),#[]⟩
noncomputable def zEc:Obj:=oqq "code" (BS #[wV "_read_char" 2339,wV "_netrclex._read_char" 2340,wcp 2341,I 24 0,I 1 0,I 0 0,I 0 0,I 3 0,R 117,BX true,I 276 0,R 118,N,R 119,R 120,R 121,I 2344 0,I 24 0,wcp 2345])
noncomputable def zBC:Obj:=oqq "function" (Bb (fn (sub (st 8) 1) (S "_netrclex._read_char") 3 [] N N N (wV "cpy313.netrc" 2317) none (R 122) N 0))
noncomputable def zGZ:Obj:=oqq "tuple" (Bt #[wV "self" 2350,wV "token" 2351,wV "fiter" 2352,wV "ch" 2353] 0)
noncomputable def zF1:Obj:=⟨N,none,Bb (fn (sub (st 8) 2) (S "_netrclex.get_token") 0 [] N N N N none N N 0),#[]⟩
noncomputable def zDb:Obj:=oqq "code" (BS #[wV "get_token" 2347,wV "_netrclex.get_token" 2348,wcp 2349,I 30 0,I 1 0,I 0 0,I 0 0,I 3 0,R 124,BX true,I 276 0,R 125,N,R 126,R 127,R 128,I 2354 0,I 30 0,wcp 2355])
noncomputable def zAL:Obj:=oqq "function" (Bb (fn (sub (st 8) 2) (S "_netrclex.get_token") 3 [] N N N (wV "cpy313.netrc" 2317) none (R 129) N 0))
noncomputable def zG1:Obj:=oqq "tuple" (Bt #[wV "self" 2360,wV "token" 2361] 0)
noncomputable def zF5:Obj:=⟨N,none,Bb (fn (sub (st 8) 3) (S "_netrclex.push_token") 0 [] N N N N none N N 0),#[]⟩
noncomputable def zDz:Obj:=oqq "code" (BS #[wV "push_token" 2357,wV "_netrclex.push_token" 2358,wcp 2359,I 57 0,I 2 0,I 0 0,I 0 0,I 3 0,R 131,BX true,I 276 0,R 132,N,R 133,R 134,R 135,I 2362 0,I 57 0,wcp 2363])
noncomputable def zBQ:Obj:=oqq "function" (Bb (fn (sub (st 8) 3) (S "_netrclex.push_token") 3 [] N N N (wV "cpy313.netrc" 2317) none (R 136) N 0))
noncomputable def zGj:Obj:=oqq "tuple" (Bt #[wV "instream" 2365,wV "lineno" 2366,wV "pushback" 2367,wV "whitespace" 2368] 0)
noncomputable def zDV(P:Params):Obj:=oqq "dict" (Be (BU [fE P "__module__" 2326 (wV "cpy313.netrc" 2317),fE P "__firstlineno__" 2330 (I 16 2329),fE P "__init__" 2338 (R 116),fE P "_read_char" 2346 (R 123),fE P "get_token" 2356 (R 130),fE P "push_token" 2364 (R 137),fE P "__static_attributes__" 2369 (R 138),fE P "__dict__" 2371 (R 141),fE P "__weakref__" 2373 (R 142),fE P "__doc__" 2374 N]) 4)
noncomputable def zD1:Obj:=⟨Y "type",none,Data.cls {name:=(S "_netrclex"),bases:=[Y "object"],mro:=[R 140,Y "object"],ns:=139,qualname:=(S "_netrclex"),hasDict:=true,slotNames:=[],subclasses:=[],abstract:=false,collection:=none,hasDel:=false},#[none,none,some (wV "_netrclex" 2319),some (wV "_netrclex" 2327),some (B "object.__new__"),some (BX true)]⟩
noncomputable def zHc:Obj:=oqq "getset_descriptor" (BS #[wV "__dict__" 2370,R 140,B "function.__dict__",B "function.__dict__#set"])
noncomputable def zFT:Obj:=oqq "getset_descriptor" (BS #[wV "__weakref__" 2372,R 140,B "ExceptionGroup.__weakref__",N])
noncomputable def zGe:Obj:=oqq "super" (BS #[R 140,R 140,R 140])
noncomputable def zG0:Obj:=oqq "builtin_function_or_method" (BS #[B "object.__init_subclass__",R 140])
noncomputable def t3(b:Bool)(P:Params):BT:=(nD (tp1 P) (nD (tp2 P) (nD (yDA P) (nD (tp8 P) (nD (zCE P) (nD (zEl P) (nD zEB (lF zB) eT) (lF zEN)) (nD zB2 (nD zFm (lF zGe) eT) (lF zH))) (nD (zCh P) (nD zBV (nD zE0 (lF zF5) eT) (lF zB)) (nD zB5 (lF zEF) (lF zF6)))) (nD (zDu P) (nD (zCB P) (nD zB (nD zFA (lF zB) eT) (lF zB)) (nD zH (lF zEP) (lF zDF))) (nD (zCq P) (nD zB (nD zFH (lF (zDV P)) eT) (lF zGT)) (nD zEQ (lF zEW) (lF zBC))))) (nD (tp6 P) (nD (zCk P) (nD (zCs P) (nD zH (nD zFl (lF zDb) eT) (lF zH)) (nD zBY (lF zFb) (lF zB))) (nD (zCA P) (nD zB3 (nD zFx (lF zBQ) eT) (lF (zGm P))) (nD (uO b P) (lF zE1) (lF zFQ)))) (nD (zCz P) (nD (zCD P) (nD zAt (nD zFa (lF zG1) eT) (lF zC9)) (nD zB (lF zFw) (lF zB))) (nD zU2 (nD zBZ (nD zFJ (lF zHc) eT) (lF zGa)) (nD zEO (lF zFc) (lF zH)))))) (nD (tp3 P) (nD (tp5 P) (nD (tp9 P) (nD (zCe P) (nD zB (nD zFM (lF zF1) eT) (lF zB)) (nD zB (nD zEJ (lF zG0) eT) (lF zGb))) (nD (zCp P) (nD zB6 (nD zFg (lF zDz) eT) (lF zDD)) (nD zBh (lF zFr) (lF zB)))) (nD (zCy P) (nD (zCt P) (nD zBj (nD zE6 (lF zH) eT) (lF zG5)) (nD zDm (lF zFd) (lF zBv))) (nD (zEk P) (nD zCa (nD zFv (lF zD1) eT) (lF zGd)) (nD zEC (lF zE8) (lF zB))))) (nD (tp7 P) (nD (zCn P) (nD (zCo P) (nD zA2 (nD zFE (lF zAL) eT) (lF zK5)) (nD zB (lF zEG) (lF zGx))) (nD (zCj P) (nD zB9 (nD zE4 (lF zGj) eT) (lF zB)) (nD zEz (lF zEM) (lF zEc)))) (nD (zCg P) (nD (zCi P) (nD zAs (nD zFD (lF zB) eT) (lF zBs)) (nD zC7 (lF zER) (lF zH))) (nD (zEn P) (nD (uF b P) (nD zFq (lF zFT) eT) (lF zB)) (nD zES (lF zEX) (lF zGZ)))))))
noncomputable def yBa:List Stmt:=[st 6,st 7,st 8,st 9,st 10,st 11,st 12,st 13,st 14,st 15,st 16,st 17,st 18,st 19,st 20,st 21,st 22,st 23,st 24,st 25,st 26,st 27,st 28,st 29,st 30,st 31,st 32,st 33,st 34,st 35,st 36,st 37,st 38,st 39,st 40,st 41,st 42,st 43,st 44,st 45,st 46,st 47,st 48,st 49,st 50,st 51,st 52,st 53,st 54,st 55,st 56]
theorem g3(b:Bool)(w:World)(os:OsState):segRunT treeTable pw w 28 ann 1 795 (sh (t2 b w.params) 96 2309 os) (piecesOf yBa top.env_1 cdE ⟨9,0,9,13⟩ fr0)=some (.next,sh (t3 b w.params) 145 2473 os,cdE,⟨106,0,106,11⟩):=zD7 (by kernel_rfl)
noncomputable def yCG(P:Params):Obj:=oqq "dict" (Be (BU [fE P "__name__" 165 (wV "cpy313.netrc" 2317),fE P "__doc__" 166 N,fE P "__package__" 167 N,fE P "__loader__" 168 (B "__main__.__loader__#\x6fpaque"),fE P "__spec__" 169 N,fE P "__annotations__" 170 (R 6),fE P "__builtins__" 171 (R 4),fE P "__file__" 173 (wcp 172),fE P "__cached__" 174 N,fE P "_sre" 275 (R 12),fE P "_wall" 288 (R 38),fE P "b1_set" 350 (R 46),fE P "in_table_b1" 357 (R 56),fE P "b3_exceptions" 2308 (R 57),fE P "map_table_b3" 2316 (R 102),fE P "_netrclex" 2376 (R 140),fE P "LPAR" 2378 (I 7 2377),fE P "RPAR" 2380 (I 8 2379),fE P "LSQB" 2382 (I 9 2381),fE P "RSQB" 2384 (I 10 2383),fE P "COLON" 2386 (I 11 2385),fE P "COMMA" 2388 (I 12 2387),fE P "SEMI" 2390 (I 13 2389),fE P "PLUS" 2392 (I 14 2391),fE P "MINUS" 2394 (I 15 2393),fE P "STAR" 2396 (I 16 2395),fE P "SLASH" 2398 (I 17 2397),fE P "VBAR" 2400 (I 18 2399),fE P "AMPER" 2402 (I 19 2401),fE P "LESS" 2404 (I 20 2403),fE P "GREATER" 2406 (I 21 2405),fE P "EQUAL" 2408 (I 22 2407),fE P "DOT" 2410 (I 23 2409),fE P "PERCENT" 2412 (I 24 2411),fE P "LBRACE" 2414 (I 25 2413),fE P "RBRACE" 2416 (I 26 2415),fE P "EQEQUAL" 2418 (I 27 2417),fE P "NOTEQUAL" 2420 (I 28 2419),fE P "LESSEQUAL" 2422 (I 29 2421),fE P "GREATEREQUAL" 2424 (I 30 2423),fE P "TILDE" 2426 (I 31 2425),fE P "CIRCUMFLEX" 2428 (I 32 2427),fE P "LEFTSHIFT" 2430 (I 33 2429),fE P "RIGHTSHIFT" 2432 (I 34 2431),fE P "DOUBLESTAR" 2434 (I 35 2433),fE P "PLUSEQUAL" 2436 (I 36 2435),fE P "MINEQUAL" 2438 (I 37 2437),fE P "STAREQUAL" 2440 (I 38 2439),fE P "SLASHEQUAL" 2442 (I 39 2441),fE P "PERCENTEQUAL" 2444 (I 40 2443),fE P "AMPEREQUAL" 2446 (I 41 2445),fE P "VBAREQUAL" 2448 (I 42 2447),fE P "CIRCUMFLEXEQUAL" 2450 (I 43 2449),fE P "LEFTSHIFTEQUAL" 2452 (I 44 2451),fE P "RIGHTSHIFTEQUAL" 2454 (I 45 2453),fE P "DOUBLESTAREQUAL" 2456 (I 46 2455),fE P "DOUBLESLASH" 2458 (I 47 2457),fE P "DOUBLESLASHEQUAL" 2460 (I 48 2459),fE P "AT" 2462 (I 49 2461),fE P "ATEQUAL" 2464 (I 50 2463),fE P "RARROW" 2466 (I 51 2465),fE P "ELLIPSIS" 2468 (I 52 2467),fE P "COLONEQUAL" 2470 (I 53 2469),fE P "EXCLAMATION" 2472 (I 54 2471),fE P "EXACT_TOKEN_TYPES" 2569 (R 145)]) 65)
noncomputable def vM(b:Bool)(P:Params):Obj:=oqq "dict" (Be (BU [fE P "!" 2473 (I 54 2471),fE P "!=" 2475 (I 28 2419),fE P "%" 2477 (I 24 2411),fE P "%=" 2479 (I 40 2443),fE P "&" 2481 (I 19 2401),fE P "&=" 2483 (I 41 2445),fE P "(" 2485 (I 7 2377),fE P ")" 2487 (I 8 2379),fE P "*" 2489 (I 16 2395),fE P "**" 2491 (I 35 2433),fE P "**=" 2493 (I 46 2455),fE P "*=" 2495 (I 38 2439),fE P "+" 2497 (I 14 2391),fE P "+=" 2499 (I 36 2435),fE P "," 2501 (I 12 2387),fE P "-" 2503 (I 15 2393),fE P "-=" 2505 (I 37 2437),fE P "->" 2507 (I 51 2465),fE P "." 2509 (I 23 2409),fE P "..." 2511 (I 52 2467),fE P "/" 2513 (I 17 2397),fE P "//" 2515 (I 47 2457),fE P "//=" 2517 (I 48 2459),fE P "/=" 2519 (I 39 2441),fE P ":" 2521 (I 11 2385),fE P ":=" 2523 (I 53 2469),fE P ";" 2525 (I 13 2389),fE P "<" 2527 (I 20 2403),fE P "<<" 2529 (I 33 2429),fE P "<<=" 2531 (I 44 2451),fE P "<=" 2533 (I 29 2421),fE P "=" 2535 (I 22 2407),fE P "==" 2537 (I 27 2417),fE P ">" 2539 (I 21 2405),fE P ">=" 2541 (I 30 2423),fE P ">>" 2542 (I 34 2431),fE P ">>=" 2543 (I 45 2453),fE P "@" 2544 (I 49 2461),fE P "@=" 2545 (I 50 2463),fE P "[" 2546 (I 9 2381),fE P "]" 2547 (I 10 2383),fE P "^" 2548 (I 32 2427),fE P "^=" 2549 (I 43 2449),fE P "{" 2550 (I 25 2413),fE P "|" 2551 (I 18 2399),fE P "|=" 2552 (I 42 2447),fE P "}" 2553 (I 26 2415),fE P "~" 2554 (I 31 2425)]) 48)
noncomputable def zJM(P:Params):Obj:=oqq "dict" (Be (BU [fE P "->" 2507 (I 51 2465),fE P "." 2509 (I 23 2409),fE P "..." 2511 (I 52 2467),fE P "/" 2513 (I 17 2397),fE P "//" 2515 (I 47 2457),fE P "//=" 2517 (I 48 2459),fE P "/=" 2519 (I 39 2441),fE P ":" 2521 (I 11 2385),fE P ":=" 2523 (I 53 2469),fE P ";" 2525 (I 13 2389),fE P "<" 2527 (I 20 2403),fE P "<<" 2529 (I 33 2429),fE P "<<=" 2531 (I 44 2451),fE P "<=" 2533 (I 29 2421),fE P "=" 2535 (I 22 2407),fE P "==" 2537 (I 27 2417),fE P ">" 2539 (I 21 2405)]) 17)
noncomputable def zKA(P:Params):Obj:=oqq "dict" (Be (BU [fE P ">=" 2541 (I 30 2423),fE P ">>" 2542 (I 34 2431),fE P ">>=" 2543 (I 45 2453),fE P "@" 2544 (I 49 2461),fE P "@=" 2545 (I 50 2463),fE P "[" 2546 (I 9 2381),fE P "]" 2547 (I 10 2383),fE P "^" 2548 (I 32 2427),fE P "^=" 2549 (I 43 2449),fE P "{" 2550 (I 25 2413),fE P "|" 2551 (I 18 2399),fE P "|=" 2552 (I 42 2447),fE P "}" 2553 (I 26 2415),fE P "~" 2554 (I 31 2425)]) 14)
noncomputable def t4(b:Bool)(P:Params):BT:=(nD (tp1 P) (nD (tp2 P) (nD (yCG P) (nD (tp8 P) (nD (zCE P) (nD (zEl P) (nD zEB (lF zB) eT) (lF zEN)) (nD zB2 (nD zFm (lF zGe) eT) (lF zH))) (nD (zCh P) (nD zBV (nD zE0 (lF zF5) eT) (lF zB)) (nD zB5 (lF zEF) (lF zF6)))) (nD (zDu P) (nD (zCB P) (nD zB (nD zFA (lF zB) eT) (lF zB)) (nD zH (nD zEP (lF (zKA P)) eT) (lF zDF))) (nD (zCq P) (nD zB (nD zFH (lF (zDV P)) eT) (lF zGT)) (nD zEQ (lF zEW) (lF zBC))))) (nD (tp6 P) (nD (zCk P) (nD (zCs P) (nD zH (nD zFl (lF zDb) eT) (lF zH)) (nD zBY (nD zFb (lF (vM b P)) eT) (lF zB))) (nD (zCA P) (nD zB3 (nD zFx (lF zBQ) eT) (lF (zGm P))) (nD (uO b P) (lF zE1) (lF zFQ)))) (nD (zCz P) (nD (zCD P) (nD zAt (nD zFa (lF zG1) eT) (lF zC9)) (nD zB (lF zFw) (lF zB))) (nD zU2 (nD zBZ (nD zFJ (lF zHc) eT) (lF zGa)) (nD zEO (lF zFc) (lF zH)))))) (nD (tp3 P) (nD (tp5 P) (nD (tp9 P) (nD (zCe P) (nD zB (nD zFM (lF zF1) eT) (lF zB)) (nD zB (nD zEJ (lF zG0) eT) (lF zGb))) (nD (zCp P) (nD zB6 (nD zFg (lF zDz) eT) (lF zDD)) (nD zBh (lF zFr) (lF zB)))) (nD (zCy P) (nD (zCt P) (nD zBj (nD zE6 (lF zH) eT) (lF zG5)) (nD zDm (lF zFd) (lF zBv))) (nD (zEk P) (nD zCa (nD zFv (lF zD1) eT) (lF zGd)) (nD zEC (lF zE8) (lF zB))))) (nD (tp7 P) (nD (zCn P) (nD (zCo P) (nD zA2 (nD zFE (lF zAL) eT) (lF zK5)) (nD zB (nD zEG (lF (zJM P)) eT) (lF zGx))) (nD (zCj P) (nD zB9 (nD zE4 (lF zGj) eT) (lF zB)) (nD zEz (lF zEM) (lF zEc)))) (nD (zCg P) (nD (zCi P) (nD zAs (nD zFD (lF zB) eT) (lF zBs)) (nD zC7 (lF zER) (lF zH))) (nD (zEn P) (nD (uF b P) (nD zFq (lF zFT) eT) (lF zB)) (nD zES (lF zEX) (lF zGZ)))))))
noncomputable def yAR:List Stmt:=[st 57]
noncomputable abbrev gPy(b:Bool)(w:World):Prop:=∀os:OsState,segRunT treeTable pw w 28 ann 1 979 (sh (t3 b w.params) 145 2473 os) (piecesOf yAR top.env_1 cdE ⟨106,0,106,11⟩ fr0)=some (.next,sh (t4 b w.params) 148 2570 os,cdE,⟨107,0,107,17⟩)
theorem yC8(b:Bool)(w:World):gPy b (w.withFollow "special-get-raises" false):=fun os=>zD7 (by kernel_rfl)
theorem yCT(b:Bool)(w:World):gPy b (w.withFollow "special-get-raises" true):=fun os=>zD7 (by kernel_rfl)
noncomputable def yCs(P:Params):Obj:=oqq "dict" (Be (BU [fE P "__name__" 165 (wV "cpy313.wsgiref.headers" 2570),fE P "__doc__" 166 N,fE P "__package__" 167 N,fE P "__loader__" 168 (B "__main__.__loader__#\x6fpaque"),fE P "__spec__" 169 N,fE P "__annotations__" 170 (R 6),fE P "__builtins__" 171 (R 4),fE P "__file__" 173 (wcp 172),fE P "__cached__" 174 N,fE P "_sre" 275 (R 12),fE P "_wall" 288 (R 38),fE P "b1_set" 350 (R 46),fE P "in_table_b1" 357 (R 56),fE P "b3_exceptions" 2308 (R 57),fE P "map_table_b3" 2316 (R 102),fE P "_netrclex" 2376 (R 140),fE P "LPAR" 2378 (I 7 2377),fE P "RPAR" 2380 (I 8 2379),fE P "LSQB" 2382 (I 9 2381),fE P "RSQB" 2384 (I 10 2383),fE P "COLON" 2386 (I 11 2385),fE P "COMMA" 2388 (I 12 2387),fE P "SEMI" 2390 (I 13 2389),fE P "PLUS" 2392 (I 14 2391),fE P "MINUS" 2394 (I 15 2393),fE P "STAR" 2396 (I 16 2395),fE P "SLASH" 2398 (I 17 2397),fE P "VBAR" 2400 (I 18 2399),fE P "AMPER" 2402 (I 19 2401),fE P "LESS" 2404 (I 20 2403),fE P "GREATER" 2406 (I 21 2405),fE P "EQUAL" 2408 (I 22 2407),fE P "DOT" 2410 (I 23 2409),fE P "PERCENT" 2412 (I 24 2411),fE P "LBRACE" 2414 (I 25 2413),fE P "RBRACE" 2416 (I 26 2415),fE P "EQEQUAL" 2418 (I 27 2417),fE P "NOTEQUAL" 2420 (I 28 2419),fE P "LESSEQUAL" 2422 (I 29 2421),fE P "GREATEREQUAL" 2424 (I 30 2423),fE P "TILDE" 2426 (I 31 2425),fE P "CIRCUMFLEX" 2428 (I 32 2427),fE P "LEFTSHIFT" 2430 (I 33 2429),fE P "RIGHTSHIFT" 2432 (I 34 2431),fE P "DOUBLESTAR" 2434 (I 35 2433),fE P "PLUSEQUAL" 2436 (I 36 2435),fE P "MINEQUAL" 2438 (I 37 2437),fE P "STAREQUAL" 2440 (I 38 2439),fE P "SLASHEQUAL" 2442 (I 39 2441),fE P "PERCENTEQUAL" 2444 (I 40 2443),fE P "AMPEREQUAL" 2446 (I 41 2445),fE P "VBAREQUAL" 2448 (I 42 2447),fE P "CIRCUMFLEXEQUAL" 2450 (I 43 2449),fE P "LEFTSHIFTEQUAL" 2452 (I 44 2451),fE P "RIGHTSHIFTEQUAL" 2454 (I 45 2453),fE P "DOUBLESTAREQUAL" 2456 (I 46 2455),fE P "DOUBLESLASH" 2458 (I 47 2457),fE P "DOUBLESLASHEQUAL" 2460 (I 48 2459),fE P "AT" 2462 (I 49 2461),fE P "ATEQUAL" 2464 (I 50 2463),fE P "RARROW" 2466 (I 51 2465),fE P "ELLIPSIS" 2468 (I 52 2467),fE P "COLONEQUAL" 2470 (I 53 2469),fE P "EXCLAMATION" 2472 (I 54 2471),fE P "EXACT_TOKEN_TYPES" 2569 (R 145),fE P "tspecials" 2605 (R 152),fE P "_name_disallowed_re" 2631 (R 157),fE P "_value_disallowed_re" 2665 (R 162),fE P "_formatparam" 2675 (R 170)]) 69)
noncomputable def yAU:Obj:=⟨N,none,BS #[I 2 0,I 0 0,R 37,I 7 0,I 0 0,R 55,I 10 0,I 0 0,R 101,I 16 0,I 0 0,R 108,I 112 0,I 0 0,R 169],#[]⟩
noncomputable def zRa:Obj:=oqq "list" (Bt #[I 14 2575,I 14 2576,I 4 2577,I 1 2578,I 1 2579,I 9 2580,I 0 2581,I 4227896069 2582,I 939524097 2583,I 0 2584,I 0 2585,I 0 2586,I 0 2587,I 0 2588,I 0 2589,I 13 2590,I 11 2591,I 9 2592,I 0 2593,I 4227896069 2594,I 939524097 2595,I 0 2596,I 0 2597,I 0 2598,I 0 2599,I 0 2600,I 0 2601,I 1 2602] 0)
noncomputable def zBP:Obj:=oqq "dict" (Be (BU []) 0)
noncomputable def wX:Obj:=oqq "tuple" (Bt #[N] 0)
noncomputable def zKs:Obj:=oqq "tuple" (Bt #[I 14 0,I 14 0,I 4 0,I 1 0,I 1 0,I 9 0,I 0 0,I 4227896069 0,I 939524097 0,I 0 0,I 0 0,I 0 0,I 0 0,I 0 0,I 0 0,I 13 0,I 11 0,I 9 0,I 0 0,I 4227896069 0,I 939524097 0,I 0 0,I 0 0,I 0 0,I 0 0,I 0 0,I 0 0,I 1 0] 0)
noncomputable def zJG:Obj:=oqq "re.Pattern" (BS #[wV "[ \\(\\)<>@,;:\\\\\"/\\[\\]\\?=]" 2573,I 32 2604,I 0 0,N,N,R 151,I 0 0])
noncomputable def zRs:Obj:=oqq "list" (Bt #[I 14 2609,I 10 2610,I 4 2611,I 1 2612,I 1 2613,I 22 2614,I 0 2615,I 31 2616,I 16 2617,I 127 2618,I 0 2619,I 13 2620,I 7 2621,I 22 2622,I 0 2623,I 31 2624,I 16 2625,I 127 2626,I 0 2627,I 1 2628] 0)
noncomputable def zHl:Obj:=oqq "tuple" (Bt #[I 14 0,I 10 0,I 4 0,I 1 0,I 1 0,I 22 0,I 0 0,I 31 0,I 16 0,I 127 0,I 0 0,I 13 0,I 7 0,I 22 0,I 0 0,I 31 0,I 16 0,I 127 0,I 0 0,I 1 0] 0)
noncomputable def zFZ:Obj:=oqq "re.Pattern" (BS #[wV "[\\x00-\\x1F\\x7F]" 2607,I 32 2630,I 0 0,N,N,R 156,I 0 0])
noncomputable def zQn:Obj:=oqq "list" (Bt #[I 14 2635,I 14 2636,I 4 2637,I 1 2638,I 1 2639,I 9 2640,I 4294966783 2641,I 0 2642,I 0 2643,I 2147483648 2644,I 0 2645,I 0 2646,I 0 2647,I 0 2648,I 0 2649,I 13 2650,I 11 2651,I 9 2652,I 4294966783 2653,I 0 2654,I 0 2655,I 2147483648 2656,I 0 2657,I 0 2658,I 0 2659,I 0 2660,I 0 2661,I 1 2662] 0)
noncomputable def zGJ:Obj:=oqq "tuple" (Bt #[I 14 0,I 14 0,I 4 0,I 1 0,I 1 0,I 9 0,I 4294966783 0,I 0 0,I 0 0,I 2147483648 0,I 0 0,I 0 0,I 0 0,I 0 0,I 0 0,I 13 0,I 11 0,I 9 0,I 4294966783 0,I 0 0,I 0 0,I 2147483648 0,I 0 0,I 0 0,I 0 0,I 0 0,I 0 0,I 1 0] 0)
noncomputable def zF8:Obj:=oqq "re.Pattern" (BS #[wV "[\\x00-\\x08\\x0A-\\x1F\\x7F]" 2633,I 32 2664,I 0 0,N,N,R 161,I 0 0])
noncomputable def zKq:Obj:=oqq "tuple" (Bt #[N,I 1 2666] 0)
noncomputable def zON:Obj:=oqq "tuple" (Bt #[wV "param" 2670,wV "value" 2671,wV "quote" 2672] 0)
noncomputable def zNA:Obj:=⟨N,none,Bb (fn (st 62) (S "_formatparam") 0 [] N N N N none N N 0),#[]⟩
noncomputable def zJh:Obj:=oqq "code" (BS #[wV "_formatparam" 2667,wV "_formatparam" 2668,wcp 2669,I 112 0,I 3 0,I 0 0,I 0 0,I 3 0,R 164,BX true,I 276 0,R 165,N,R 166,R 167,R 168,I 2673 0,I 112 0,wcp 2674])
noncomputable def zKj:Obj:=oqq "function" (Bb (fn (st 62) (S "_formatparam") 3 [] (R 163) N N (wV "cpy313.wsgiref.headers" 2570) none (R 169) N 0))
noncomputable def t5(b:Bool)(P:Params):BT:=(nD (tp1 P) (nD (tp2 P) (nD (yCs P) (nD (tp8 P) (nD (zCE P) (nD (zEl P) (nD zEB (lF zB) eT) (nD zEN (lF zBP) eT)) (nD zB2 (nD zFm (lF zGe) eT) (lF zH))) (nD (zCh P) (nD zBV (nD zE0 (lF zF5) eT) (nD zB (lF zB) eT)) (nD zB5 (nD zEF (lF zKs) eT) (lF zF6)))) (nD (zDu P) (nD (zCB P) (nD zB (nD zFA (lF zB) eT) (nD zB (lF zKq) eT)) (nD zH (nD zEP (lF (zKA P)) eT) (lF zDF))) (nD (zCq P) (nD zB (nD zFH (lF (zDV P)) eT) (lF zGT)) (nD zEQ (nD zEW (lF wX) eT) (lF zBC))))) (nD (tp6 P) (nD (zCk P) (nD (zCs P) (nD zH (nD zFl (lF zDb) eT) (nD zH (lF zGJ) eT)) (nD zBY (nD zFb (lF (vM b P)) eT) (lF zB))) (nD (zCA P) (nD zB3 (nD zFx (lF zBQ) eT) (nD (zGm P) (lF zJh) eT)) (nD (uO b P) (nD zE1 (lF zRs) eT) (lF zFQ)))) (nD (zCz P) (nD (zCD P) (nD zAt (nD zFa (lF zG1) eT) (nD zC9 (lF zH) eT)) (nD zB (nD zFw (lF zBP) eT) (lF zB))) (nD yAU (nD zBZ (nD zFJ (lF zHc) eT) (lF zGa)) (nD zEO (nD zFc (lF zFZ) eT) (lF zH)))))) (nD (tp3 P) (nD (tp5 P) (nD (tp9 P) (nD (zCe P) (nD zB (nD zFM (lF zF1) eT) (nD zB (lF wX) eT)) (nD zB (nD zEJ (lF zG0) eT) (lF zGb))) (nD (zCp P) (nD zB6 (nD zFg (lF zDz) eT) (nD zDD (lF zNA) eT)) (nD zBh (nD zFr (lF zJG) eT) (lF zB)))) (nD (zCy P) (nD (zCt P) (nD zBj (nD zE6 (lF zH) eT) (nD zG5 (lF zB) eT)) (nD zDm (nD zFd (lF zRa) eT) (lF zBv))) (nD (zEk P) (nD zCa (nD zFv (lF zD1) eT) (lF zGd)) (nD zEC (nD zE8 (lF zHl) eT) (lF zB))))) (nD (tp7 P) (nD (zCn P) (nD (zCo P) (nD zA2 (nD zFE (lF zAL) eT) (nD zK5 (lF zF8) eT)) (nD zB (nD zEG (lF (zJM P)) eT) (lF zGx))) (nD (zCj P) (nD zB9 (nD zE4 (lF zGj) eT) (nD zB (lF zKj) eT)) (nD zEz (nD zEM (lF zBP) eT) (lF zEc)))) (nD (zCg P) (nD (zCi P) (nD zAs (nD zFD (lF zB) eT) (nD zBs (lF zON) eT)) (nD zC7 (nD zER (lF wX) eT) (lF zH))) (nD (zEn P) (nD (uF b P) (nD zFq (lF zFT) eT) (lF zB)) (nD zES (nD zEX (lF zQn) eT) (lF zGZ)))))))
noncomputable def yBL:List Stmt:=[st 58,st 59,st 60,st 61,st 62]
theorem g5(b:Bool)(w:World)(os:OsState):segRunT treeTable pw w 28 ann 1 266 (sh (t4 b w.params) 148 2570 os) (piecesOf yBL top.env_1 cdE ⟨107,0,107,17⟩ fr0)=some (.next,sh (t5 b w.params) 171 2676 os,cdE,⟨112,0,120,20⟩):=zD7 (by kernel_rfl)
noncomputable def zHP(b:Bool)(P:Params):Obj:=oqq "dict" (Be (BU [fE P "__name__" 165 (wV "law_sh0076_03" 2833),fE P "__doc__" 166 N,fE P "__package__" 167 N,fE P "__loader__" 168 (B "__main__.__loader__#\x6fpaque"),fE P "__spec__" 169 N,fE P "__annotations__" 170 (R 6),fE P "__builtins__" 171 (R 4),fE P "__file__" 173 (wcp 172),fE P "__cached__" 174 N,fE P "_sre" 275 (R 12),fE P "_wall" 288 (R 38),fE P "b1_set" 350 (R 46),fE P "in_table_b1" 357 (R 56),fE P "b3_exceptions" 2308 (R 57),fE P "map_table_b3" 2316 (R 102),fE P "_netrclex" 2376 (R 140),fE P "LPAR" 2378 (I 7 2377),fE P "RPAR" 2380 (I 8 2379),fE P "LSQB" 2382 (I 9 2381),fE P "RSQB" 2384 (I 10 2383),fE P "COLON" 2386 (I 11 2385),fE P "COMMA" 2388 (I 12 2387),fE P "SEMI" 2390 (I 13 2389),fE P "PLUS" 2392 (I 14 2391),fE P "MINUS" 2394 (I 15 2393),fE P "STAR" 2396 (I 16 2395),fE P "SLASH" 2398 (I 17 2397),fE P "VBAR" 2400 (I 18 2399),fE P "AMPER" 2402 (I 19 2401),fE P "LESS" 2404 (I 20 2403),fE P "GREATER" 2406 (I 21 2405),fE P "EQUAL" 2408 (I 22 2407),fE P "DOT" 2410 (I 23 2409),fE P "PERCENT" 2412 (I 24 2411),fE P "LBRACE" 2414 (I 25 2413),fE P "RBRACE" 2416 (I 26 2415),fE P "EQEQUAL" 2418 (I 27 2417),fE P "NOTEQUAL" 2420 (I 28 2419),fE P "LESSEQUAL" 2422 (I 29 2421),fE P "GREATEREQUAL" 2424 (I 30 2423),fE P "TILDE" 2426 (I 31 2425),fE P "CIRCUMFLEX" 2428 (I 32 2427),fE P "LEFTSHIFT" 2430 (I 33 2429),fE P "RIGHTSHIFT" 2432 (I 34 2431),fE P "DOUBLESTAR" 2434 (I 35 2433),fE P "PLUSEQUAL" 2436 (I 36 2435),fE P "MINEQUAL" 2438 (I 37 2437),fE P "STAREQUAL" 2440 (I 38 2439),fE P "SLASHEQUAL" 2442 (I 39 2441),fE P "PERCENTEQUAL" 2444 (I 40 2443),fE P "AMPEREQUAL" 2446 (I 41 2445),fE P "VBAREQUAL" 2448 (I 42 2447),fE P "CIRCUMFLEXEQUAL" 2450 (I 43 2449),fE P "LEFTSHIFTEQUAL" 2452 (I 44 2451),fE P "RIGHTSHIFTEQUAL" 2454 (I 45 2453),fE P "DOUBLESTAREQUAL" 2456 (I 46 2455),fE P "DOUBLESLASH" 2458 (I 47 2457),fE P "DOUBLESLASHEQUAL" 2460 (I 48 2459),fE P "AT" 2462 (I 49 2461),fE P "ATEQUAL" 2464 (I 50 2463),fE P "RARROW" 2466 (I 51 2465),fE P "ELLIPSIS" 2468 (I 52 2467),fE P "COLONEQUAL" 2470 (I 53 2469),fE P "EXCLAMATION" 2472 (I 54 2471),fE P "EXACT_TOKEN_TYPES" 2569 (R 145),fE P "tspecials" 2605 (R 152),fE P "_name_disallowed_re" 2631 (R 157),fE P "_value_disallowed_re" 2665 (R 162),fE P "_formatparam" 2675 (R 170),fE P "Headers" 2832 (R 291),fE P "_law_cells" 2844 (R 302),fE P "_law_road" 2852 (R 309),fE P "_law_spelled" 2863 (R 316),fE P "_law_written" 2874 (R 323),fE P "_law_lexer" 2883 (R 330),fE P "_law_read" 2889 (R 335),fE P "_law_lay" 2895 (R 340),fE P "_law_joined" 2901 (R 345),fE P "_law_due" 2907 (R 350),fE P "_law_run" 2920 (R 357),fE P "law" 2926 (R 362)]) 81)
noncomputable def yBm:Obj:=⟨N,none,BS #[I 2 0,I 0 0,R 37,I 7 0,I 0 0,R 55,I 10 0,I 0 0,R 101,I 16 0,I 0 0,R 108,I 112 0,I 0 0,R 169,I 121 0,I 0 0,R 176,I 204 0,I 0 0,R 301,I 209 0,I 0 0,R 308,I 212 0,I 0 0,R 315,I 216 0,I 0 0,R 322,I 226 0,I 0 0,R 329,I 232 0,I 0 0,R 334,I 241 0,I 0 0,R 339,I 264 0,I 0 0,R 344,I 269 0,I 0 0,R 349,I 277 0,I 0 0,R 356,I 290 0,I 0 0,R 361],#[]⟩
noncomputable def zXR(P:Params):Obj:=oqq "dict" (Be (BU [fE P "__module__" 2683 (wV "cpy313.wsgiref.headers" 2570),fE P "__qualname__" 2685 (wV "Headers" 2684),fE P "__firstlineno__" 2687 (I 121 2686),fE P "__init__" 2697 (R 185),fE P "_convert_string_type" 2707 (R 192),fE P "__len__" 2714 (R 199),fE P "__setitem__" 2723 (R 206),fE P "__delitem__" 2729 (R 211),fE P "__getitem__" 2737 (R 218),fE P "__contains__" 2745 (R 225),fE P "get_all" 2751 (R 230),fE P "get" 2762 (R 238),fE P "keys" 2768 (R 243),fE P "values" 2774 (R 248),fE P "items" 2781 (R 255),fE P "__repr__" 2788 (R 262),fE P "__str__" 2794 (R 267),fE P "__bytes__" 2801 (R 274),fE P "setdefault" 2810 (R 281),fE P "add_header" 2823 (R 288),fE P "__static_attributes__" 2825 (R 289)]) 21)
noncomputable def zVm:Obj:=⟨N,none,BS #[I 123 0,I 4 0,R 184,I 133 0,I 4 0,R 191,I 141 0,I 4 0,R 198,I 144 0,I 4 0,R 205,I 148 0,I 4 0,R 210,I 152 0,I 4 0,R 217,I 155 0,I 4 0,R 224,I 158 0,I 4 0,R 229,I 162 0,I 4 0,R 237,I 169 0,I 4 0,R 242,I 172 0,I 4 0,R 247,I 175 0,I 4 0,R 254,I 178 0,I 4 0,R 261,I 181 0,I 4 0,R 266,I 184 0,I 4 0,R 273,I 187 0,I 4 0,R 280,I 190 0,I 4 0,R 287],#[]⟩
noncomputable def zYs:Obj:=oqq "code" (BS #[wV "Headers" 2678,wV "Headers" 2679,wcp 2680,I 121 0,I 0 0,I 0 0,I 0 0,I 0 0,R 174,BX false,I 276 0,R 175,N,N,N,N,I 2681 0,I 121 0,wcp 2682])
noncomputable def zWS:Obj:=⟨Y "frame",none,Data.plain,#[some (R 176),some (R 3),some (R 173),none,some (wV "cpy313.wsgiref.headers" 2570),none,some (R 0)]⟩
noncomputable def zVk:Obj:=oqq "tuple" (Bt #[wV "self" 2691,wV "headers" 2692,wV "k" 2693,wV "v" 2694] 0)
noncomputable def zWA:Obj:=⟨N,none,Bb (fn (sub (st 63) 0) (S "Headers.__init__") 0 [] N N N N none N N 0),#[]⟩
noncomputable def zPA:Obj:=oqq "code" (BS #[wV "__init__" 2688,wV "Headers.__init__" 2689,wcp 2690,I 123 0,I 2 0,I 0 0,I 0 0,I 3 0,R 179,BX true,I 276 0,R 180,N,R 181,R 182,R 183,I 2695 0,I 123 0,wcp 2696])
noncomputable def zJ0:Obj:=oqq "function" (Bb (fn (sub (st 63) 0) (S "Headers.__init__") 3 [] (R 178) N N (wV "cpy313.wsgiref.headers" 2570) none (R 184) N 0))
noncomputable def zXt:Obj:=oqq "tuple" (Bt #[wV "self" 2701,wV "value" 2702,wV "name" 2703,wV "regex" 2704] 0)
noncomputable def zXT:Obj:=⟨N,none,Bb (fn (sub (st 63) 1) (S "Headers._convert_string_type") 0 [] N N N N none N N 0),#[]⟩
noncomputable def zQO:Obj:=oqq "code" (BS #[wV "_convert_string_type" 2698,wV "Headers._convert_string_type" 2699,wcp 2700,I 133 0,I 2 0,I 0 0,I 1 0,I 3 0,R 186,BX true,I 276 0,R 187,N,R 188,R 189,R 190,I 2705 0,I 133 0,wcp 2706])
noncomputable def zKw:Obj:=oqq "function" (Bb (fn (sub (st 63) 1) (S "Headers._convert_string_type") 3 [] N N N (wV "cpy313.wsgiref.headers" 2570) none (R 191) N 0))
noncomputable def zVl:Obj:=oqq "tuple" (Bt #[wV "self" 2711] 0)
noncomputable def zXJ:Obj:=⟨N,none,Bb (fn (sub (st 63) 2) (S "Headers.__len__") 0 [] N N N N none N N 0),#[]⟩
noncomputable def zRi:Obj:=oqq "code" (BS #[wV "__len__" 2708,wV "Headers.__len__" 2709,wcp 2710,I 141 0,I 1 0,I 0 0,I 0 0,I 3 0,R 193,BX true,I 276 0,R 194,N,R 195,R 196,R 197,I 2712 0,I 141 0,wcp 2713])
noncomputable def zQt:Obj:=oqq "function" (Bb (fn (sub (st 63) 2) (S "Headers.__len__") 3 [] N N N (wV "cpy313.wsgiref.headers" 2570) none (R 198) N 0))
noncomputable def zYf:Obj:=oqq "tuple" (Bt #[wV "self" 2718,wV "name" 2719,wV "val" 2720] 0)
noncomputable def zXL:Obj:=⟨N,none,Bb (fn (sub (st 63) 3) (S "Headers.__setitem__") 0 [] N N N N none N N 0),#[]⟩
noncomputable def zO3:Obj:=oqq "code" (BS #[wV "__setitem__" 2715,wV "Headers.__setitem__" 2716,wcp 2717,I 144 0,I 3 0,I 0 0,I 0 0,I 3 0,R 200,BX true,I 276 0,R 201,N,R 202,R 203,R 204,I 2721 0,I 144 0,wcp 2722])
noncomputable def zOd:Obj:=oqq "function" (Bb (fn (sub (st 63) 3) (S "Headers.__setitem__") 3 [] N N N (wV "cpy313.wsgiref.headers" 2570) none (R 205) N 0))
noncomputable def zXH:Obj:=⟨N,none,Bb (fn (sub (st 63) 4) (S "Headers.__delitem__") 0 [] N N N N none N N 0),#[]⟩
noncomputable def zOA:Obj:=oqq "code" (BS #[wV "__delitem__" 2724,wV "Headers.__delitem__" 2725,wcp 2726,I 148 0,I 2 0,I 0 0,I 0 0,I 3 0,R 207,BX true,I 276 0,R 208,N,N,N,R 209,I 2727 0,I 148 0,wcp 2728])
noncomputable def zDd:Obj:=oqq "function" (Bb (fn (sub (st 63) 4) (S "Headers.__delitem__") 3 [] N N N (wV "cpy313.wsgiref.headers" 2570) none (R 210) N 0))
noncomputable def zVQ:Obj:=oqq "tuple" (Bt #[wV "self" 2733,wV "name" 2734] 0)
noncomputable def zWF:Obj:=⟨N,none,Bb (fn (sub (st 63) 5) (S "Headers.__getitem__") 0 [] N N N N none N N 0),#[]⟩
noncomputable def zOE:Obj:=oqq "code" (BS #[wV "__getitem__" 2730,wV "Headers.__getitem__" 2731,wcp 2732,I 152 0,I 2 0,I 0 0,I 0 0,I 3 0,R 212,BX true,I 276 0,R 213,N,R 214,R 215,R 216,I 2735 0,I 152 0,wcp 2736])
noncomputable def zOf:Obj:=oqq "function" (Bb (fn (sub (st 63) 5) (S "Headers.__getitem__") 3 [] N N N (wV "cpy313.wsgiref.headers" 2570) none (R 217) N 0))
noncomputable def zY6:Obj:=oqq "tuple" (Bt #[wV "self" 2741,wV "name" 2742] 0)
noncomputable def zXD:Obj:=⟨N,none,Bb (fn (sub (st 63) 6) (S "Headers.__contains__") 0 [] N N N N none N N 0),#[]⟩
noncomputable def zPn:Obj:=oqq "code" (BS #[wV "__contains__" 2738,wV "Headers.__contains__" 2739,wcp 2740,I 155 0,I 2 0,I 0 0,I 0 0,I 3 0,R 219,BX true,I 276 0,R 220,N,R 221,R 222,R 223,I 2743 0,I 155 0,wcp 2744])
noncomputable def zQA:Obj:=oqq "function" (Bb (fn (sub (st 63) 6) (S "Headers.__contains__") 3 [] N N N (wV "cpy313.wsgiref.headers" 2570) none (R 224) N 0))
noncomputable def zVD:Obj:=⟨N,none,Bb (fn (sub (st 63) 7) (S "Headers.get_all") 0 [] N N N N none N N 0),#[]⟩
noncomputable def zOS:Obj:=oqq "code" (BS #[wV "get_all" 2746,wV "Headers.get_all" 2747,wcp 2748,I 158 0,I 2 0,I 0 0,I 0 0,I 3 0,R 226,BX true,I 276 0,R 227,N,N,N,R 228,I 2749 0,I 158 0,wcp 2750])
noncomputable def zD4:Obj:=oqq "function" (Bb (fn (sub (st 63) 7) (S "Headers.get_all") 3 [] N N N (wV "cpy313.wsgiref.headers" 2570) none (R 229) N 0))
noncomputable def zVT:Obj:=oqq "tuple" (Bt #[wV "self" 2755,wV "name" 2756,wV "default" 2757,wV "k" 2758,wV "v" 2759] 0)
noncomputable def zX2:Obj:=⟨N,none,Bb (fn (sub (st 63) 8) (S "Headers.get") 0 [] N N N N none N N 0),#[]⟩
noncomputable def zP7:Obj:=oqq "code" (BS #[wV "get" 2752,wV "Headers.get" 2753,wcp 2754,I 162 0,I 3 0,I 0 0,I 0 0,I 3 0,R 232,BX true,I 276 0,R 233,N,R 234,R 235,R 236,I 2760 0,I 162 0,wcp 2761])
noncomputable def zNO:Obj:=oqq "function" (Bb (fn (sub (st 63) 8) (S "Headers.get") 3 [] (R 231) N N (wV "cpy313.wsgiref.headers" 2570) none (R 237) N 0))
noncomputable def zXP:Obj:=⟨N,none,Bb (fn (sub (st 63) 9) (S "Headers.keys") 0 [] N N N N none N N 0),#[]⟩
noncomputable def zRF:Obj:=oqq "code" (BS #[wV "keys" 2763,wV "Headers.keys" 2764,wcp 2765,I 169 0,I 1 0,I 0 0,I 0 0,I 3 0,R 239,BX true,I 276 0,R 240,N,N,N,R 241,I 2766 0,I 169 0,wcp 2767])
noncomputable def zPu:Obj:=oqq "function" (Bb (fn (sub (st 63) 9) (S "Headers.keys") 3 [] N N N (wV "cpy313.wsgiref.headers" 2570) none (R 242) N 0))
noncomputable def zYv:Obj:=⟨N,none,Bb (fn (sub (st 63) 10) (S "Headers.values") 0 [] N N N N none N N 0),#[]⟩
noncomputable def zPj:Obj:=oqq "code" (BS #[wV "values" 2769,wV "Headers.values" 2770,wcp 2771,I 172 0,I 1 0,I 0 0,I 0 0,I 3 0,R 244,BX true,I 276 0,R 245,N,N,N,R 246,I 2772 0,I 172 0,wcp 2773])
noncomputable def zP6:Obj:=oqq "function" (Bb (fn (sub (st 63) 10) (S "Headers.values") 3 [] N N N (wV "cpy313.wsgiref.headers" 2570) none (R 247) N 0))
noncomputable def zVh:Obj:=oqq "tuple" (Bt #[wV "self" 2778] 0)
noncomputable def zXy:Obj:=⟨N,none,Bb (fn (sub (st 63) 11) (S "Headers.items") 0 [] N N N N none N N 0),#[]⟩
noncomputable def zPE:Obj:=oqq "code" (BS #[wV "items" 2775,wV "Headers.items" 2776,wcp 2777,I 175 0,I 1 0,I 0 0,I 0 0,I 3 0,R 249,BX true,I 276 0,R 250,N,R 251,R 252,R 253,I 2779 0,I 175 0,wcp 2780])
noncomputable def zJ2:Obj:=oqq "function" (Bb (fn (sub (st 63) 11) (S "Headers.items") 3 [] N N N (wV "cpy313.wsgiref.headers" 2570) none (R 254) N 0))
noncomputable def zXX:Obj:=oqq "tuple" (Bt #[wV "self" 2785] 0)
noncomputable def zXl:Obj:=⟨N,none,Bb (fn (sub (st 63) 12) (S "Headers.__repr__") 0 [] N N N N none N N 0),#[]⟩
noncomputable def zRc:Obj:=oqq "code" (BS #[wV "__repr__" 2782,wV "Headers.__repr__" 2783,wcp 2784,I 178 0,I 1 0,I 0 0,I 0 0,I 3 0,R 256,BX true,I 276 0,R 257,N,R 258,R 259,R 260,I 2786 0,I 178 0,wcp 2787])
noncomputable def zPf:Obj:=oqq "function" (Bb (fn (sub (st 63) 12) (S "Headers.__repr__") 3 [] N N N (wV "cpy313.wsgiref.headers" 2570) none (R 261) N 0))
noncomputable def zYB:Obj:=⟨N,none,Bb (fn (sub (st 63) 13) (S "Headers.__str__") 0 [] N N N N none N N 0),#[]⟩
noncomputable def zOj:Obj:=oqq "code" (BS #[wV "__str__" 2789,wV "Headers.__str__" 2790,wcp 2791,I 181 0,I 1 0,I 0 0,I 0 0,I 3 0,R 263,BX true,I 276 0,R 264,N,N,N,R 265,I 2792 0,I 181 0,wcp 2793])
noncomputable def zOn:Obj:=oqq "function" (Bb (fn (sub (st 63) 13) (S "Headers.__str__") 3 [] N N N (wV "cpy313.wsgiref.headers" 2570) none (R 266) N 0))
noncomputable def zYV:Obj:=oqq "tuple" (Bt #[wV "self" 2798] 0)
noncomputable def zVd:Obj:=⟨N,none,Bb (fn (sub (st 63) 14) (S "Headers.__bytes__") 0 [] N N N N none N N 0),#[]⟩
noncomputable def zRC:Obj:=oqq "code" (BS #[wV "__bytes__" 2795,wV "Headers.__bytes__" 2796,wcp 2797,I 184 0,I 1 0,I 0 0,I 0 0,I 3 0,R 268,BX true,I 276 0,R 269,N,R 270,R 271,R 272,I 2799 0,I 184 0,wcp 2800])
noncomputable def zNP:Obj:=oqq "function" (Bb (fn (sub (st 63) 14) (S "Headers.__bytes__") 3 [] N N N (wV "cpy313.wsgiref.headers" 2570) none (R 273) N 0))
noncomputable def zYr:Obj:=oqq "tuple" (Bt #[wV "self" 2805,wV "name" 2806,wV "value" 2807] 0)
noncomputable def zW4:Obj:=⟨N,none,Bb (fn (sub (st 63) 15) (S "Headers.setdefault") 0 [] N N N N none N N 0),#[]⟩
noncomputable def zP2:Obj:=oqq "code" (BS #[wV "setdefault" 2802,wV "Headers.setdefault" 2803,wcp 2804,I 187 0,I 3 0,I 0 0,I 0 0,I 3 0,R 275,BX true,I 276 0,R 276,N,R 277,R 278,R 279,I 2808 0,I 187 0,wcp 2809])
noncomputable def zPg:Obj:=oqq "function" (Bb (fn (sub (st 63) 15) (S "Headers.setdefault") 3 [] N N N (wV "cpy313.wsgiref.headers" 2570) none (R 280) N 0))
noncomputable def zXC:Obj:=oqq "tuple" (Bt #[wV "self" 2814,wV "_name" 2815,wV "_value" 2816,wV "_params" 2817,wV "parts" 2818,wV "k" 2819,wV "v" 2820] 0)
noncomputable def zWK:Obj:=⟨N,none,Bb (fn (sub (st 63) 16) (S "Headers.add_header") 0 [] N N N N none N N 0),#[]⟩
noncomputable def zRe:Obj:=oqq "code" (BS #[wV "add_header" 2811,wV "Headers.add_header" 2812,wcp 2813,I 190 0,I 3 0,I 0 0,I 0 0,I 11 0,R 282,BX true,I 276 0,R 283,N,R 284,R 285,R 286,I 2821 0,I 190 0,wcp 2822])
noncomputable def zKE:Obj:=oqq "function" (Bb (fn (sub (st 63) 16) (S "Headers.add_header") 3 [] N N N (wV "cpy313.wsgiref.headers" 2570) none (R 287) N 0))
noncomputable def zW0:Obj:=oqq "tuple" (Bt #[wV "_headers" 2824] 0)
noncomputable def zNY(P:Params):Obj:=oqq "dict" (Be (BU [fE P "__module__" 2683 (wV "cpy313.wsgiref.headers" 2570),fE P "__firstlineno__" 2687 (I 121 2686),fE P "__init__" 2697 (R 185),fE P "_convert_string_type" 2707 (R 192),fE P "__len__" 2714 (R 199),fE P "__setitem__" 2723 (R 206),fE P "__delitem__" 2729 (R 211),fE P "__getitem__" 2737 (R 218),fE P "__contains__" 2745 (R 225),fE P "get_all" 2751 (R 230),fE P "get" 2762 (R 238),fE P "keys" 2768 (R 243),fE P "values" 2774 (R 248),fE P "items" 2781 (R 255),fE P "__repr__" 2788 (R 262),fE P "__str__" 2794 (R 267),fE P "__bytes__" 2801 (R 274),fE P "setdefault" 2810 (R 281),fE P "add_header" 2823 (R 288),fE P "__static_attributes__" 2825 (R 289),fE P "__dict__" 2827 (R 292),fE P "__weakref__" 2829 (R 293),fE P "__doc__" 2830 N]) 4)
noncomputable def zRy:Obj:=⟨Y "type",none,Data.cls {name:=(S "Headers"),bases:=[Y "object"],mro:=[R 291,Y "object"],ns:=290,qualname:=(S "Headers"),hasDict:=true,slotNames:=[],subclasses:=[],abstract:=false,collection:=none,hasDel:=false},#[none,none,some (wV "Headers" 2676),some (wV "Headers" 2684),some (B "object.__new__"),some (BX true)]⟩
noncomputable def zX8:Obj:=oqq "getset_descriptor" (BS #[wV "__dict__" 2826,R 291,B "function.__dict__",B "function.__dict__#set"])
noncomputable def zVn:Obj:=oqq "getset_descriptor" (BS #[wV "__weakref__" 2828,R 291,B "ExceptionGroup.__weakref__",N])
noncomputable def zXQ:Obj:=oqq "super" (BS #[R 291,R 291,R 291])
noncomputable def zXW:Obj:=oqq "builtin_function_or_method" (BS #[B "object.__init_subclass__",R 291])
noncomputable def zY4:Obj:=oqq "tuple" (Bt #[wV "script" 2838,wV "cells" 2839,wV "place" 2840,wV "number" 2841] 0)
noncomputable def zVR:Obj:=⟨N,none,Bb (fn (st 65) (S "_law_cells") 0 [] N N N N none N N 0),#[]⟩
noncomputable def zRv:Obj:=oqq "code" (BS #[wV "_law_cells" 2835,wV "_law_cells" 2836,wcp 2837,I 204 0,I 1 0,I 0 0,I 0 0,I 3 0,R 296,BX true,I 276 0,R 297,N,R 298,R 299,R 300,I 2842 0,I 204 0,wcp 2843])
noncomputable def zJ7(b:Bool)(P:Params):Obj:=oqq "function" (Bb (fn (st 65) (S "_law_cells") 3 [] N N N (wV "law_sh0076_03" 2833) none (R 301) N 0))
noncomputable def zWl:Obj:=oqq "tuple" (Bt #[wV "cell" 2848,wV "towns" 2849] 0)
noncomputable def zVN:Obj:=⟨N,none,Bb (fn (st 66) (S "_law_road") 0 [] N N N N none N N 0),#[]⟩
noncomputable def zPR:Obj:=oqq "code" (BS #[wV "_law_road" 2845,wV "_law_road" 2846,wcp 2847,I 209 0,I 1 0,I 0 0,I 0 0,I 3 0,R 303,BX true,I 276 0,R 304,N,R 305,R 306,R 307,I 2850 0,I 209 0,wcp 2851])
noncomputable def zJC(b:Bool)(P:Params):Obj:=oqq "function" (Bb (fn (st 66) (S "_law_road") 3 [] N N N (wV "law_sh0076_03" 2833) none (R 308) N 0))
noncomputable def zV4:Obj:=oqq "tuple" (Bt #[wV "word" 2856,wV "look" 2857,wV "nothing" 2858,wV "folded" 2859,wV "odd" 2860] 0)
noncomputable def zWr:Obj:=⟨N,none,Bb (fn (st 67) (S "_law_spelled") 0 [] N N N N none N N 0),#[]⟩
noncomputable def zQP:Obj:=oqq "code" (BS #[wV "_law_spelled" 2853,wV "_law_spelled" 2854,wcp 2855,I 212 0,I 3 0,I 0 0,I 0 0,I 3 0,R 310,BX true,I 276 0,R 311,N,R 312,R 313,R 314,I 2861 0,I 212 0,wcp 2862])
noncomputable def zJW(b:Bool)(P:Params):Obj:=oqq "function" (Bb (fn (st 67) (S "_law_spelled") 3 [] N N N (wV "law_sh0076_03" 2833) none (R 315) N 0))
noncomputable def zYb:Obj:=oqq "tuple" (Bt #[wV "road" 2867,wV "look" 2868,wV "signs" 2869,wV "nothing" 2870,wV "word" 2871] 0)
noncomputable def zXh:Obj:=⟨N,none,Bb (fn (st 68) (S "_law_written") 0 [] N N N N none N N 0),#[]⟩
noncomputable def zQo:Obj:=oqq "code" (BS #[wV "_law_written" 2864,wV "_law_written" 2865,wcp 2866,I 216 0,I 2 0,I 0 0,I 0 0,I 3 0,R 317,BX true,I 276 0,R 318,N,R 319,R 320,R 321,I 2872 0,I 216 0,wcp 2873])
noncomputable def zJv(b:Bool)(P:Params):Obj:=oqq "function" (Bb (fn (st 68) (S "_law_written") 3 [] N N N (wV "law_sh0076_03" 2833) none (R 322) N 0))
noncomputable def zVf:Obj:=oqq "tuple" (Bt #[wV "text" 2878,wV "stand" 2879] 0)
noncomputable def zWW:Obj:=oqq "tuple" (Bt #[wV "signs" 2880] 0)
noncomputable def zWx:Obj:=⟨N,none,Bb (fn (st 69) (S "_law_lexer") 0 [] N N N N none N N 0),#[]⟩
noncomputable def zGC(b:Bool)(P:Params):Obj:=oqq "code" (BS #[wV "_law_lexer" 2875,wV "_law_lexer" 2876,wcp 2877,I 226 0,I 1 0,I 0 0,I 0 0,I 3 0,R 324,BX true,I 276 0,R 325,N,R 326,R 327,R 328,I 2881 0,I 226 0,wcp 2882])
noncomputable def zGr(b:Bool)(P:Params):Obj:=oqq "function" (Bb (fn (st 69) (S "_law_lexer") 3 [] N N N (wV "law_sh0076_03" 2833) none (R 329) N 0))
noncomputable def zVr:Obj:=⟨N,none,Bb (fn (st 70) (S "_law_read") 0 [] N N N N none N N 0),#[]⟩
noncomputable def zQJ:Obj:=oqq "code" (BS #[wV "_law_read" 2884,wV "_law_read" 2885,wcp 2886,I 232 0,I 1 0,I 0 0,I 0 0,I 3 0,R 331,BX true,I 276 0,R 332,N,N,N,R 333,I 2887 0,I 232 0,wcp 2888])
noncomputable def zFS(b:Bool)(P:Params):Obj:=oqq "function" (Bb (fn (st 70) (S "_law_read") 3 [] N N N (wV "law_sh0076_03" 2833) none (R 334) N 0))
noncomputable def zYT:Obj:=⟨N,none,Bb (fn (st 71) (S "_law_lay") 0 [] N N N N none N N 0),#[]⟩
noncomputable def zNZ:Obj:=oqq "code" (BS #[wV "_law_lay" 2890,wV "_law_lay" 2891,wcp 2892,I 241 0,I 3 0,I 0 0,I 0 0,I 3 0,R 336,BX true,I 276 0,R 337,N,N,N,R 338,I 2893 0,I 241 0,wcp 2894])
noncomputable def zHa(b:Bool)(P:Params):Obj:=oqq "function" (Bb (fn (st 71) (S "_law_lay") 3 [] N N N (wV "law_sh0076_03" 2833) none (R 339) N 0))
noncomputable def zW6:Obj:=⟨N,none,Bb (fn (st 72) (S "_law_joined") 0 [] N N N N none N N 0),#[]⟩
noncomputable def zPp:Obj:=oqq "code" (BS #[wV "_law_joined" 2896,wV "_law_joined" 2897,wcp 2898,I 264 0,I 3 0,I 0 0,I 0 0,I 3 0,R 341,BX true,I 276 0,R 342,N,N,N,R 343,I 2899 0,I 264 0,wcp 2900])
noncomputable def zGK(b:Bool)(P:Params):Obj:=oqq "function" (Bb (fn (st 72) (S "_law_joined") 3 [] N N N (wV "law_sh0076_03" 2833) none (R 344) N 0))
noncomputable def zXA:Obj:=⟨N,none,Bb (fn (st 73) (S "_law_due") 0 [] N N N N none N N 0),#[]⟩
noncomputable def zPr:Obj:=oqq "code" (BS #[wV "_law_due" 2902,wV "_law_due" 2903,wcp 2904,I 269 0,I 2 0,I 0 0,I 0 0,I 3 0,R 346,BX true,I 276 0,R 347,N,N,N,R 348,I 2905 0,I 269 0,wcp 2906])
noncomputable def zGw(b:Bool)(P:Params):Obj:=oqq "function" (Bb (fn (st 73) (S "_law_due") 3 [] N N N (wV "law_sh0076_03" 2833) none (R 349) N 0))
noncomputable def zX5:Obj:=oqq "tuple" (Bt #[wV "lexer" 2911,wV "words" 2912,wV "roads" 2913,wV "order" 2914,wV "road" 2915,wV "tree" 2916,wV "laid" 2917] 0)
noncomputable def zXB:Obj:=⟨N,none,Bb (fn (st 74) (S "_law_run") 0 [] N N N N none N N 0),#[]⟩
noncomputable def zRD:Obj:=oqq "code" (BS #[wV "_law_run" 2908,wV "_law_run" 2909,wcp 2910,I 277 0,I 4 0,I 0 0,I 0 0,I 3 0,R 351,BX true,I 276 0,R 352,N,R 353,R 354,R 355,I 2918 0,I 277 0,wcp 2919])
noncomputable def zHb(b:Bool)(P:Params):Obj:=oqq "function" (Bb (fn (st 74) (S "_law_run") 3 [] N N N (wV "law_sh0076_03" 2833) none (R 356) N 0))
noncomputable def zX9:Obj:=⟨N,none,Bb (fn (st 75) (S "law") 0 [] N N N N none N N 0),#[]⟩
noncomputable def zNH:Obj:=oqq "code" (BS #[wV "law" 2921,wV "law" 2922,wcp 2923,I 290 0,I 1 0,I 0 0,I 0 0,I 3 0,R 358,BX true,I 276 0,R 359,N,N,N,R 360,I 2924 0,I 290 0,wcp 2925])
noncomputable def zGQ(b:Bool)(P:Params):Obj:=oqq "function" (Bb (fn (st 75) (S "law") 3 [] N N N (wV "law_sh0076_03" 2833) none (R 361) N 0))
noncomputable def t7(b:Bool)(P:Params):BT:=(nD (tp1 P) (nD (tp2 P) (nD (zHP b P) (nD (tp8 P) (nD (zCE P) (nD (zEl P) (nD zEB (nD zB (lF zJ2) eT) (nD zQO (lF zYb) eT)) (nD zEN (nD zBP (lF zRe) eT) (nD zXD (lF zB) eT))) (nD zB2 (nD zFm (nD zGe (lF zB) eT) (nD zB (lF (zFS b P)) eT)) (nD zH (nD zVm (lF zB) eT) (lF zB)))) (nD (zCh P) (nD zBV (nD zE0 (nD zF5 (lF zB) eT) (nD zQt (lF zWW) eT)) (nD zB (nD zB (lF zXW) eT) (nD wX (lF zH) eT))) (nD zB5 (nD zEF (nD zKs (lF zW4) eT) (nD zB (lF zW6) eT)) (nD zF6 (nD zWA (lF zH) eT) (lF zPj))))) (nD (zDu P) (nD (zCB P) (nD zB (nD zFA (nD zB (lF zB) eT) (nD zVl (lF (zJv b P)) eT)) (nD zB (nD zKq (lF zRy) eT) (nD zH (lF zXB) eT))) (nD zH (nD zEP (nD (zKA P) (lF zB) eT) (nD zDd (lF zNZ) eT)) (nD zDF (nD zB (lF zVN) eT) (lF zPu)))) (nD (zCq P) (nD zB (nD zFH (nD (zDV P) (lF zOn) eT) (nD zB (lF zB) eT)) (nD zGT (nD zB (lF zB) eT) (lF zB))) (nD zEQ (nD zEW (nD wX (lF zH) eT) (nD zB (lF zH) eT)) (nD zBC (nD zH (lF zQP) eT) (lF zVh)))))) (nD (tp6 P) (nD (zCk P) (nD (zCs P) (nD zH (nD zFl (nD zDb (lF zH) eT) (nD zB (lF zXh) eT)) (nD zH (nD zGJ (lF zW0) eT) (nD zQA (lF zX5) eT))) (nD zBY (nD zFb (nD (vM b P) (lF zRC) eT) (nD zXH (lF zH) eT)) (nD zB (nD zWS (lF zWl) eT) (lF zXP)))) (nD (zCA P) (nD zB3 (nD zFx (nD zBQ (lF zYB) eT) (nD zH (lF (zGC b P)) eT)) (nD (zGm P) (nD zJh (lF zH) eT) (nD zH (lF zNH) eT))) (nD (uO b P) (nD zE1 (nD zRs (lF zPg) eT) (nD zOE (lF (zGK b P)) eT)) (nD zFQ (nD zJ0 (lF zB) eT) (lF zB))))) (nD (zCz P) (nD (zCD P) (nD zAt (nD zFa (nD zG1 (lF zRc) eT) (nD zXJ (lF zH) eT)) (nD zC9 (nD zH (lF zVn) eT) (nD zOS (lF (zHb b P)) eT))) (nD zB (nD zFw (nD zBP (lF zYr) eT) (nD zH (lF zB) eT)) (nD zB (nD zVk (lF (zJC b P)) eT) (lF zH)))) (nD yBm (nD zBZ (nD zFJ (nD zHc (lF zH) eT) (nD zO3 (lF zVr) eT)) (nD zGa (nD (zXR P) (lF zRv) eT) (lF zP7))) (nD zEO (nD zFc (nD zFZ (lF zB) eT) (nD zY6 (lF zPr) eT)) (nD zH (nD zB (lF zB) eT) (lF zXy))))))) (nD (tp3 P) (nD (tp5 P) (nD (tp9 P) (nD (zCe P) (nD zB (nD zFM (nD zF1 (lF zB) eT) (nD zKw (lF zB) eT)) (nD zB (nD wX (lF zKE) eT) (nD zPn (lF zH) eT))) (nD zB (nD zEJ (nD zG0 (lF zVd) eT) (nD zH (lF zB) eT)) (nD zGb (nD zYs (lF zH) eT) (lF zH)))) (nD (zCp P) (nD zB6 (nD zFg (nD zDz (lF zH) eT) (nD zB (lF zWx) eT)) (nD zDD (nD zNA (lF zB) eT) (nD zB (lF zX9) eT))) (nD zBh (nD zFr (nD zJG (lF zP2) eT) (nD zWF (lF zPp) eT)) (nD zB (nD zPA (lF zV4) eT) (lF zP6))))) (nD (zCy P) (nD (zCt P) (nD zBj (nD zE6 (nD zH (lF zXl) eT) (nD zB (lF zB) eT)) (nD zG5 (nD zB (lF zX8) eT) (nD zVD (lF zRD) eT))) (nD zDm (nD zFd (nD zRa (lF zH) eT) (nD zB (lF (zHa b P)) eT)) (nD zBv (nD zH (lF zPR) eT) (lF zB)))) (nD (zEk P) (nD zCa (nD zFv (nD zD1 (lF zB) eT) (nD zXL (lF zH) eT)) (nD zGd (nD zDD (lF zVR) eT) (lF zX2))) (nD zEC (nD zE8 (nD zHl (lF zXC) eT) (nD zH (lF zXA) eT)) (nD zB (nD zXt (lF (zJW b P)) eT) (lF zB)))))) (nD (tp7 P) (nD (zCn P) (nD (zCo P) (nD zA2 (nD zFE (nD zAL (lF zXX) eT) (nD zH (lF zQo) eT)) (nD zK5 (nD zF8 (lF (zNY P)) eT) (nD zB (lF zB) eT))) (nD zB (nD zEG (nD (zJM P) (lF zNP) eT) (nD zOA (lF zYT) eT)) (nD zGx (nD wX (lF zB) eT) (lF zRF)))) (nD (zCj P) (nD zB9 (nD zE4 (nD zGj (lF zOj) eT) (nD zYf (lF (zGr b P)) eT)) (nD zB (nD zKj (lF zY4) eT) (nD zVT (lF (zGQ b P)) eT))) (nD zEz (nD zEM (nD zBP (lF zB) eT) (nD zOf (lF zB) eT)) (nD zEc (nD zB (lF zWr) eT) (lF zH))))) (nD (zCg P) (nD (zCi P) (nD zAs (nD zFD (nD zB (lF zPf) eT) (nD zRi (lF zVf) eT)) (nD zBs (nD zON (lF zXQ) eT) (nD zD4 (lF zB) eT))) (nD zC7 (nD zER (nD wX (lF zB) eT) (nD zVQ (lF zH) eT)) (nD zH (nD zB (lF zB) eT) (lF zYv)))) (nD (zEn P) (nD (uF b P) (nD zFq (nD zFT (lF zYV) eT) (nD zOd (lF zQJ) eT)) (nD zB (nD zB (lF (zJ7 b P)) eT) (lF zNO))) (nD zES (nD zEX (nD zQn (lF zWK) eT) (nD zB (lF (zGw b P)) eT)) (nD zGZ (nD zXT (lF zH) eT) (lF zPE))))))))
noncomputable def yAt:List Stmt:=[st 63,st 64,st 65,st 66,st 67,st 68,st 69,st 70,st 71,st 72,st 73,st 74,st 75]
theorem g7(b:Bool)(w:World)(os:OsState):segRunT treeTable pw w 28 ann 1 1060 (sh (t5 b w.params) 171 2676 os) (piecesOf yAt top.env_1 cdE ⟨112,0,120,20⟩ fr0)=some (.next,sh (t7 b w.params) 363 2927 os,cdE,⟨290,0,298,108⟩):=zD7 (by kernel_rfl)
section
noncomputable def Go(w:World)(n:Nat)(s:Shared)(t:Thread)(s':Shared)(t':Thread):Prop:=segGo treeTable pw w 28 ann 1 n s t=some (s',t')
theorem Go.trans{w:World}{n m:Nat}{s s' s2:Shared}{t t' t2:Thread}(h:Go w n s t s' t')(k:Go w m s' t' s2 t2):Go w (n + m) s t s2 t2:=by
 induction n generalizing s t with
 | zero=>
  cases (show (s,t)=(s',t') from CR h);rw [Cx];exact k
 | succ n ih=>
  rw [Nat.succ_add];unfold Go segGo at h ⊢;cases he:endAt 1 t with
  | some f=>rw [he] at h; cases h
  | none=>
   rw [he] at h;cases hk:stepOk 28 ann t with
   | false=>rw [hk] at h; cases h
   | true=>
    rw [hk] at h;cases hs:step (denote treeTable) pw w s t with
    | halt o s3=>rw [hs] at h; cases h
    | go s3 t3=>rw [hs] at h; exact ih h
@[reducible] def at0 (m:Sem Fin) (pos:Pos):Thread:=⟨m,cdE,pos,fr0⟩
noncomputable def Ev{α:Type}(w:World)(m:Sem α)(s:Shared)(a:α)(s':Shared)(n:Nat):Prop:=
 ∀(K:α->Sem Fin) (H:Value->Sem Fin) (gd:Bool->Bool) (lv:List Value->List Value) (pos:Pos),∃pos',Go w n s (at0 (m.wrap K H gd lv) pos) s' (at0 (K a) pos')
section
variable{α β:Type}{w:World}{s s' s2:Shared}{n m':Nat}
theorem Ev.pure{a:α}:Ev w (pure a) s a s 0:=fun K H gd lv pos=>⟨pos,rfl⟩
theorem Ev.bind{m:Sem α}{f:α->Sem β}{a:α}{b:β}(h1:Ev w m s a s' n)(h2:Ev w (f a) s' b s2 m'):Ev w (m >>=f) s b s2 (n + m'):=fun K H gd lv pos=>by
 rw [Sem.bind_eq_wrap',Sem.wrap_wrap];obtain ⟨p1,e1⟩:=h1 (fun a=>(f a).wrap K H gd lv) (fun e=>(Sem.raise e).wrap K H gd lv) (fun g=>gd (id g)) (fun l=>lv (id l)) pos;obtain ⟨p2,e2⟩:=h2 K H gd lv p1;exact ⟨p2,e1.trans e2⟩
theorem Ev.keep{m:Sem α}{vs:List Value}{a:α}(h:Ev w m s a s' n):Ev w (m.keep vs) s a s' n:=fun K H gd lv pos=>by
 rw [Sem.keep_eq_wrap,Sem.wrap_wrap];exact h K (fun e=>(Sem.raise e).wrap K H gd lv) (fun g=>gd (id g)) (fun l=>lv (vs ++ l)) pos
theorem Ev.onRaise{m:Sem α}{k:Value->Sem Unit}{a:α}(h:Ev w m s a s' n):Ev w (m.onRaise k) s a s' n:=fun K H gd lv pos=>by
 rw [Sem.onRaise_eq_wrap,Sem.wrap_wrap];exact h K _ _ _ pos
theorem Ev.holding{m:Sem α}{vs:List Value}{a:α}(h:Ev w m s a s' n):Ev w (holding vs m) s a s' n:=by
 unfold PySem.holding;split
 ·exact h
 ·exact h.keep
theorem Ev.rule{t:String}:Ev w (rule t) s () s 1:=fun K H gd lv pos=>⟨pos,by obtain ⟨h,g,d,t,os⟩:=s; rfl⟩
theorem Ev.standAt{p:Pos}:Ev w (standAt p) s () s 1:=fun K H gd lv pos=>⟨p,by obtain ⟨h,g,d,t,os⟩:=s; rfl⟩
theorem Ev.fresh:Ev w fresh s s.toks {s with toks:=s.toks + 1} 1:=fun K H gd lv pos=>⟨pos,by obtain ⟨h,g,d,t,os⟩:=s; rfl⟩
theorem Go.one{t t':Thread}(h1:endAt 1 t=none)(h2:stepOk 28 ann t=true)(h3:step (denote treeTable) pw w s t= .go s' t'):Go w 1 s t s' t':=by
 unfold Go segGo;rw [h1,h2,h3];rfl
theorem Ev.loadPart{a:Addr}{q:Option Value}{o:Obj}(ho:s.heap.get? a=some o):Ev w (loadPart a q) s o s 1:=fun K H gd lv pos=>⟨pos,Go.one rfl rfl (by
 obtain ⟨h,g,d,t,os⟩:=s;show step _ pw w ⟨h,g,d,t,os⟩ ⟨.load a q fun x=>(Sem.pure x).wrap K H gd lv,cdE,pos,fr0⟩=_;simp only [step];rw [show h.get? a=some o from ho];rfl)⟩
theorem Ev.load{a:Addr}{o:Obj}(ho:s.heap.get? a=some o):Ev w (load a) s o s 1:=Ev.loadPart ho
theorem Ev.updatePart{a:Addr}{q:Option Value}{o:Obj}{f:Obj->Obj}(ho:s.heap.get? a=some o)(ha:CL 28 a=true):Ev w (updatePart a q f) s () {s with heap:=s.heap.update a f} 1:=fun K H gd lv pos=>⟨pos,Go.one rfl (by
  show (_ && (CL 28 a || a==mainNs || a==cStatics || ann==some (.ref a)))=true;rw [ha]; rfl) (by
 obtain ⟨h,g,d,t,os⟩:=s;show step _ pw w ⟨h,g,d,t,os⟩ ⟨.update a q f fun x=>(Sem.pure x).wrap K H gd lv,cdE,pos,fr0⟩=_;simp only [step];rw [show (h.get? a).isSome=true by rw [show h.get? a=some o from ho]; rfl];rfl)⟩
theorem Ev.alloc{o:Obj}:Ev w (alloc o) s s.heap.objs.size {s with heap:=s.heap.push o} 1:=fun K H gd lv pos=>⟨pos,Go.one rfl rfl (by
 obtain ⟨h,g,d,t,os⟩:=s;rfl)⟩
theorem Ev.cong{m:Sem α}{a:α}{s1:Shared}{n1:Nat}(h:Ev w m s a s' n)(e1:s'=s1)(e2:n=n1):Ev w m s a s1 n1:=by subst e1 e2; exact h
end
noncomputable abbrev yAJ:String:="special-get-raises"
theorem zMl(c:Bool)(w:World)(k:Int)(t:Nat)(heap:Heap)(gens:Array GenState)(d:Drawn)(tk:Nat)(os:OsState)(K:Int->Sem Fin)(H:Value->Sem Fin)(gd:Bool->Bool)(lv:List Value->List Value)(pos:Pos):
  segGo treeTable pw (w.withFollow yAJ c) 28 ann 1 5 ⟨heap,gens,d,tk,os⟩ (at0 ((pyHash (.int k t)).wrap K H gd lv) pos)=
   some (⟨heap,gens,d,tk + 1,os⟩,at0 ((Df (rawHash k)).wrap K H gd lv) pos):=by
 cases c
 ·rw [Fast.te3277212676724774461,Cp]
  kernel_rfl
 ·rw [Fast.te3277212676724774461,Cp]
  kernel_rfl
theorem zIg(w:World)(k:Int)(t:Nat)(s:Shared)(K:Int->Sem Fin)(H:Value->Sem Fin)(gd:Bool->Bool)(lv:List Value->List Value)(pos:Pos):
  Go w 5 s (at0 ((pyHash (.int k t)).wrap K H gd lv) pos) {s with toks:=s.toks + 1} (at0 ((Df (rawHash k)).wrap K H gd lv) pos):=by
 obtain ⟨heap,gens,d,tk,os⟩:=s;have:=zMl (w.params.followText yAJ) w k t heap gens d tk os K H gd lv pos;rw [World.withFollow_self] at this;exact this
theorem zMS{k:Int}(h0:0<=k)(h1:k < 2 ^ 60):rawHash k=k:=by
 unfold rawHash;have e:(((k.natAbs % (2 ^ 61 - 1:Nat):Nat)):Int)=k:=by
  rw [Nat.mod_eq_of_lt (by lia)]; lia
 dsimp only;have e1:((k.natAbs:Int) % ((2 ^ 61 - 1:Nat):Int))=k:=by
  rw [<-Int.natCast_emod]; exact e
 rw [e1,if_neg (by lia:¬k < 0)];rw [if_neg (by rw [beq_iff_eq]; lia)]
theorem Ev.hash{w:World}{s:Shared}{k:Int}{t:Nat}(h0:0<=k)(h1:k < 2 ^ 60):Ev w (pyHash (.int k t)) s k {s with toks:=s.toks + 1} 5:=fun K H gd lv pos=>by
 refine ⟨pos,?_⟩;have:=zIg w k t s K H gd lv pos;rw [zMS h0 h1] at this;have e:Df k=Pure.pure k:=by
  unfold Df;have c1:(decide (-(2 ^ 63:Int)<=k) && decide (k < 2 ^ 63))=true:=by
   rw [Bu]; exact ⟨decide_eq_true (by lia),decide_eq_true (by lia)⟩
  have c2:(k==-1)=false:=by rw [beq_eq_false_iff_ne]; lia
  rw [if_pos c1,if_neg (by rw [c2]; exact Bk)]
 rw [e] at this;exact this
noncomputable abbrev dOf(es:List DictEntry)(n:Nat):Obj:={cls:= .type "dict",data:= .dict es.toArray n}
theorem zJ6{es:List DictEntry}{k:Int}(h:∀e∈es,e.hash≠k):placesWithHash es.toArray.size (fun i=>es.toArray[i]?.map (·.hash)) k=[]:=by
 unfold placesWithHash;rw [List.filter_eq_nil_iff];intro i _ hi;dsimp only at hi;rw [Ds] at hi;cases q:es[i]? with
 | none=>rw [q] at hi; cases hi
 | some e=>
  rw [q] at hi;simp only [Option.map_some,beq_iff_eq,Option.some.injEq] at hi;exact h e (BZ q) hi
theorem Ev.find_none{w:World}{s:Shared}{d:Addr}{es:List DictEntry}{ep:Nat}{k:Int}{t:Nat}(ho:s.heap.get? d=some (dOf es ep))(h:∀e∈es,e.hash≠k):
  Ev w (dictFind d (.int k t) k) s none s 1:=by
 unfold dictFind;refine Ev.holding ?_;have e1:Ev w (dictEntries d (keyPart (.int k t))) s es.toArray s 1:=by
  unfold dictEntries;exact (Ev.bind (Ev.loadPart ho) (m':=0) (by exact Ev.pure)).cong rfl rfl
 refine (Ev.bind e1 (m':=0) ?_).cong rfl rfl;dsimp only;rw [zJ6 h];exact Ev.pure
theorem zFo{h:Heap}{d:Addr}{f:Obj->Obj}{o:Obj}(ho:h.get? d=some o):h.update d f=h.update d (fun _=>f o):=by
 obtain ⟨objs,life⟩:=h;have e:objs[d]? =some o:=by
  unfold Heap.get? at ho;dsimp only at ho;split at ho
  ·cases ho
  ·exact ho
 show DY _ _=DY _ _;refine congrArg (DY · life) ?_;apply EB;intro i;rw [DS,DS];split
 ·rename_i q; subst q; rw [e]; rfl
 ·rfl
theorem zBk{h:Heap}{d:Addr}{o o':Obj}(ho:h.get? d=some o)(hf:o'.isFreed=false):(h.update d (fun _=>o')).get? d=some o':=CZ (fun _=>o') ho hf
theorem Ev.setNew{w:World}{s:Shared}{d:Addr}{es:List DictEntry}{ep:Nat}{k:Int}{t:Nat}{v:Value}(ho:s.heap.get? d=some (dOf es ep))(h:∀e∈es,e.hash≠k)(hd:CL 28 d=true)(hz:es.length<=1000):
  Ev w (dictSetHashed d (.int k t) k v) s () {s with heap:=s.heap.update d (fun _=>dOf (es ++ [⟨k,.int k t,v⟩]) (ep + 1))} 5:=by
 unfold dictSetHashed;refine Ev.holding ?_;refine (Ev.bind (Ev.find_none ho h) (m':=4) ?_).cong rfl rfl;dsimp only;refine (Ev.bind Ev.rule (m':=3) ?_).cong rfl rfl;unfold updateDictKeys;refine (Ev.bind (Ev.loadPart ho) (m':=2) ?_).cong rfl rfl;dsimp only;have e:=Ev.updatePart (w:=w) (q:=keyPart (.int k t)) (f:=Obj.mapDictKeys (·.push ⟨k,.int k t,v⟩)) ho hd;rw [zFo ho] at e;have eo:Obj.mapDictKeys (·.push ⟨k,.int k t,v⟩) (dOf es ep)=dOf (es ++ [⟨k,.int k t,v⟩]) (ep + 1):=by
  show Obj.mk _ _ (Be (es.toArray.push _) _) _=Obj.mk _ _ _ _;rw [List.push_toArray]
 rw [eo] at e;refine (Ev.bind e (m':=1) ?_).cong rfl rfl;unfold lookBehind;refine (Ev.bind (Ev.loadPart (zBk ho rfl)) (m':=0) ?_).cong rfl rfl;have:(dOf (es ++ [⟨k,.int k t,v⟩]) (ep + 1)).data.pastItsLine=none:=pastItsLine_dict (by rw [DW,BY,sizeLine_eq]; simp; lia);rw [this];exact Ev.pure
theorem zGk{h:Heap}{d:Addr}{a b:Obj}:(h.update d (fun _=>a)).update d (fun _=>b)=h.update d (fun _=>b):=by
 obtain ⟨objs,life⟩:=h;show DY _ _=DY _ _;refine congrArg (DY · life) ?_;apply EB;intro i;simp only [DS];split
 ·cases objs[i]? <;>rfl
 ·rfl
theorem zC0{h:Heap}{d:Addr}{o:Obj}(ho:h.get? d=some o):h.update d (fun _=>o)=h:=by
 obtain ⟨objs,life⟩:=h;have e:objs[d]? =some o:=by
  unfold Heap.get? at ho;dsimp only at ho;split at ho
  ·cases ho
  ·exact ho
 show DY _ _=DY _ _;refine congrArg (DY · life) ?_;apply EB;intro i;simp only [DS];split
 ·rename_i q; subst q; rw [e]; rfl
 ·rfl
theorem Ev.set{w:World}{s:Shared}{d:Addr}{es:List DictEntry}{ep:Nat}{k:Int}{t:Nat}{v:Value}(h0:0<=k)(h1:k < 2 ^ 60)(ho:s.heap.get? d=some (dOf es ep))(h:∀e∈es,e.hash≠k)(hd:CL 28 d=true)(hz:es.length<=1000):
  Ev w (dictSet d (.int k t) v) s () {s with heap:=s.heap.update d (fun _=>dOf (es ++ [⟨k,.int k t,v⟩]) (ep + 1)),toks:=s.toks + 1} 10:=by
 unfold dictSet;refine Ev.holding ?_;exact (Ev.bind (Ev.hash h0 h1) (Ev.setNew (s:={s with toks:=s.toks + 1}) ho h hd hz)).cong rfl rfl
noncomputable def asc:Int->List (Int×Str)->Bool
 | _,[]=>true
 | lo,p::r=>decide (lo<=p.1) && decide (p.1 < 2 ^ 60) && asc (p.1 + 1) r
theorem zB4(lo:Int):asc lo []=true:=rfl
theorem zCd(lo:Int)(p:Int×Str)(r:List (Int×Str)):asc lo (p::r)=(decide (lo<=p.1) && decide (p.1 < 2 ^ 60) && asc (p.1 + 1) r):=rfl
noncomputable def yV:Nat->List (Int×Str)->List DictEntry
 | _,[]=>[]
 | tk,p::r=>⟨p.1,.int p.1 tk,.str p.2 (tk + 1)⟩::yV (tk + 3) r
theorem zQy(tk:Nat):yV tk []=[]:=rfl
theorem zOo(tk:Nat)(p:Int×Str)(r:List (Int×Str)):yV tk (p::r)=⟨p.1,.int p.1 tk,.str p.2 (tk + 1)⟩::yV (tk + 3) r:=rfl
theorem wK:∀(tk:Nat) (q:List (Int×Str)),(yV tk q).length=q.length
 | _,[]=>rfl
 | tk,p::r=>congrArg (· + 1) (wK (tk + 3) r)
noncomputable abbrev pr(pos:Pos)(p:Int×Str):Sem Value×Sem Value:=(mkInt p.1,do let x <-mkText p.2; standAt pos; pure x)
theorem Ev.mkInt{w:World}{s:Shared}{i:Int}:Ev w (mkInt i) s (.int i s.toks) {s with toks:=s.toks + 1} 1:=by
 unfold PySem.mkInt;exact (Ev.bind Ev.fresh (m':=0) (by exact Ev.pure)).cong rfl rfl
theorem Ev.mkText{w:World}{s:Shared}{x:Str}:Ev w (mkText x) s (.str x s.toks) {s with toks:=s.toks + 1} 1:=by
 unfold PySem.mkText;exact (Ev.bind Ev.fresh (m':=0) (by exact Ev.pure)).cong rfl rfl
theorem zK2{w:World}{d:Addr}{pos:Pos}(hd:CL 28 d=true):∀(q:List (Int×Str)) (lo:Int) (es:List DictEntry) (ep:Nat) (s:Shared),0<=lo->asc lo q=true->s.heap.get? d=some (dOf es ep)->
  (∀e∈es,e.hash < lo)->es.length + q.length<=1000->
  Ev w (forIn (q.map (pr pos)) PUnit.unit fun x (_:PUnit)=>match x with | (k,v)=>do
    let kv <-k
    let vv <-holding [kv] v
    holding [kv,vv] (dictSet d kv vv)
    pure (CE PUnit.unit)) s PUnit.unit {s with heap:=s.heap.update d (fun _=>dOf (es ++ yV s.toks q) (ep + q.length)),toks:=s.toks + 3 * q.length} (13 * q.length)
 | [],lo,es,ep,s,_,_,ho,_,_=>by
  refine Ev.cong (n:=0) (s':=s) (by exact Ev.pure) ?_ rfl;simp only [zQy,zOo,Bp,CS,Nat.add_zero,Nat.mul_zero];rw [zC0 ho]
 | p::r,lo,es,ep,s,hlo,ha,ho,hes,hz=>by
  simp only [zB4,zCd,Bu,decide_eq_true_eq] at ha;obtain ⟨⟨a1,a2⟩,a3⟩:=ha;rw [Cs,CM];simp only [Bh] at hz;have e1:Ev w (pr pos p).1 s (.int p.1 s.toks) {s with toks:=s.toks + 1} 1:=Ev.mkInt;have e2:Ev w (holding [.int p.1 s.toks] (pr pos p).2) {s with toks:=s.toks + 1} (.str p.2 (s.toks + 1)) {s with toks:=s.toks + 1 + 1} 2:=
   Ev.holding ((Ev.bind Ev.mkText (m':=1) ((Ev.bind Ev.standAt (m':=0) (by exact Ev.pure)).cong rfl rfl)).cong rfl rfl)
  have e3:=Ev.set (w:=w) (s:={s with toks:=s.toks + 1 + 1}) (t:=s.toks) (v:= .str p.2 (s.toks + 1)) (by lia) a2 ho (fun e he=>by have:=hes e he; lia) hd (by lia);have ih:=zK2 (w:=w) (pos:=pos) hd r (p.1 + 1) (es ++ [⟨p.1,.int p.1 s.toks,.str p.2 (s.toks + 1)⟩]) (ep + 1)
   {s with heap:=s.heap.update d (fun _=>dOf (es ++ [⟨p.1,.int p.1 s.toks,.str p.2 (s.toks + 1)⟩]) (ep + 1)),toks:=s.toks + 1 + 1 + 1} (by lia) a3 (zBk ho rfl)
   (fun e he=>by
    rcases BR.mp he with q | q
    ·have:=hes e q; lia
    ·rcases BP.mp q with rfl; show p.1 < p.1 + 1; lia) (by simp only [BY,Bh,CS]; lia)
  refine (Ev.bind (Ev.bind e1 (Ev.bind e2 (Ev.bind (Ev.holding e3) (m':=0) (by exact Ev.pure)))) (by exact ih)).cong ?_ ?_
  ·simp only [zGk,zQy,zOo,CA,DZ,CN,Bh]
   have t1:s.toks + 1 + 1 + 1 + 3 * r.length=s.toks + 3 * (r.length + 1):=by lia
   have t2:ep + 1 + r.length=ep + (r.length + 1):=by lia
   rw [t1,t2]
  ·simp only [Bh]; lia
theorem Ev.entries{w:World}{s:Shared}{a:Addr}{q:Option Value}{es:List DictEntry}{ep:Nat}(ho:s.heap.get? a=some (dOf es ep)):Ev w (dictEntries a q) s es.toArray s 1:=by
 unfold dictEntries;exact (Ev.bind (Ev.loadPart ho) (m':=0) (by exact Ev.pure)).cong rfl rfl
theorem Ev.epoch{w:World}{s:Shared}{a:Addr}{q:Option Value}{es:List DictEntry}{ep:Nat}(ho:s.heap.get? a=some (dOf es ep)):Ev w (dictEpoch a q) s ep s 1:=by
 unfold dictEpoch;exact (Ev.bind (Ev.loadPart ho) (m':=0) (by exact Ev.pure)).cong rfl rfl
theorem Ev.putNew{w:World}{s:Shared}{d:Addr}{es:List DictEntry}{ep:Nat}{k:Int}{t:Nat}{v:Value}(ho:s.heap.get? d=some (dOf es ep))(h:∀e∈es,e.hash≠k)(hd:CL 28 d=true)(hz:es.length<=1000):
  Ev w (dictPut d k (.int k t) v) s () {s with heap:=s.heap.update d (fun _=>dOf (es ++ [⟨k,.int k t,v⟩]) (ep + 1))} 4:=by
 unfold dictPut;refine (Ev.bind (Ev.find_none ho h) (m':=3) ?_).cong rfl rfl;dsimp only;unfold updateDictKeys;refine (Ev.bind (Ev.loadPart ho) (m':=2) ?_).cong rfl rfl;dsimp only;have e:=Ev.updatePart (w:=w) (q:=none) (f:=Obj.mapDictKeys (·.push ⟨k,.int k t,v⟩)) ho hd;rw [zFo ho] at e;have eo:Obj.mapDictKeys (·.push ⟨k,.int k t,v⟩) (dOf es ep)=dOf (es ++ [⟨k,.int k t,v⟩]) (ep + 1):=by
  show Obj.mk _ _ (Be (es.toArray.push _) _) _=Obj.mk _ _ _ _;rw [List.push_toArray]
 rw [eo] at e;refine (Ev.bind e (m':=1) ?_).cong rfl rfl;unfold lookBehind;refine (Ev.bind (Ev.loadPart (zBk ho rfl)) (m':=0) ?_).cong rfl rfl;have:(dOf (es ++ [⟨k,.int k t,v⟩]) (ep + 1)).data.pastItsLine=none:=pastItsLine_dict (by rw [DW,BY,sizeLine_eq]; simp; lia);rw [this];exact Ev.pure
noncomputable def zAZ(es:List DictEntry):Prop:=∀e∈es,∃t,e.key= .int e.hash t
noncomputable def zBK:List DictEntry->List DictEntry->Prop
 | _,[]=>True
 | es,e::r=>(∀x∈es,x.hash≠e.hash)/\zBK (es ++ [e]) r
set_option backward.match.sparseCases true in
theorem zAv{w:World}{d a:Addr}{sub:List DictEntry}{epa:Nat}(hd:CL 28 d=true)(hk:zAZ sub)(hda:d≠a):∀(m i:Nat) (es:List DictEntry) (ep:Nat) (s:Shared),i + m=sub.length->
  s.heap.get? d=some (dOf es ep)->s.heap.get? a=some (dOf sub epa)->zBK es (sub.drop i)->es.length + m<=1000->
  Ev w (forIn (List.range' i m) PUnit.unit fun i (_:PUnit)=>do
    let __do_lift <-dictEntries a
    match __do_lift[i]? with
     | some e=>do
      holding [e.key,e.val]
        (if false=true then do
         let __do_lift <-dictFind d e.key e.hash
         if __do_lift.isSome=true then do
           rule "dict.merge.duplicate-key"
           let __do_lift <-newExc (Dv "KeyError") [e.key]
           raiseNew __do_lift
           dictPut d e.hash e.key e.val
          else dictPut d e.hash e.key e.val
        else dictPut d e.hash e.key e.val)
      let __do_lift <-dictEpoch a
      if (__do_lift !=epa)=true then do
        unsupported "dict.changed-during-merge"
        pure (CE PUnit.unit)
       else pure (CE PUnit.unit)
     | x=>do
      unsupported "dict.changed-during-merge"
      pure (CE PUnit.unit)) s PUnit.unit {s with heap:=s.heap.update d (fun _=>dOf (es ++ sub.drop i) (ep + m))} (6 * m)
 | 0,i,es,ep,s,hi,ho,ha,hp,hz=>by
  refine Ev.cong (n:=0) (s':=s) (by exact Ev.pure) ?_ rfl;have:sub.drop i=[]:=CP.mpr (by lia);rw [this,Bp,Nat.add_zero,zC0 ho]
 | m + 1,i,es,ep,s,hi,ho,ha,hp,hz=>by
  rw [List.range'_succ,CM];have hlt:i < sub.length:=by lia
  have hdr:sub.drop i=sub[i]::sub.drop (i + 1):=List.drop_eq_getElem_cons hlt;rw [hdr] at hp;obtain ⟨p1,p2⟩:=hp;obtain ⟨t,ht⟩:=hk sub[i] (Da hlt);have e2:=Ev.putNew (w:=w) (t:=t) (v:=sub[i].val) ho p1 hd (by lia);have heq:(⟨sub[i].hash,.int sub[i].hash t,sub[i].val⟩:DictEntry)=sub[i]:=by rw [<-ht]
  rw [heq] at e2;have ha':({s with heap:=s.heap.update d (fun _=>dOf (es ++ [sub[i]]) (ep + 1))}:Shared).heap.get? a=some (dOf sub epa):=(Heap.get?_update_ne _ _ _ _ (Ne.symm hda)).trans ha;have ih:=zAv (w:=w) (epa:=epa) hd hk hda m (i + 1) (es ++ [sub[i]]) (ep + 1) {s with heap:=s.heap.update d (fun _=>dOf (es ++ [sub[i]]) (ep + 1))} (by lia) (zBk ho rfl) ha' p2
   (by simp only [BY,Bh,CS]; lia)
  refine (Ev.bind (n:=6) (a:=CE PUnit.unit) ((Ev.bind (Ev.entries ha) (m':=5) (b:=CE PUnit.unit) (s2:={s with heap:=s.heap.update d (fun _=>dOf (es ++ [sub[i]]) (ep + 1))}) ?_).cong rfl rfl) (by exact ih)).cong ?_ ?_
  ·rw [Ds,Bi hlt]
   dsimp only;rw [ht];rw [if_neg Bk];refine (Ev.bind (Ev.holding e2) (m':=1) ((Ev.bind (Ev.epoch ha') (m':=0) ?_).cong rfl rfl)).cong rfl rfl;rw [if_neg (by simp)];exact Ev.pure
  ·simp only [zGk,CA,DZ,CN]
   rw [hdr];have:ep + 1 + m=ep + (m + 1):=by lia
   rw [this]
  ·lia
theorem zOq:isSubtype (.type "dict") (.type "dict")=pure true:=by rw [isSubtype_type]; kernel_rfl
theorem zM1:typeLookup (.type "dict") (BN "__iter__")=pure (some (.builtin "dict.__iter__")):=by rw [DT,Cv]; kernel_rfl
theorem Ev.typeDict{w:World}{s:Shared}{a:Addr}{es:List DictEntry}{ep:Nat}(ho:s.heap.get? a=some (dOf es ep)):Ev w (typeOf (.ref a)) s (.type "dict") s 1:=by
 unfold typeOf;exact (Ev.bind (Ev.loadPart ho) (m':=0) (by exact Ev.pure)).cong rfl rfl
set_option backward.match.sparseCases true in
theorem Ev.merge{w:World}{s:Shared}{d a:Addr}{es sub:List DictEntry}{ep epa:Nat}(hd:CL 28 d=true)(hk:zAZ sub)(hda:d≠a)(hne:es≠[])(hs:(a==sysModules)=false)
  (ho:s.heap.get? d=some (dOf es ep)) (ha:s.heap.get? a=some (dOf sub epa)) (hp:zBK es sub) (hz:es.length + sub.length<=1000):
  Ev w (mergeMapping d (.ref a) false) s () {s with heap:=s.heap.update d (fun _=>dOf (es ++ sub) (ep + sub.length))} (5 + 6 * sub.length):=by
 unfold mergeMapping;dsimp only;have e1:Ev w (isInstance (.ref a) (.type "dict")) s true s 1:=by
  unfold isInstance;refine (Ev.bind (Ev.typeDict ha) (m':=0) ?_).cong rfl rfl;rw [zOq]; exact Ev.pure
 have e2:Ev w (specialOf (.ref a) (BN "__iter__")) s (some (.builtin "dict.__iter__")) s 1:=by
  unfold specialOf;refine (Ev.bind (Ev.typeDict ha) (m':=0) ?_).cong rfl rfl;rw [zM1]; exact Ev.pure
 refine (Ev.bind e1 (m':=4 + 6 * sub.length) ?_).cong rfl (by lia);rw [if_pos rfl];refine (Ev.bind e2 (m':=3 + 6 * sub.length) ?_).cong rfl (by lia);refine (Ev.bind (n:=0) (by exact Ev.pure) (m':=3 + 6 * sub.length) ?_).cong rfl (by lia);have b1:(some (Value.builtin "dict.__iter__")==some (Value.builtin "dict.__iter__"))=true:=by decide +kernel
 rw [b1];dsimp only;rw [hs,if_neg Bk];refine (Ev.bind (Ev.entries ho) (m':=2 + 6 * sub.length) ?_).cong rfl (by lia);have b2:es.toArray.isEmpty=false:=by cases es with | nil=>exact absurd rfl hne | cons _ _=>rfl
 rw [b2,if_neg Bk];refine (Ev.bind (Ev.entries ha) (m':=1 + 6 * sub.length) ?_).cong rfl (by lia);refine (Ev.bind (Ev.epoch ha) (m':=6 * sub.length) ?_).cong rfl (by lia);rw [DW,List.range_eq_range'];have:=zAv (w:=w) (epa:=epa) hd hk hda sub.length 0 es ep s (by lia) ho ha hp hz;exact (Ev.bind this (m':=0) (by exact Ev.pure)).cong rfl rfl
theorem zII{h:Heap}{o o':Obj}:(h.push o).update h.objs.size (fun _=>o')=h.push o':=by
 obtain ⟨objs,life⟩:=h;show DY _ _=DY _ _;refine congrArg (DY · life) ?_;apply EB;intro i;simp only [DS,Array.getElem?_push];split
 ·rename_i q; subst q; simp
 ·split
  ·rename_i q1 q2; exact absurd q2.symm q1
  ·rfl
theorem Ev.subLong{w:World}{s:Shared}{pos:Pos}{q:List (Int×Str)}{lo:Int}(hlo:0<=lo)(ha:asc lo q=true)(hl:15 < q.length)(hz:q.length<=1000)(hd:CL 28 s.heap.objs.size=true):
  Ev w (subDict (q.map (pr pos))) s s.heap.objs.size {s with heap:=s.heap.push (dOf (yV s.toks q) q.length),toks:=s.toks + 3 * q.length} (2 + 13 * q.length):=by
 unfold subDict;refine (Ev.bind Ev.alloc (m':=1 + 13 * q.length) ?_).cong rfl (by lia);refine (Ev.bind (n:=1 + 13 * q.length) (m':=0) (s':={s with heap:=s.heap.push (dOf (yV s.toks q) q.length),toks:=s.toks + 3 * q.length}) (a:=()) (Ev.holding ?_) (by exact Ev.pure)).cong rfl (by lia);rw [BW,if_neg (by lia)];refine (Ev.bind Ev.rule (m':=13 * q.length) ?_).cong rfl (by lia);have:=zK2 (w:=w) (pos:=pos) hd q lo [] 0 {s with heap:=s.heap.push (dOf [] 0)} hlo ha (Bf _ rfl) (fun e he=>nomatch he) (by simp only [CS]; lia);refine (Ev.bind this (m':=0) (by exact Ev.pure)).cong ?_ rfl;simp only [zII,CN,Cx]
noncomputable def xB:Nat->Nat->List (Int×Str)->List DictEntry
 | _,_,[]=>[]
 | tk,u,p::r=>⟨p.1,.int p.1 tk,.str p.2 (tk + 1)⟩::xB (tk + 2) u r
theorem zLH(tk u:Nat):xB tk u []=[]:=rfl
theorem zK8(tk u:Nat)(p:Int×Str)(r:List (Int×Str)):xB tk u (p::r)=⟨p.1,.int p.1 tk,.str p.2 (tk + 1)⟩::xB (tk + 2) u r:=rfl
noncomputable def zHB:Nat->List (Int×Str)->List (Value×Value)
 | _,[]=>[]
 | tk,p::r=>(.int p.1 tk,.str p.2 (tk + 1))::zHB (tk + 2) r
theorem zT1(tk:Nat)(p:Int×Str)(r:List (Int×Str)):zHB tk (p::r)=(.int p.1 tk,.str p.2 (tk + 1))::zHB (tk + 2) r:=rfl
theorem zHw{w:World}{pos:Pos}:∀(q:List (Int×Str)) (s:Shared),Ev w (evalPairs (q.map (pr pos))) s (zHB s.toks q) {s with toks:=s.toks + 2 * q.length} (3 * q.length)
 | [],s=>by exact Ev.pure
 | p::r,s=>by
  rw [Cs];unfold evalPairs;have e1:Ev w (pr pos p).1 s (.int p.1 s.toks) {s with toks:=s.toks + 1} 1:=Ev.mkInt;have e2:Ev w (holding [.int p.1 s.toks] (pr pos p).2) {s with toks:=s.toks + 1} (.str p.2 (s.toks + 1)) {s with toks:=s.toks + 1 + 1} 2:=
   Ev.holding ((Ev.bind Ev.mkText (m':=1) ((Ev.bind Ev.standAt (m':=0) (by exact Ev.pure)).cong rfl rfl)).cong rfl rfl)
  have ih:=zHw (w:=w) (pos:=pos) r {s with toks:=s.toks + 1 + 1};refine (Ev.bind e1 (Ev.bind e2 (Ev.bind (Ev.holding ih) (m':=0) (by exact Ev.pure)))).cong ?_ ?_
  ·simp only [Bh]
   have:s.toks + 1 + 1 + 2 * r.length=s.toks + 2 * (r.length + 1):=by lia
   rw [this]
  ·simp only [Bh]; lia
theorem zIM{w:World}{d:Addr}(hd:CL 28 d=true):∀(q:List (Int×Str)) (lo:Int) (tk:Nat) (es:List DictEntry) (ep:Nat) (s:Shared),0<=lo->asc lo q=true->s.heap.get? d=some (dOf es ep)->
  (∀e∈es,e.hash < lo)->es.length + q.length<=1000->
  Ev w (forIn (zHB tk q) PUnit.unit fun x (_:PUnit)=>match x with | (k,v)=>do
    dictSet d k v
    pure (CE PUnit.unit)) s PUnit.unit {s with heap:=s.heap.update d (fun _=>dOf (es ++ xB tk 0 q) (ep + q.length)),toks:=s.toks + q.length} (10 * q.length)
 | [],lo,tk,es,ep,s,_,_,ho,_,_=>by
  refine Ev.cong (n:=0) (s':=s) (by exact Ev.pure) ?_ rfl;simp only [zLH,zK8,Bp,CS,Nat.add_zero];rw [zC0 ho]
 | p::r,lo,tk,es,ep,s,hlo,ha,ho,hes,hz=>by
  simp only [zB4,zCd,Bu,decide_eq_true_eq] at ha;obtain ⟨⟨a1,a2⟩,a3⟩:=ha;simp only [zT1];rw [CM];simp only [Bh] at hz;have e3:=Ev.set (w:=w) (s:=s) (t:=tk) (v:= .str p.2 (tk + 1)) (by lia) a2 ho (fun e he=>by have:=hes e he; lia) hd (by lia);have ih:=zIM (w:=w) hd r (p.1 + 1) (tk + 2) (es ++ [⟨p.1,.int p.1 tk,.str p.2 (tk + 1)⟩]) (ep + 1)
   {s with heap:=s.heap.update d (fun _=>dOf (es ++ [⟨p.1,.int p.1 tk,.str p.2 (tk + 1)⟩]) (ep + 1)),toks:=s.toks + 1} (by lia) a3 (zBk ho rfl)
   (fun e he=>by
    rcases BR.mp he with q | q
    ·have:=hes e q; lia
    ·rcases BP.mp q with rfl; show p.1 < p.1 + 1; lia) (by simp only [BY,Bh,CS]; lia)
  refine (Ev.bind (Ev.bind e3 (m':=0) (by exact Ev.pure)) (by exact ih)).cong ?_ ?_
  ·simp only [zGk,zLH,zK8,CA,DZ,CN,Bh]
   have t1:s.toks + 1 + r.length=s.toks + (r.length + 1):=by lia
   have t2:ep + 1 + r.length=ep + (r.length + 1):=by lia
   rw [t1,t2]
  ·simp only [Bh]; lia
theorem Ev.subShort{w:World}{s:Shared}{pos:Pos}{q:List (Int×Str)}{lo:Int}(hlo:0<=lo)(ha:asc lo q=true)(hl:q.length<=15)(hd:CL 28 s.heap.objs.size=true):
  Ev w (subDict (q.map (pr pos))) s s.heap.objs.size {s with heap:=s.heap.push (dOf (xB s.toks 0 q) q.length),toks:=s.toks + 3 * q.length} (1 + 13 * q.length):=by
 unfold subDict;refine (Ev.bind Ev.alloc (m':=13 * q.length) ?_).cong rfl (by lia);refine (Ev.bind (n:=13 * q.length) (m':=0) (s':={s with heap:=s.heap.push (dOf (xB s.toks 0 q) q.length),toks:=s.toks + 3 * q.length}) (a:=()) (Ev.holding ?_) (by exact Ev.pure)).cong rfl (by lia);rw [BW,if_pos hl];have p:=zHw (w:=w) (pos:=pos) q {s with heap:=s.heap.push (dOf [] 0)};have:=zIM (w:=w) hd q lo s.toks [] 0 {s with heap:=s.heap.push (dOf [] 0),toks:=s.toks + 2 * q.length} hlo ha (Bf _ rfl) (fun e he=>nomatch he) (by simp only [CS]; lia);refine (Ev.bind p (Ev.holding (Ev.bind this (m':=0) (by exact Ev.pure)))).cong ?_ (by lia);simp only [zII,CN,Cx];have:s.toks + 2 * q.length + q.length=s.toks + 3 * q.length:=by lia
 rw [this]
noncomputable abbrev itm(pos:Pos)(p:Int×Str):Option (Sem Value)×Sem Value:=(some (mkInt p.1),do let x <-mkText p.2; standAt pos; pure x)
noncomputable abbrev St2:=Option Addr×List (Sem Value×Sem Value)
noncomputable def bf:{bf:(Option (Sem Value)×Sem Value->St2->Sem (ForInStep St2))×(St2->Sem Value) // ∀items,dictDisplay items=(forIn items ((none,[]):St2) bf.1) >>=bf.2}:=⟨(_,_),fun _=>rfl⟩
noncomputable def uM(run:List (Sem Value×Sem Value))(main:Option Addr):Sem (Option Addr):=
 if run.isEmpty=true then pure main else match main with
  | none=>do let a <-subDict run; pure (some a)
  | some d=>do
   let sub <-holding [.ref d] (subDict run)
   (holding [.ref d,.ref sub] (mergeMapping d (.ref sub) false)).onRaise fun x=>do
    let _ <-holding [.ref d,x] (runValue (.builtin "proto.let_go" {}))
    pure ()
   pure (some d)
theorem zGi(k v:Sem Value)(m:Option Addr)(run:List (Sem Value×Sem Value)):bf.1.1 (some k,v) (m,run)=
  if ((run ++ [(k,v)]).length==17)=true then (uM (run ++ [(k,v)]) m >>=fun main=>pure (CE (main,[]))) else pure (CE (m,run ++ [(k,v)])):=rfl
theorem zWe(m:Option Addr)(run:List (Sem Value×Sem Value)):bf.1.2 (m,run)=(uM run m >>=fun r=>match r with | some d=>pure (.ref d) | none=>newDict):=rfl
theorem zDo{w:World}{pos:Pos}{rest:List (Option (Sem Value)×Sem Value)}{main main':Option Addr}{fin:St2}{s s1 s2:Shared}{n1 n2:Nat}:
  ∀(c r0:List (Int×Str)),c≠[]->r0.length + c.length=17->Ev w (uM ((r0 ++ c).map (pr pos)) main) s main' s1 n1->Ev w (forIn rest ((main',[]):St2) bf.1.1) s1 fin s2 n2->
  Ev w (forIn (c.map (itm pos) ++ rest) ((main,r0.map (pr pos)):St2) bf.1.1) s fin s2 (n1 + n2)
 | [],_,h,_,_,_=>absurd rfl h
 | [p],r0,_,hl,h1,h2=>by
  rw [Cs,DZ,CM,zGi];have e:r0.map (pr pos) ++ [pr pos p]=(r0 ++ [p]).map (pr pos):=by rw [Bv]; rfl
  rw [show (mkInt p.1,do let x <-mkText p.2; standAt pos; pure x)=pr pos p from rfl,e,if_pos (by rw [BW,BY]; simp only [Bh,CS] at hl ⊢; rw [hl]; rfl)];have e2:Ev w (uM ((r0 ++ [p]).map (pr pos)) main >>=fun m=>pure (CE ((m,[]):St2))) s (CE (main',[])) s1 n1:=(Ev.bind h1 (m':=0) (by exact Ev.pure)).cong rfl rfl;exact Ev.bind e2 (by exact h2)
 | p::p2::r,r0,_,hl,h1,h2=>by
  rw [Cs,DZ,CM,zGi];have e:r0.map (pr pos) ++ [pr pos p]=(r0 ++ [p]).map (pr pos):=by rw [Bv]; rfl
  rw [show (mkInt p.1,do let x <-mkText p.2; standAt pos; pure x)=pr pos p from rfl,e,if_neg (by
   rw [BW,BY]; simp only [Bh,CS] at hl ⊢;rw [beq_iff_eq]; lia)]
  have ih:=zDo (w:=w) (pos:=pos) (rest:=rest) (main:=main) (main':=main') (fin:=fin) (s:=s) (s1:=s1) (s2:=s2) (p2::r) (r0 ++ [p]) (by simp) (by simp only [BY,Bh,CS] at hl ⊢; lia)
   (by rw [CA]; exact h1) h2
  have e2:Ev w (pure (CE ((main,(r0 ++ [p]).map (pr pos)):St2))) s (CE (main,(r0 ++ [p]).map (pr pos))) s 0:=Ev.pure;exact (Ev.bind e2 (by exact ih)).cong rfl (by lia)
theorem zLg{w:World}{pos:Pos}{main:Option Addr}{s:Shared}:∀(c r0:List (Int×Str)),r0.length + c.length < 17->
  Ev w (forIn (c.map (itm pos)) ((main,r0.map (pr pos)):St2) bf.1.1) s (main,(r0 ++ c).map (pr pos)) s 0
 | [],r0,_=>by rw [Bp]; exact Ev.pure
 | p::r,r0,hl=>by
  rw [Cs,CM,zGi];have e:r0.map (pr pos) ++ [pr pos p]=(r0 ++ [p]).map (pr pos):=by rw [Bv]; rfl
  rw [show (mkInt p.1,do let x <-mkText p.2; standAt pos; pure x)=pr pos p from rfl,e,if_neg (by
   rw [BW,BY]; simp only [Bh,CS] at hl ⊢;rw [beq_iff_eq]; lia)]
  have ih:=zLg (w:=w) (pos:=pos) (main:=main) (s:=s) r (r0 ++ [p]) (by simp only [BY,Bh,CS] at hl ⊢; lia);rw [CA] at ih;have e2:Ev w (pure (CE ((main,(r0 ++ [p]).map (pr pos)):St2))) s (CE (main,(r0 ++ [p]).map (pr pos))) s 0:=Ev.pure;exact (Ev.bind e2 (by exact ih)).cong rfl rfl
structure Bs where
 t:BT
 n:Nat
 tk:Nat
 es:List DictEntry
 ep:Nat
noncomputable abbrev Bs.sh(b:Bs)(os:OsState):Shared:=(Mine.sh b.t b.n b.tk os).abs
noncomputable def zAH:Int->List (Int×Str)->Int
 | lo,[]=>lo
 | _,p::r=>zAH (p.1 + 1) r
theorem zHk(lo:Int):zAH lo []=lo:=rfl
theorem zGR(lo:Int)(p:Int×Str)(r:List (Int×Str)):zAH lo (p::r)=zAH (p.1 + 1) r:=rfl
theorem zA4:∀(c:List (Int×Str)) (lo:Int) (r:List (Int×Str)),asc lo (c ++ r)=(asc lo c && asc (zAH lo c) r)
 | [],lo,r=>by simp [zB4,zCd,zHk,zGR]
 | p::c,lo,r=>by simp only [DZ,zB4,zCd,zHk,zGR,zA4 c,Bool.and_assoc]
theorem zGv:∀(c:List (Int×Str)) (lo:Int),asc lo c=true->lo<=zAH lo c
 | [],lo,_=>Int.le_refl _
 | p::c,lo,h=>by
  simp only [zB4,zCd,Bu,decide_eq_true_eq] at h;have:=zGv c (p.1 + 1) h.2;simp only [zHk,zGR]; lia
theorem zAB:∀(c:List (Int×Str)) (lo:Int) (tk:Nat),asc lo c=true->∀e∈yV tk c,lo<=e.hash/\e.hash < zAH lo c
 | [],_,_,_,e,he=>nomatch he
 | p::c,lo,tk,h,e,he=>by
  simp only [zB4,zCd,Bu,decide_eq_true_eq] at h;have l:=zGv c (p.1 + 1) h.2;simp only [zHk,zGR];rcases Bl.mp he with rfl | he
  ·exact ⟨h.1.1,by show p.1 < _; lia⟩
  ·have:=zAB c (p.1 + 1) (tk + 3) h.2 e he
   exact ⟨by lia,this.2⟩
theorem zDf:∀(c:List (Int×Str)) (lo:Int) (tk:Nat) (es:List DictEntry),asc lo c=true->(∀e∈es,e.hash < lo)->zBK es (yV tk c)
 | [],_,_,_,_,_=>trivial
 | p::c,lo,tk,es,h,hes=>by
  simp only [zB4,zCd,Bu,decide_eq_true_eq] at h;refine ⟨fun x hx=>by have:=hes x hx; show x.hash≠p.1; lia,zDf c (p.1 + 1) (tk + 3) _ h.2 fun e he=>?_⟩;rcases BR.mp he with q | q
  ·have:=hes e q; lia
  ·rcases BP.mp q with rfl; show p.1 < p.1 + 1; lia
theorem zB7:∀(c:List (Int×Str)) (lo:Int) (tk u:Nat) (es:List DictEntry),asc lo c=true->(∀e∈es,e.hash < lo)->zBK es (xB tk u c)
 | [],_,_,_,_,_,_=>trivial
 | p::c,lo,tk,u,es,h,hes=>by
  simp only [zB4,zCd,Bu,decide_eq_true_eq] at h;refine ⟨fun x hx=>by have:=hes x hx; show x.hash≠p.1; lia,zB7 c (p.1 + 1) (tk + 2) u _ h.2 fun e he=>?_⟩;rcases BR.mp he with q | q
  ·have:=hes e q; lia
  ·rcases BP.mp q with rfl; show p.1 < p.1 + 1; lia
theorem zEI:∀(tk:Nat) (c:List (Int×Str)),zAZ (yV tk c)
 | _,[]=>fun e he=>nomatch he
 | tk,p::c=>fun e he=>by
  rcases Bl.mp he with rfl | he
  ·exact ⟨tk,rfl⟩
  ·exact zEI (tk + 3) c e he
theorem zEb:∀(tk u:Nat) (c:List (Int×Str)),zAZ (xB tk u c)
 | _,_,[]=>fun e he=>nomatch he
 | tk,u,p::c=>fun e he=>by
  rcases Bl.mp he with rfl | he
  ·exact ⟨tk,rfl⟩
  ·exact zEb (tk + 2) u c e he
theorem zBp:∀(tk u:Nat) (q:List (Int×Str)),(xB tk u q).length=q.length
 | _,_,[]=>rfl
 | tk,u,p::r=>congrArg (· + 1) (zBp (tk + 2) u r)
noncomputable def zCr(d:Nat)(b:Bs)(sub:List DictEntry)(tk:Nat):Bs:=
 {t:=(b.t.ins b.n (dOf sub sub.length)).set d (fun _=>dOf (b.es ++ sub) (b.ep + sub.length)),n:=b.n + 1,tk,es:=b.es ++ sub,ep:=b.ep + sub.length}
structure BsOk(d:Nat)(b:Bs)(lo:Int):Prop where
 get:b.t.get d=some (dOf b.es b.ep)
 lt:d < b.n
 big:CL 28 d=true
 low:∀e∈b.es,e.hash < lo
 pos:0<=lo
 ne:b.es≠[]
theorem zQe{w:World}{os:OsState}{d:Nat}{b:Bs}{lo:Int}{sub:List DictEntry}{run:List (Sem Value×Sem Value)}{tk n1:Nat}(O:BsOk d b lo)
  (hs:Ev w (subDict run) (b.sh os) b.n {b.sh os with heap:=(b.sh os).heap.push (dOf sub sub.length),toks:=tk} n1) (hk:zAZ sub) (hp:zBK b.es sub) (hz:b.es.length + sub.length<=1000)
  (hi:((b.t.ins b.n (dOf sub sub.length)).get b.n).isSome=true) (hr:run.isEmpty=false):
  Ev w (uM run (some d)) (b.sh os) (some d) ((zCr d b sub tk).sh os) (n1 + (5 + 6 * sub.length))/\(zCr d b sub tk).t.get d=some (dOf (b.es ++ sub) (b.ep + sub.length)):=by
 have hdn:d≠b.n:=DQ O.lt;have g1:(b.t.ins b.n (dOf sub sub.length)).get d=some (dOf b.es b.ep):=by rw [BT.get_ins _ _ _ hi,if_neg hdn]; exact O.get
 have g2:(b.t.ins b.n (dOf sub sub.length)).get b.n=some (dOf sub sub.length):=by rw [BT.get_ins _ _ _ hi,if_pos rfl]
 have gg:(zCr d b sub tk).t.get d=some (dOf (b.es ++ sub) (b.ep + sub.length)):=by
  show (BT.set _ _ _).get d=_;rw [BT.get_set,if_pos rfl,g1]; rfl
 refine ⟨?_,gg⟩;unfold uM;rw [hr,if_neg Bk];dsimp only;have hh:(b.sh os).heap.push (dOf sub sub.length)=absHeap (b.t.ins b.n (dOf sub sub.length)) (b.n + 1) {}:=(absHeap_ins hi).symm;rw [hh] at hs;refine Ev.bind (Ev.holding hs) ?_;have f1:(absHeap (b.t.ins b.n (dOf sub sub.length)) (b.n + 1) {}).get? d=some (dOf b.es b.ep):=abs_get (Nat.lt_succ_of_lt O.lt) g1;have f2:(absHeap (b.t.ins b.n (dOf sub sub.length)) (b.n + 1) {}).get? b.n=some (dOf sub sub.length):=abs_get (Cg _) g2;have hsy:(b.n==sysModules)=false:=by
  rw [beq_eq_false_iff_ne];have:=C9 O.big;have:=O.lt;show b.n≠1
  lia
 have m:=Ev.merge (w:=w) (s:={b.sh os with heap:=absHeap (b.t.ins b.n (dOf sub sub.length)) (b.n + 1) {},toks:=tk}) O.big hk hdn O.ne hsy f1 f2 hp hz;refine (Ev.bind (Ev.onRaise (Ev.holding m)) (m':=0) (by exact Ev.pure)).cong ?_ rfl;show Shared.mk _ _ _ _ _=Shared.mk _ _ _ _ _;rw [show (absHeap (b.t.ins b.n (dOf sub sub.length)) (b.n + 1) ({}:Life)).update d (fun _=>dOf (b.es ++ sub) (b.ep + sub.length))=absHeap (zCr d b sub tk).t (b.n + 1) {} from (absHeap_set g1).symm];rfl
noncomputable def zNa(d:Nat):Bs->List (List (Int×Str))->Bs
 | b,[]=>b
 | b,c::r=>zNa d (zCr d b (yV b.tk c) (b.tk + 3 * c.length)) r
noncomputable def okB(d:Nat):Bs->List (List (Int×Str))->Bool
 | _,[]=>true
 | b,c::r=>BQ c.length 17 && ((b.t.ins b.n (dOf (yV b.tk c) 17)).get b.n).isSome && CL (b.es.length + 17) 1000 && okB d (zCr d b (yV b.tk c) (b.tk + 3 * c.length)) r
theorem zUW(d:Nat)(b:Bs)(c:List (Int×Str))(r:List (List (Int×Str))):okB d b (c::r)=(BQ c.length 17 && ((b.t.ins b.n (dOf (yV b.tk c) 17)).get b.n).isSome && CL (b.es.length + 17) 1000 && okB d (zCr d b (yV b.tk c) (b.tk + 3 * c.length)) r):=rfl
theorem zPO{d:Nat}{b:Bs}{lo:Int}{c:List (Int×Str)}{tk:Nat}(O:BsOk d b lo)(ha:asc lo c=true)(g:(zCr d b (yV b.tk c) tk).t.get d=some (dOf (b.es ++ yV b.tk c) (b.ep + (yV b.tk c).length))):
  BsOk d (zCr d b (yV b.tk c) tk) (zAH lo c):=by
 have l:=zGv c lo ha;refine ⟨g,Nat.lt_succ_of_lt O.lt,O.big,fun e he=>?_,by have:=O.pos; lia,fun q=>O.ne (List.append_eq_nil_iff.mp q).1⟩;rcases BR.mp he with q | q
 ·have:=O.low e q; lia
 ·exact (zAB c lo b.tk ha e q).2
theorem zKW{w:World}{os:OsState}{pos:Pos}{d:Nat}{rest:List (Option (Sem Value)×Sem Value)}{fin:St2}{s2:Shared}{n2:Nat}:
  ∀(cs:List (List (Int×Str))) (b:Bs) (lo:Int),BsOk d b lo->asc lo cs.flatten=true->okB d b cs=true->
  Ev w (forIn rest ((some d,[]):St2) bf.1.1) ((zNa d b cs).sh os) fin s2 n2->
  Ev w (forIn (cs.flatten.map (itm pos) ++ rest) ((some d,[]):St2) bf.1.1) (b.sh os) fin s2 (330 * cs.length + n2)
 | [],b,lo,_,_,_,h=>h.cong rfl (by simp)
 | c::r,b,lo,O,ha,hk,h=>by
  simp only [zUW,Bu] at hk;obtain ⟨⟨⟨k1,k2⟩,k3⟩,k4⟩:=hk;have hl:c.length=17:=Bg k1;rw [EJ,zA4,Bu] at ha;have el:(yV b.tk c).length=17:=by rw [wK]; exact hl
  have hd28:CL 28 (b.sh os).heap.objs.size=true:=by
   show CL 28 (absHeap b.t b.n {}).objs.size=true;rw [EO];exact Nat.ble_eq_true_of_le (Bn (C9 O.big) (DR O.lt))
  have hs:=Ev.subLong (w:=w) (s:=b.sh os) (pos:=pos) (q:=c) O.pos ha.1 (by lia) (by lia) hd28;have hsz:(b.sh os).heap.objs.size=b.n:=EO ..;rw [hsz] at hs;have hs':Ev w (subDict (c.map (pr pos))) (b.sh os) b.n {b.sh os with heap:=(b.sh os).heap.push (dOf (yV b.tk c) (yV b.tk c).length),toks:=b.tk + 3 * c.length} (2 + 13 * c.length):=by
   rw [el]; rw [hl] at hs ⊢; exact hs
  have k3':=C9 k3;obtain ⟨e1,g⟩:=zQe O hs' (zEI _ _) (zDf c lo b.tk b.es ha.1 O.low) (by lia) (by rw [el]; exact k2) (by cases c with | nil=>simp at hl | cons _ _=>rfl);have O':=zPO (tk:=b.tk + 3 * c.length) O ha.1 g;have ih:=zKW (w:=w) (os:=os) (pos:=pos) (d:=d) (rest:=rest) (fin:=fin) (s2:=s2) (n2:=n2) r _ _ O' ha.2 k4 h;have:=zDo (w:=w) (pos:=pos) (rest:=r.flatten.map (itm pos) ++ rest) (main:=some d) (fin:=fin) c [] (fun q=>by rw [q] at hl; simp at hl) (by simp only [CS]; lia) e1 ih;rw [EJ,Bv,CA];refine this.cong rfl ?_;rw [el]; simp only [Bh]; lia
theorem zKt{w:World}{os:OsState}{pos:Pos}{t:BT}{n tk:Nat}{c0 last:List (Int×Str)}{cs:List (List (Int×Str))}{b1 b2:Bs}{lo:Int}(hlo:0<=lo)
  (hb1:b1=⟨t.ins n (dOf (yV tk c0) 17),n + 1,tk + 51,yV tk c0,17⟩) (hb2:b2=zNa n b1 cs) (hl0:BQ c0.length 17=true) (hll:CL last.length 15=true) (hle:last.isEmpty=false)
  (ha:asc lo (c0 ++ (cs.flatten ++ last))=true) (hn:CL 28 n=true) (h0:((t.ins n (dOf (yV tk c0) 17)).get n).isSome=true) (hk:okB n b1 cs=true)
  (hi:((b2.t.ins b2.n (dOf (xB b2.tk 0 last) last.length)).get b2.n).isSome=true) (hz:CL (b2.es.length + last.length) 1000=true):
  Ev w (dictDisplay ((c0 ++ (cs.flatten ++ last)).map (itm pos))) ((Mine.sh t n tk os).abs) (.ref n) ((zCr n b2 (xB b2.tk 0 last) (b2.tk + 3 * last.length)).sh os) (223 + 330 * cs.length + (6 + 19 * last.length)):=by
 have hl:c0.length=17:=Bg hl0;have el:(yV tk c0).length=17:=by rw [wK]; exact hl
 rw [zA4,Bu,zA4,Bu] at ha;obtain ⟨a0,a1,a2⟩:=ha;have hsz:((Mine.sh t n tk os).abs).heap.objs.size=n:=EO ..;have s0:=Ev.subLong (w:=w) (s:=(Mine.sh t n tk os).abs) (pos:=pos) (q:=c0) hlo a0 (by lia) (by lia) (by rw [hsz]; exact hn);rw [hsz,hl] at s0;have hh:((Mine.sh t n tk os).abs).heap.push (dOf (yV tk c0) 17)=absHeap (t.ins n (dOf (yV tk c0) 17)) (n + 1) {}:=(absHeap_ins h0).symm;have f0:Ev w (uM (([] ++ c0).map (pr pos)) none) ((Mine.sh t n tk os).abs) (some n) (b1.sh os) 223:=by
  unfold uM;rw [CN,if_neg (by cases c0 with | nil=>simp at hl | cons _ _=>exact Bk)];refine (Ev.bind s0 (m':=0) (by exact Ev.pure)).cong ?_ rfl;rw [hb1];show Shared.mk _ _ _ _ _=Shared.mk _ _ _ _ _;rw [show ((Mine.sh t n tk os).abs).heap.push (dOf (yV ((Mine.sh t n tk os).abs).toks c0) 17)=absHeap (t.ins n (dOf (yV tk c0) 17)) (n + 1) {} from hh];rfl
 have O1:BsOk n b1 (zAH lo c0):=by
  have l:=zGv c0 lo a0;rw [hb1];refine ⟨?_,Cg _,hn,fun e he=>(zAB c0 lo tk a0 e he).2,by lia,fun q=>?_⟩
  ·rw [BT.get_ins _ _ _ h0,if_pos rfl]
  ·have:(yV tk c0).length=0:=by rw [show yV tk c0=[] from q]; rfl
   lia
 have ends:∀(cs:List (List (Int×Str))) (b:Bs) (lo:Int),BsOk n b lo->asc lo cs.flatten=true->okB n b cs=true->BsOk n (zNa n b cs) (zAH lo cs.flatten):=by
  intro cs
  induction cs with
  | nil=>intro b lo O _ _; exact O
  | cons c r ih=>
   intro b lo O ha hk;simp only [zUW,Bu] at hk;obtain ⟨⟨⟨k1,k2⟩,k3⟩,k4⟩:=hk;have hl:c.length=17:=Bg k1;rw [EJ,zA4,Bu] at ha;have el:(yV b.tk c).length=17:=by rw [wK]; exact hl
   have g:(zCr n b (yV b.tk c) (b.tk + 3 * c.length)).t.get n=some (dOf (b.es ++ yV b.tk c) (b.ep + (yV b.tk c).length)):=by
    show (BT.set _ _ _).get n=_;rw [BT.get_set,if_pos rfl,el,BT.get_ins _ _ _ k2,if_neg (DQ O.lt),O.get]; rfl
   have:=ih _ _ (zPO O ha.1 g) ha.2 k4;have e:zAH lo (c::r).flatten=zAH (zAH lo c) r.flatten:=by
    rw [EJ];clear this ih k4 k3 k2 k1 hl ha el g O b
    induction c generalizing lo with
    | nil=>rfl
    | cons p c ihc=>exact ihc (p.1 + 1)
   rw [e]; exact this
 have O2:BsOk n b2 (zAH (zAH lo c0) cs.flatten):=by rw [hb2]; exact ends cs b1 _ O1 a1 hk
 have hd28:CL 28 (b2.sh os).heap.objs.size=true:=by
  show CL 28 (absHeap b2.t b2.n {}).objs.size=true;rw [EO];exact Nat.ble_eq_true_of_le (Bn (C9 O2.big) (DR O2.lt))
 have s2:=Ev.subShort (w:=w) (s:=b2.sh os) (pos:=pos) (q:=last) O2.pos a2 (C9 hll) hd28;have hsz2:(b2.sh os).heap.objs.size=b2.n:=EO ..;rw [hsz2] at s2;have eS:(xB b2.tk 0 last).length=last.length:=zBp ..;have s2':Ev w (subDict (last.map (pr pos))) (b2.sh os) b2.n {b2.sh os with heap:=(b2.sh os).heap.push (dOf (xB b2.tk 0 last) (xB b2.tk 0 last).length),toks:=b2.tk + 3 * last.length} (1 + 13 * last.length):=by
  rw [eS]; exact s2
 have hzz:=C9 hz;have e2:=(zQe O2 s2' (zEb _ _ _) (zB7 last _ b2.tk 0 b2.es a2 O2.low) (by lia) (by rw [eS]; exact hi) (by cases last with | nil=>cases hle | cons _ _=>rfl)).1;rw [eS] at e2;rw [bf.2];have tl:Ev w (forIn (last.map (itm pos)) ((some n,[]):St2) bf.1.1) ((zNa n b1 cs).sh os) (some n,([] ++ last).map (pr pos)) (b2.sh os) 0:=by
  rw [<-hb2]; exact zLg last [] (by have:=C9 hll; simp only [CS]; lia)
 have rr:=zKW (w:=w) (os:=os) (pos:=pos) cs b1 _ O1 a1 hk tl;have ch:=zDo (w:=w) (pos:=pos) (main:=none) c0 [] (fun q=>by rw [q] at hl; simp at hl) (by simp only [CS]; lia) f0 rr;rw [Bv,Bv];refine (Ev.bind (n:=223 + (330 * cs.length + 0)) (by exact ch) (m':=6 + 19 * last.length) ?_).cong rfl (by lia);rw [CN,zWe];refine (Ev.bind e2 (m':=0) (by exact Ev.pure)).cong rfl (by lia)
end
noncomputable def b3a:PySem.Expr×Pos:=match st 5 with | .Assign _ e p=>(e,p) | _=>(default,default)
noncomputable def b3d:List (Option PySem.Expr)×List PySem.Expr×Pos:=match b3a.1 with | .Dict ks vs p=>(ks,vs,p) | _=>([],[],default)
noncomputable def b3k:List (Option PySem.Expr):=b3d.1
noncomputable def b3v:List PySem.Expr:=b3d.2.1
noncomputable def b3p:Pos:=b3d.2.2
noncomputable def b3q:Pos:=b3a.2
theorem yCS:st 5= .Assign [.Name (S "b3_exceptions") ⟨9,0,9,13⟩] (.Dict b3k b3v b3p) b3q:=by kernel_rfl
noncomputable def yA7(e:PySem.Expr):Option Const:=match e with | .Constant c _ _=>some c | _=>none
noncomputable def b3i(c:Option Const):Int:=match c with | some (.int i)=>i | _=>0
noncomputable def b3s(c:Option Const):Str:=match c with | some (.str s)=>s | _=>S ""
noncomputable def zZ0(p:Option PySem.Expr×PySem.Expr):Int×Str:=(b3i (p.1.bind yA7),b3s (yA7 p.2))
noncomputable def zRr:List (Int×Str):=(b3k.zip b3v).map zZ0
theorem zSM:((evalEachOpt b3k top.env_1).zip ((evalEach b3v top.env_1).map fun v=>do let x <-v; standAt b3p; pure x))=zRr.map (itm b3p):=by kernel_rfl
noncomputable def b3c(j:Nat):List (Int×Str):=(zRr.drop (17 * j)).take 17
noncomputable def zN1:List (List (Int×Str)):=(List.range 37).map fun j=>b3c (j + 1)
noncomputable def zDx:List (Int×Str):=zRr.drop 646
theorem zKZ:b3c 0 ++ (zN1.flatten ++ zDx)=zRr:=by kernel_rfl
theorem zZg:asc 0 (b3c 0 ++ (zN1.flatten ++ zDx))=true:=by rw [zKZ]; kernel_rfl
noncomputable def b1B(t:BT):Bs:=⟨t.ins 57 (dOf (yV 358 (b3c 0)) 17),58,409,yV 358 (b3c 0),17⟩
noncomputable def t2m(b:Bool)(P:Params):BT:=(nD (tp1 P) (nD (tp2 P) (nD (yAZ P) (nD (tp8 P) (nD (zCE P) (nD (zEl P) (lF zEB) (lF zEN)) (nD zB2 (lF zFm) eT)) (nD (zCh P) (nD zBV (lF zE0) eT) (nD zB5 (lF zEF) eT))) (nD (zDu P) (nD (zCB P) (nD zB (lF zFA) eT) (nD zH (lF zEP) eT)) (nD (zCq P) (nD zB (lF zFH) eT) (nD zEQ (lF zEW) eT)))) (nD (tp6 P) (nD (zCk P) (nD (zCs P) (nD zH (lF zFl) eT) (nD zBY (lF zFb) eT)) (nD (zCA P) (nD zB3 (lF zFx) eT) (nD (uO b P) (lF zE1) eT))) (nD (zCz P) (nD (zCD P) (nD zAt (lF zFa) eT) (nD zB (lF zFw) eT)) (nD zPM (nD zBZ (lF zFJ) eT) (nD zEO (lF zFc) eT))))) (nD (tp3 P) (nD (tp5 P) (nD (tp9 P) (nD (zCe P) (nD zB (lF zFM) eT) (nD zB (lF zEJ) eT)) (nD (zCp P) (nD zB6 (lF zFg) eT) (nD zBh (lF zFr) eT))) (nD (zCy P) (nD (zCt P) (nD zBj (lF zE6) eT) (nD zDm (lF zFd) eT)) (nD (zEk P) (nD zCa (lF zFv) eT) (nD zEC (lF zE8) eT)))) (nD (tp7 P) (nD (zCn P) (nD (zCo P) (nD zA2 (lF zFE) eT) (nD zB (lF zEG) eT)) (nD (zCj P) (nD zB9 (lF zE4) eT) (nD zEz (lF zEM) eT))) (nD (zCg P) (nD (zCi P) (nD zAs (lF zFD) eT) (nD zC7 (lF zER) eT)) (nD (zEn P) (nD (uF b P) (lF zFq) eT) (nD zES (lF zEX) eT))))))
theorem yDI(b:Bool)(w:World):okB 57 (b1B (t1 b w.params)) zN1=true:=by kernel_rfl
noncomputable def b2B(t:BT):Bs:=zNa 57 (b1B t) zN1
noncomputable def b3B(t:BT):Bs:=zCr 57 (b2B t) (xB (b2B t).tk 0 zDx) ((b2B t).tk + 3 * zDx.length)
theorem zZj(b:Bool)(w:World):((b3B (t1 b w.params)).t,(b3B (t1 b w.params)).n,(b3B (t1 b w.params)).tk)=(t2m b w.params,96,2308):=by kernel_rfl
theorem zVM(b:Bool)(w:World)(os:OsState):Ev w (dictDisplay (zRr.map (itm b3p))) (Mine.sh (t1 b w.params) 57 358 os).abs (.ref 57) (Mine.sh (t2m b w.params) 96 2308 os).abs 12515:=by
 have h:=zKt (w:=w) (os:=os) (pos:=b3p) (t:=t1 b w.params) (n:=57) (tk:=358) (c0:=b3c 0) (last:=zDx) (cs:=zN1) (b1:=b1B (t1 b w.params)) (b2:=b2B (t1 b w.params)) (lo:=0) (Int.le_refl 0) rfl rfl
  (by kernel_rfl) (by kernel_rfl) (by kernel_rfl) zZg (by kernel_rfl) (by kernel_rfl) (yDI b w) (by kernel_rfl) (by kernel_rfl)
 rw [zKZ] at h;obtain ⟨e1,e2⟩:=Prod.mk.inj (zZj b w);obtain ⟨e2,e3⟩:=Prod.mk.inj e2;refine h.cong ?_ (by kernel_rfl);show (Mine.sh (b3B (t1 b w.params)).t (b3B (t1 b w.params)).n (b3B (t1 b w.params)).tk os).abs=_;rw [e1,e2,e3]
noncomputable def EvP{α:Type}(w:World)(m:Sem α)(s:Shared)(a:α)(s':Shared)(n:Nat)(p:Pos):Prop:=
 ∀(K:α->Sem Fin) (H:Value->Sem Fin) (gd:Bool->Bool) (lv:List Value->List Value) (pos:Pos),Go w n s (at0 (m.wrap K H gd lv) pos) s' (at0 (K a) p)
theorem EvP.bind{α β:Type}{w:World}{s s' s2:Shared}{n m':Nat}{p:Pos}{m:Sem α}{f:α->Sem β}{a:α}{b:β}(h1:Ev w m s a s' n)(h2:EvP w (f a) s' b s2 m' p):EvP w (m >>=f) s b s2 (n + m') p:=fun K H gd lv pos=>by
 rw [Sem.bind_eq_wrap',Sem.wrap_wrap];obtain ⟨p1,e1⟩:=h1 (fun a=>(f a).wrap K H gd lv) (fun e=>(Sem.raise e).wrap K H gd lv) (fun g=>gd (id g)) (fun l=>lv (id l)) pos;exact e1.trans (h2 K H gd lv p1)
theorem EvP.cong{α:Type}{w:World}{m:Sem α}{a:α}{s s':Shared}{n n1:Nat}{p:Pos}(h:EvP w m s a s' n p)(e2:n=n1):EvP w m s a s' n1 p:=by subst e2; exact h
theorem zV2(b:Bool)(w:World)(os:OsState)(K:Flow->Sem Fin)(H:Value->Sem Fin)(gd:Bool->Bool)(lv:List Value->List Value)(pos:Pos):
  segGoT treeTable pw w 28 ann 1 7 (Mine.sh (t2m b w.params) 96 2308 os) (at0 ((assignStores top.env_1 (.ref 57) none ((assignEach [.Name (S "b3_exceptions") ⟨9,0,9,13⟩] top.env_1).map (·.2))).wrap K H gd lv) pos)=
   some (Mine.sh (t2 b w.params) 96 2309 os,at0 (K .next) ⟨9,0,9,13⟩):=by
 rw [Fast.te10295753902157049106,Cp]
 kernel_rfl
theorem zVs(b:Bool)(w:World)(os:OsState):EvP w (exec (st 5) top.env_1) (Mine.sh (t1 b w.params) 57 358 os).abs .next (Mine.sh (t2 b w.params) 96 2309 os).abs 12524 ⟨9,0,9,13⟩:=by
 rw [yCS]
 change EvP w (Bind.bind _ _) _ _ _ _ _
 refine (EvP.bind Ev.standAt (m':=12523) ?_).cong rfl;have e0:swapsWithSole [.Name (S "b3_exceptions") ⟨9,0,9,13⟩] (.Dict b3k b3v b3p) b3q.line top.env_1=Pure.pure false:=rfl;rw [e0];refine (EvP.bind Ev.pure (m':=12523) ?_).cong rfl;rw [if_neg Bk];have e1:Ev w (eval (.Dict b3k b3v b3p) top.env_1) (Mine.sh (t1 b w.params) 57 358 os).abs (.ref 57) (Mine.sh (t2m b w.params) 96 2308 os).abs 12516:=by
  change Ev w (Bind.bind _ _) _ _ _ _
  refine (Ev.bind Ev.standAt (m':=12515) ?_).cong rfl rfl;rw [zSM];exact zVM b w os
 refine (EvP.bind e1 (m':=7) ?_).cong rfl;have e2:swappedStores [.Name (S "b3_exceptions") ⟨9,0,9,13⟩] (.Dict b3k b3v b3p) top.env_1=Pure.pure none:=rfl;rw [e2];refine (EvP.bind Ev.pure (m':=7) ?_).cong rfl;exact fun K H gd lv pos=>segGo_of (zV2 b w os K H gd lv pos)
theorem g2(b:Bool)(w:World)(os:OsState):segRun treeTable pw w 28 ann 1 12525 (sh (t1 b w.params) 57 358 os).abs (piecesOf [st 5] top.env_1 cdE ⟨7,0,8,30⟩ fr0)=some (.next,(sh (t2 b w.params) 96 2309 os).abs,cdE,⟨9,0,9,13⟩):=by
 have h:=zVs b w os (fun f=>match f with | .next=>doneF .next | f=>doneF f) deadEnd id id ⟨7,0,8,30⟩;have e:(execs [st 5] top.env_1).wrap doneF deadEnd id id=(exec (st 5) top.env_1).wrap (fun f=>match f with | .next=>doneF .next | f=>doneF f) deadEnd id id:=by
  rw [execs_cons_wrap];refine Sem.wrap_congr _ _ _ (fun f=>?_) fun _=>rfl;cases f <;>rfl
 show segRun treeTable pw w 28 ann 1 12525 _ ⟨(execs [st 5] top.env_1).wrap doneF deadEnd id id,cdE,_,fr0⟩=_;rw [e];exact seg_go (N:=1) h rfl
noncomputable def yDP(P:Params):Obj:=oqq "dict" (Be (BU [E P (S "__name__") 247 (T (S "_sre") 246),E P (S "__doc__") 248 N,E P (S "__package__") 250 (T (S "") 249),E P (S "__loader__") 251 (R 14),E P (S "__spec__") 252 (R 26),E P (S "compile") 253 (B "_sre.compile"),E P (S "template") 254 (B "_sre.template"),E P (S "getcodesize") 255 (B "_sre.getcodesize"),E P (S "ascii_iscased") 256 (B "_sre.ascii_iscased"),E P (S "unicode_iscased") 257 (B "_sre.unicode_iscased"),E P (S "ascii_tolower") 258 (B "_sre.ascii_tolower"),E P (S "unicode_tolower") 259 (B "_sre.unicode_tolower"),E P (S "MAGIC") 261 (I 20230612 260),E P (S "CODESIZE") 263 (I 4 262),E P (S "MAXREPEAT") 265 (I 4294967295 264),E P (S "MAXGROUPS") 267 (I 1073741823 266),E P (S "copyright") 269 (T (S " SRE 2.2.2 Copyright (c) 1997-2002 by Secret Labs AB ") 268)]) 17)
noncomputable def He(P:Params):Heap:=DY (Array.mk [tp1 P,tp2 P,tp3 P,tp4 P,tp5 P,tp6 P,tp7 P,tp8 P,tp9 P,zCk P,zCn P,yDP P,zCy P,zCz P,zCg P,zCE P,zCe P,zCs P,zCo P,zCB P,zCt P,zCD P,zCi P,zCh P,zCp P,zCA P,zCj P,zCq P]) {}
noncomputable def H0(P:Params):Heap:=DY (Array.mk [tp1 P,tp2 P,tp3 P,tp4 P,tp5 P,tp6 P,tp7 P,tp8 P,tp9 P,zCk P,zCn P,zDu P,zCy P,zCz P,zCg P,zCE P,zCe P,zCs P,zCo P,zCB P,zCt P,zCD P,zCi P,zCh P,zCp P,zCA P,zCj P,zCq P]) {}
theorem opn(w:World):importEnds treeTable (opening pw) w 799 (start (opening pw)).1 (start (opening pw)).2=some ⟨He w.params,⟨[]⟩,{},276,(start (opening pw)).1.os⟩:=by
 rw [Fast.te10274390034422433532,Cp,Fast.te1435165496053646825]
 kernel_rfl
theorem fnc(w:World):(fun os=>(fenceModules? pw ⟨He w.params,⟨[]⟩,{},276,os⟩).map (fun s=>(s.heap,s.gens,s.drawn,s.toks)))=fun _=>some (H0 w.params,⟨[]⟩,{},276):=by
 rw [Fast.te14289696077712309145]
 kernel_rfl
theorem zVJ:∀w:World,(fencedOpening treeTable pw w 40000).map (fun s=>(s.heap,s.gens,s.drawn,s.toks))=some (H0 w.params,⟨[]⟩,{},276):=open_cut opn (by kernel_rfl) fnc
theorem pre(b:Bool)(w:World)(os:OsState):topGo treeTable pw w 28 ann 12 ⟨H0 w.params,⟨[]⟩,{},276,os⟩ (topStub pw)=some ((sh (tS b w.params) 32 282 os).abs,⟨denote treeTable cdE,cdE,⟨0,0,0,0⟩,fr0⟩):=by
 rw [Fast.te15667345088766844465,Fast.te11892475500146522536,Cp]
 kernel_rfl
theorem g0(w:World):gPz w:=
 byRow2 "special-get-raises" (P:=gPz)
  (fun w=>byRow2 "set-order" (P:=fun w=>gPz (w.withFollow "special-get-raises" false)) (zZT) (yB9) w)
  (fun w=>byRow2 "set-order" (P:=fun w=>gPz (w.withFollow "special-get-raises" true)) (yAe) (yAS) w) w
theorem g4(b:Bool)(w:World):gPy b w:=
 byRow2 "special-get-raises" (P:=gPy b) (yC8 b) (yCT b) w
theorem fin(b:Bool)(w:World)(os:OsState):topRun treeTable pw w 28 ann 2 (sh (t7 b w.params) 363 2927 os).abs ⟨doneF .next,cdE,⟨290,0,298,108⟩,fr0⟩=some (sh (t7 b w.params) 363 2927 os).abs:=rfl
theorem zRI:yAa ++ (zZS ++ (yBg ++ ([st 5] ++ (yBa ++ (yAR ++ (yBL ++ (yAt ++ [])))))))=zQf:=by kernel_rfl
noncomputable abbrev bO(w:World):Bool:=w.params.followText "set-order"
noncomputable def H1(P:Params):Heap:=absHeap (t7 (P.followText "set-order") P) 363 {}
noncomputable def yC3:Nat:=Nat.add 12 (Nat.add 1 (39 + (999 + (30 + (12525 + (795 + (979 + (266 + (1060 + 2)))))))))
theorem yCy(w:World)(os:OsState):topRun treeTable pw w 28 ann yC3 ⟨H0 w.params,⟨[]⟩,{},276,os⟩ (topStub pw)=some ⟨H1 w.params,⟨[]⟩,{},2927,os⟩:=by
 have k7:=ED (rest:=[]) (EN (g7 (bO w) w os)) (fin (bO w) w os);have k5:=ED (EN (g5 (bO w) w os)) k7;have k4:=ED (EN (g4 (bO w) w os)) k5;have k3:=ED (EN (g3 (bO w) w os)) k4;have k2:=ED (g2 (bO w) w os) k3;have k1:=ED (EN (g1 (bO w) w os)) k2;have k0:=ED (EN (g0 w os)) k1;have k6:=ED (EN (g6 (bO w) w os)) k0;rw [zRI] at k6;have kb:=piece_block (n:=1) (b:=zQf) (s:=(sh (tS (bO w) w.params) 32 282 os).abs) (c:=cdE) (pos:=⟨0,0,0,0⟩) rfl k6;exact go_top (pre (bO w) w os) kb
noncomputable def qv:Program:={pw with main:={pw.main with body:=[st 0,st 75]}}
noncomputable def zK6:List Str:=[BN "_wall",BN "tspecials",BN "_name_disallowed_re",BN "_value_disallowed_re",BN "_formatparam",BN "Headers",BN "_netrclex",BN "b1_set",BN "in_table_b1",BN "b3_exceptions",BN "map_table_b3",BN "LPAR",BN "RPAR",BN "LSQB",BN "RSQB",BN "COLON",BN "COMMA",BN "SEMI",BN "PLUS",BN "MINUS",BN "STAR",BN "SLASH",BN "VBAR",BN "AMPER",BN "LESS",BN "GREATER",BN "EQUAL",BN "DOT",BN "PERCENT",BN "LBRACE",BN "RBRACE",BN "EQEQUAL",BN "NOTEQUAL",BN "LESSEQUAL",BN "GREATEREQUAL",BN "TILDE",BN "CIRCUMFLEX",BN "LEFTSHIFT",BN "RIGHTSHIFT",BN "DOUBLESTAR",BN "PLUSEQUAL",BN "MINEQUAL",BN "STAREQUAL",BN "SLASHEQUAL",BN "PERCENTEQUAL",BN "AMPEREQUAL",BN "VBAREQUAL",BN "CIRCUMFLEXEQUAL",BN "LEFTSHIFTEQUAL",BN "RIGHTSHIFTEQUAL",BN "DOUBLESTAREQUAL",BN "DOUBLESLASH",BN "DOUBLESLASHEQUAL",BN "AT",BN "ATEQUAL",BN "RARROW",BN "ELLIPSIS",BN "COLONEQUAL",BN "EXCLAMATION",BN "EXACT_TOKEN_TYPES",BN "_law_cells",BN "_law_road",BN "_law_spelled",BN "_law_written",BN "_law_lexer",BN "_law_read",BN "_law_lay",BN "_law_joined",BN "_law_due",BN "_law_run"]
noncomputable def XtL(s:Shared):Bool:=xlAt qv [] s && recOk [] s
noncomputable def obs(s:Shared):Heap:=s.heap
noncomputable abbrev sE(P:Params)(os:OsState):Shared:=⟨H1 P,⟨[]⟩,{},2927,os⟩
theorem szs(w:World):((H0 w.params).isNs mainGlobals && (⟨[]⟩:Array GenState).size==0,(H0 w.params).objs.size,(H0 w.params).nsMap mainGlobals "__annotations__")=(true,28,ann):=by
 rw [Fast.te8920871248978507458]
 kernel_rfl
theorem yAH(w:World)(os:OsState):(staticsOk (importedModules pw.main.body) (H0 w.params) (H1 w.params) && namesBound pw (H1 w.params) && gensDone (sE w.params os) && laidKept (H0 w.params) (H1 w.params))=true:=by
 kernel_rfl
theorem zZQ(w:World)(os:OsState):openSeen qv zK6 (importedModules pw.main.body) XtL true (sE w.params os)=openGood qv zK6:=by
 rw [Fast.te4187177175401517315]
 kernel_rfl
noncomputable def Hk:Hook:=⟨Heap,obs,fun w=>H1 w.params,fun w h=>∀b o,(H1 w.params).get? b=some o->h.get? b=some o,fun w s e b o hb=>by subst_vars; exact (show s.heap=H1 w.params from e)▸hb,fun w h h' a k b o hb=>k b o (a b o hb)⟩
theorem zF{a b:Bool}(h:(a && b)=true){G:Prop}(g:a=true->b=true->G):G:=(Bd.mp h).elim g
theorem zJ{α β:Type}{o:Option α}{f:α->Option β}{y:β}(h:o.bind f=some y){G:Prop}(g:∀x,o=some x->f x=some y->G):G:=(Option.bind_eq_some_iff.mp h).elim fun x h=>g x h.1 h.2
theorem yJ{α β:Type}{o:Option α}{f:α->β}{y:β}(h:o.map f=some y){G:Prop}(g:∀x,o=some x->f x=y->G):G:=(EY.mp h).elim fun x h=>g x h.1 h.2
inductive V where
 | none | bool (b:Bool) | int (i:Int) | str (s:Str) | tup (l:List V) | lst (l:List V) | trk (i:Nat) | val (v:Value) | rng (a b c:Int) | il (l:List Int)
 deriving Inhabited
inductive Lf where
 | s (x:Str) | i (n:Int)
inductive Pl where
 | one (a:Lf) | tup (l:List Lf)
noncomputable def lfV:Lf->V
 | .s x=> .str x
 | .i n=> .int n
noncomputable def plV:Pl->V
 | .one a=>lfV a
 | .tup l=> .tup (l.map lfV)
noncomputable abbrev plL(l:List Pl):List V:=l.map plV
noncomputable def wlV(p:Str×List Int):V:= .tup [.str p.1,.il p.2]
noncomputable abbrev wlL(l:List (Str×List Int)):List V:=l.map wlV
inductive Ob where
 | list (l:List V)
 | ns (kv:List (Str×V))
 | dict (kv:List (Str×V))
 | cell (v:Option V)
 | inst (C:Addr) (d:Nat)
 | meth (f:Addr) (self:V)
 | lam (fd:FuncData) (cl:List (Str×Nat)) (code:Nat)
 | crec (q:Str)
 | itms (d:Nat)
 | liter (src:V) (k:Nat)
 | enum (it:Nat) (k:Nat)
 | junk
 | citer (f:V) (sent:V) (live:Bool)
 | ctab (P:Addr) (made:Bool)
 | stk (b:Nat) (l:List Nat)
 | pls (l:List Pl)
 | wls (l:List (Str×List Int))
 | kd (H:Str->Int) (kv:List (Str×V))
noncomputable abbrev Sto:=List Ob
theorem noS{α:Type}{a:α}{P:Prop}(h:(none:Option α)=some a):P:=nomatch h
theorem noB{P:Prop}(h:false=true):P:=nomatch h
noncomputable def eqL:List Nat->List Nat->Bool
 | [],[]=>true
 | a::l,b::r=>BQ a b && eqL l r
 | _,_=>false
noncomputable def eqS(x y:Str):Bool:=eqL x.cps.toList y.cps.toList
noncomputable def lkS{α:Type}:List (Str×α)->Str->Option α
 | [],_=>none
 | (k,v)::r,x=>match eqS x k with
  | true=>some v
  | false=>lkS r x
theorem zCW(a b:List Nat):eqL a b=true ↔ a=b:=by
 induction a generalizing b with
 | nil=>cases b with
  | nil=>exact iff_of_true rfl rfl
  | cons=>exact iff_of_false (fun h=>nomatch h) (fun h=>nomatch h)
 | cons a l ih=>cases b with
  | nil=>exact iff_of_false (fun h=>nomatch h) (fun h=>nomatch h)
  | cons b r=>
   show (BQ a b && eqL l r)=true ↔ _;rw [Bu,Nat.beq_eq,ih r,List.cons.injEq]
theorem yI(x y:Str):eqS x y=true ↔ x=y:=by
 refine (zCW _ _).trans ⟨fun h=>?_,fun h=>h▸rfl⟩;cases x; cases y;exact congrArg Str.mk (Dw.mp h)
theorem zAy(x y:Str):eqS x y=(x==y):=by rw [E8,beq_iff_eq,yI]
theorem wM{α:Type}(l:List (Str×α))(x:Str):lkS l x=l.lookup x:=by
 induction l with
 | nil=>rfl
 | cons p r ih=>
  show (match eqS x p.1 with | true=>some p.2 | false=>lkS r x)=(match x==p.1 with | true=>some p.2 | false=>r.lookup x);rw [zAy,ih]
noncomputable def zFt:List Int->List Value->Prop
 | [],xs=>xs=[]
 | i::l,xs=>∃t ys,xs= .int i t::ys/\zFt l ys
section
variable(ρ:List Addr)(h:Heap)
mutual
noncomputable def VR:V->Value->Prop
 | .none,x=>x= .none
 | .bool b,x=>x= .bool b
 | .int i,x=>∃t,x= .int i t
 | .str s,x=>∃t,x= .str s t
 | .tup l,x=>∃a items n,x= .ref a/\a ∉ ρ/\h.get? a=some ⟨.type "tuple",none,.seq items n,#[]⟩/\VRs l items.toList
 | .lst l,x=>∃a items n,x= .ref a/\a ∉ ρ/\h.get? a=some ⟨.type "list",none,.seq items n,#[]⟩/\VRs l items.toList
 | .trk i,x=>∃a,ρ[i]? =some a/\x= .ref a
 | .val v,x=>x=v
 | .rng a b c,x=>∃p t u v,x= .ref p/\p ∉ ρ/\h.get? p=some ⟨.type "range",none,.fields #[.int a t,.int b u,.int c v],#[]⟩
 | .il l,x=>∃a items n,x= .ref a/\a ∉ ρ/\h.get? a=some ⟨.type "list",none,.seq items n,#[]⟩/\zFt l items.toList
noncomputable def VRs:List V->List Value->Prop
 | [],xs=>xs=[]
 | v::l,xs=>∃y ys,xs=y::ys/\VR v y/\VRs l ys
end
end
noncomputable def OR(ρ:List Addr)(h:Heap):Option V->Option Value->Prop
 | none,none=>True
 | some v,some x=>VR ρ h v x
 | _,_=>False
mutual
noncomputable def kB(f:Nat->Nat):V->V
 | .tup l=> .tup (yP f l)
 | .lst l=> .lst (yP f l)
 | .trk i=> .trk (f i)
 | .none=> .none
 | .bool b=> .bool b
 | .int i=> .int i
 | .str s=> .str s
 | .val v=> .val v
 | .rng a b c=> .rng a b c
 | .il l=> .il l
noncomputable def yP(f:Nat->Nat):List V->List V
 | []=>[]
 | v::l=>kB f v::yP f l
end
mutual
noncomputable def okV(q:Nat->Bool)(al:Bool):V->Bool
 | .tup l=>vV q al l
 | .lst l=>al && vV q al l
 | .trk i=>q i
 | .il _=>al
 | _=>true
noncomputable def vV(q:Nat->Bool)(al:Bool):List V->Bool
 | []=>true
 | v::l=>okV q al v && vV q al l
end
noncomputable def uE(f:Nat->Nat):List (Str×V)->List (Str×V)
 | []=>[]
 | (k,v)::l=>(k,kB f v)::uE f l
noncomputable def zST(f:Nat->Nat):List (Str×Nat)->List (Str×Nat)
 | []=>[]
 | (k,i)::l=>(k,f i)::zST f l
noncomputable def wZ(f:Nat->Nat):Ob->Ob
 | .list l=> .list (yP f l)
 | .ns kv=> .ns (uE f kv)
 | .dict kv=> .dict (uE f kv)
 | .cell v=> .cell (match v with | some v=>some (kB f v) | none=>none)
 | .inst C d=> .inst C (f d)
 | .meth g u=> .meth g (kB f u)
 | .lam fd cl j=> .lam fd (zST f cl) (f j)
 | .crec q=> .crec q
 | .itms d=> .itms (f d)
 | .liter src k=> .liter (kB f src) k
 | .enum j k=> .enum (f j) k
 | .junk=> .junk
 | .citer g u live=> .citer (kB f g) (kB f u) live
 | .ctab P made=> .ctab P made
 | .stk b l=> .stk b l
 | .pls l=> .pls l
 | .wls l=> .wls l
 | .kd H kv=> .kd H (uE f kv)
noncomputable def zU:List (Str×V)->List V
 | []=>[]
 | (_,v)::l=>v::zU l
noncomputable def zEY:List (Str×Nat)->List V
 | []=>[]
 | (_,i)::l=> .trk i::zEY l
noncomputable def zG{α:Type}:List (Str×α)->List Str
 | []=>[]
 | (k,_)::l=>k::zG l
noncomputable def zMJ:Ob->List V
 | .list l=>l
 | .ns kv=>zU kv
 | .dict kv=>zU kv
 | .cell v=>(match v with | some v=>[v] | none=>[])
 | .inst C d=>[.trk d]
 | .meth g u=>[u]
 | .lam fd cl j=> .trk j::zEY cl
 | .crec q=>[]
 | .itms d=>[.trk d]
 | .liter src k=>[src]
 | .enum j k=>[.trk j]
 | .junk=>[]
 | .citer g u live=>[g,u]
 | .ctab P made=>[]
 | .stk b l=>[]
 | .pls l=>plL l
 | .wls l=>wlL l
 | .kd H kv=>zU kv
noncomputable def okO(q:Nat->Bool)(al:Bool)(ob:Ob):Bool:=match ob with
 | .pls _=>true
 | .wls _=>al
 | ob=>vV q al (zMJ ob)
theorem zAl(g:Nat->Nat)(q:Nat->Bool)(al:Bool):∀l:List Lf,yP g (l.map lfV)=l.map lfV/\vV q al (l.map lfV)=true
 | []=>⟨rfl,rfl⟩
 | a::l=>⟨by show kB g (lfV a)::yP g (l.map lfV)=_; rw [(zAl g q al l).1]; cases a <;>rfl,Bd.mpr ⟨by cases a <;>rfl,(zAl g q al l).2⟩⟩
theorem zAe(g:Nat->Nat)(q:Nat->Bool)(al:Bool):∀l:List Pl,yP g (plL l)=plL l/\vV q al (plL l)=true
 | []=>⟨rfl,rfl⟩
 | a::l=>by
  have e:kB g (plV a)=plV a/\okV q al (plV a)=true:=by
   cases a with
   | one a=>cases a <;>exact ⟨rfl,rfl⟩
   | tup l=>exact ⟨congrArg V.tup (zAl g q al l).1,(zAl g q al l).2⟩
  exact ⟨by show kB g (plV a)::yP g (plL l)=_; rw [(zAe g q al l).1,e.1]; rfl,Bd.mpr ⟨e.2,(zAe g q al l).2⟩⟩
theorem zAg(g:Nat->Nat)(q:Nat->Bool){al:Bool}(h:al=true):∀l:List (Str×List Int),yP g (wlL l)=wlL l/\vV q al (wlL l)=true
 | []=>⟨rfl,rfl⟩
 | a::l=>⟨by show kB g (wlV a)::yP g (wlL l)=_; rw [(zAg g q h l).1]; rfl,Bd.mpr ⟨by subst h; rfl,(zAg g q h l).2⟩⟩
theorem zY5{q:Nat->Bool}{al:Bool}{ob:Ob}(h:okO q al ob=true):vV q al (zMJ ob)=true:=by
 cases ob with
 | pls l=>exact (zAe id q al l).2
 | wls l=>exact (zAg id q h l).2
 | _=>exact h
noncomputable def qW(l:List Nat):List V:=(l.map fun c=>V.str ⟨#[c]⟩).reverse
noncomputable def yBX:List Nat->Bool
 | []=>false
 | _::_=>true
noncomputable def zBg:List (Str×Value)->List DictEntry->Prop
 | [],es=>es=[]
 | (k,x)::r,es=>∃e es',es=e::es'/\(∃t,e.key= .str k t)/\e.val=x/\zBg r es'
noncomputable def NsD(o:Obj)(m:Str->Option Value):Prop:=∃es ep,o.data= .dict es ep/\StrKeys es/\∀name,nsFind es name=m name
noncomputable def zOs(a:Addr):Ob->List Value->Obj->Prop
 | .list l,xs,o=>∃items n,xs=items.toList/\o=⟨.type "list",none,.seq items n,#[]⟩
 | .ns kv,xs,o=>NsD o fun x=>((zG kv).zip xs).lookup x
 | .dict kv,xs,o=>∃es n,zBg ((zG kv).zip xs) es/\o=dictOf es n
 | .cell v,xs,o=>o.data= .cell xs.head?
 | .inst C d,xs,o=>∃dx,xs=[.ref dx]/\o=instObj C dx
 | .meth g u,xs,o=>∃x,xs=[x]/\o=methodObj (.ref g) x
 | .lam fd cl j,xs,o=>∃c cl' ct pm,xs= .ref c::cl'.map (fun p=> .ref p.2)/\zG cl'=zG cl/\o={cls:= .type "function",data:= .func {fd with closure:=cl',code:= .ref c,closureTuple:=ct,pyModule:=pm}}
 | .crec q,xs,o=>∃vs t,o.data= .fields vs/\vs[1]? =some (.str q t)
 | .itms d,xs,o=>∃dx,xs=[.ref dx]/\o=⟨.type "dict_items",none,.fields #[.ref dx],#[]⟩
 | .liter src k,xs,o=>∃l,xs=[.ref l]/\o.cls= .type "list_iterator"/\o.data= .fields #[.ref l,.int k 0]
 | .enum j k,xs,o=>∃it old,xs=[.ref it]/\o={cls:= .type "enumerate",dict:=none,data:= .fields #[.none,.bool false,.ref it,rawInt k,.none,old],slots:=#[]}
 | .junk,xs,o=>True
 | .citer g u live,xs,o=>∃x y,xs=[x,y]/\o=⟨.type "callable_iterator",none,.fields #[x,y,.bool (!live)],#[]⟩
 | .ctab P made,xs,o=>∃vs,a=P/\o={cls:= .none,data:= .fields vs}/\(made=false->vs=#[])
 | .stk b l,xs,o=>l.length<=b/\∃items n,VRs [] default (qW l) items.toList/\o=⟨.type "list",none,.seq items n,#[]⟩
 | .pls l,xs,o=>∃items n,xs=items.toList/\o=⟨.type "list",none,.seq items n,#[]⟩
 | .wls l,xs,o=>∃items n,xs=items.toList/\o=⟨.type "list",none,.seq items n,#[]⟩
 | .kd H kv,xs,o=>∃es n,zBg ((zG kv).zip xs) es/\(∀e∈es,∃k t,e.key= .str k t/\e.hash=H k)/\(zG kv).Nodup/\o=dictOf es n
inductive ObR (ρ:List Addr) (h:Heap) (a:Addr) (ob:Ob):Prop
 | mk (o:Obj) (xs:List Value) (ho:h.get? a=some o) (rs:VRs ρ h (zMJ ob) xs) (sh:zOs a ob xs o):ObR ρ h a ob
noncomputable def kpt(al:Bool)(o:Obj):Bool:=match o.data with
 | .seq _ _=>(match o.cls with | .type c=>c=="tuple" || (al && c=="list") | _=>false)
 | .fields vs=>(match vs[1]? with
  | some (Di _ _)=>(match o.cls with | .type c=>c=="range" | _=>false)
  | _=>false)
 | _=>false
noncomputable abbrev Ren(q:Nat->Bool)(g:Nat->Nat)(ρ AC:List Addr):Prop:=∀(i:Nat) (a:Addr),q i=true->ρ[i]? =some a->AC[g i]? =some a
noncomputable abbrev Kp(al:Bool)(ρ AC:List Addr)(h h':Heap):Prop:=∀a o,a ∉ ρ->h.get? a=some o->kpt al o=true->h'.get? a=some o/\a ∉ AC
section
variable{ρ AC:List Addr}{h h':Heap}{q:Nat->Bool}{al:Bool}{g:Nat->Nat}
theorem zIA(p:Ren q g ρ AC)(k:Kp al ρ AC h h'):(∀v x,okV q al v=true->VR ρ h v x->VR AC h' (kB g v) x)/\∀l xs,vV q al l=true->VRs ρ h l xs->VRs AC h' (yP g l) xs:=by
 have cons:∀v l,(∀x,okV q al v=true->VR ρ h v x->VR AC h' (kB g v) x)->(∀xs,vV q al l=true->VRs ρ h l xs->VRs AC h' (yP g l) xs)->∀xs,vV q al (v::l)=true->VRs ρ h (v::l) xs->VRs AC h' (yP g (v::l)) xs:=by
  intro v l i1 i2 xs b r;obtain ⟨y,ys,e,r,rs⟩:=r;exact ⟨y,ys,e,i1 _ (Bd.mp b).1 r,i2 _ (Bd.mp b).2 rs⟩
 have z:∀v x,okV q al v=true->VR ρ h v x->VR AC h' (kB g v) x:=by
  intro v;refine V.rec (motive_1:=fun v=>∀x,okV q al v=true->VR ρ h v x->VR AC h' (kB g v) x) (motive_2:=fun l=>∀xs,vV q al l=true->VRs ρ h l xs->VRs AC h' (yP g l) xs)
   (fun _ _ e=>e) (fun _ _ _ e=>e) (fun _ _ _ e=>e) (fun _ _ _ e=>e) ?_ ?_ ?_ (fun _ _ _ e=>e) ?_ ?_ (fun _ _ e=>e) cons v
  ·intro l ih x b r
   obtain ⟨a,items,m,e,n,ho,r⟩:=r;obtain ⟨k1,k2⟩:=k a _ n ho rfl;exact ⟨a,items,m,e,k2,k1,ih _ b r⟩
  ·intro l ih x b r
   obtain ⟨a,items,m,e,n,ho,r⟩:=r;refine zF b fun b1 b2=>?_;obtain ⟨k1,k2⟩:=k a _ n ho (by rw [b1]; rfl);exact ⟨a,items,m,e,k2,k1,ih _ b2 r⟩
  ·intro i x b r
   obtain ⟨a,r,e⟩:=r;exact ⟨a,p i a b r,e⟩
  ·intro a b c x _ r
   obtain ⟨r,t,u,v,e,n,ho⟩:=r;obtain ⟨k1,k2⟩:=k r _ n ho rfl;exact ⟨r,t,u,v,e,k2,k1⟩
  ·intro l x b r
   obtain ⟨a,items,m,e,n,ho,r⟩:=r;obtain ⟨k1,k2⟩:=k a _ n ho (by rw [show al=true from b]; rfl);exact ⟨a,items,m,e,k2,k1,r⟩
 refine ⟨z,fun l=>?_⟩
 induction l with
 | nil=>exact fun _ _ e=>e
 | cons v l ih=>exact cons v l (z v) ih
theorem VR.ren(p:Ren q g ρ AC)(k:Kp al ρ AC h h'){v:V}{x:Value}(b:okV q al v=true)(r:VR ρ h v x):VR AC h' (kB g v) x:=(zIA p k).1 v x b r
theorem VRs.ren(p:Ren q g ρ AC)(k:Kp al ρ AC h h'){l:List V}{xs:List Value}(b:vV q al l=true)(r:VRs ρ h l xs):VRs AC h' (yP g l) xs:=(zIA p k).2 l xs b r
theorem qO:(∀v,kB id v=v/\okV (fun _=>true) true v=true)/\∀l,yP id l=l/\vV (fun _=>true) true l=true:=by
 have cons:∀{v l},kB id v=v/\okV (fun _=>true) true v=true->yP id l=l/\vV (fun _=>true) true l=true->yP id (v::l)=v::l/\vV (fun _=>true) true (v::l)=true:=fun {v l} i1 i2=>
  ⟨by show kB id v::yP id l=_; rw [i1.1,i2.1],Bd.mpr ⟨i1.2,i2.2⟩⟩
 have z:∀v,kB id v=v/\okV (fun _=>true) true v=true:=fun v=>V.rec (motive_1:=fun v=>kB id v=v/\okV (fun _=>true) true v=true) (motive_2:=fun l=>yP id l=l/\vV (fun _=>true) true l=true)
  ⟨rfl,rfl⟩ (fun _=>⟨rfl,rfl⟩) (fun _=>⟨rfl,rfl⟩) (fun _=>⟨rfl,rfl⟩) (fun l ih=>⟨congrArg V.tup ih.1,ih.2⟩) (fun l ih=>⟨congrArg V.lst ih.1,ih.2⟩) (fun _=>⟨rfl,rfl⟩) (fun _=>⟨rfl,rfl⟩) (fun _ _ _=>⟨rfl,rfl⟩) (fun _=>⟨rfl,rfl⟩)
  ⟨rfl,rfl⟩ (fun v l i1 i2=>cons i1 i2) v
 refine ⟨z,fun l=>?_⟩
 induction l with
 | nil=>exact ⟨rfl,rfl⟩
 | cons v l ih=>exact cons (z v) ih
noncomputable abbrev Pre(ρ AC:List Addr):Prop:=∀(i:Nat) (a:Addr),ρ[i]? =some a->AC[i]? =some a
theorem VR.mono(p:Pre ρ AC)(k:Kp true ρ AC h h'){v:V}{x:Value}(r:VR ρ h v x):VR AC h' v x:=(qO.1 v).1▸VR.ren (q:=fun _=>true) (g:=id) (fun i a _ e=>p i a e) k (qO.1 v).2 r
theorem VRs.mono(p:Pre ρ AC)(k:Kp true ρ AC h h'){v:List V}{x:List Value}(r:VRs ρ h v x):VRs AC h' v x:=(qO.2 v).1▸VRs.ren (q:=fun _=>true) (g:=id) (fun i a _ e=>p i a e) k (qO.2 v).2 r
theorem vL(kv:List (Str×V)):zU (uE g kv)=yP g (zU kv)/\zG (uE g kv)=zG kv:=by
 induction kv with
 | nil=>exact ⟨rfl,rfl⟩
 | cons p l ih=>exact ⟨congrArg (kB g p.2::·) ih.1,congrArg (p.1::·) ih.2⟩
theorem zKX(kv:List (Str×Nat)):zEY (zST g kv)=yP g (zEY kv)/\zG (zST g kv)=zG kv:=by
 induction kv with
 | nil=>exact ⟨rfl,rfl⟩
 | cons p l ih=>exact ⟨congrArg (V.trk (g p.2)::·) ih.1,congrArg (p.1::·) ih.2⟩
theorem zOP(ob:Ob):zMJ (wZ g ob)=yP g (zMJ ob):=by
 cases ob with
 | ns kv=>exact (vL kv).1
 | dict kv=>exact (vL kv).1
 | cell v=>cases v <;>rfl
 | pls l=>exact (zAe g (fun _=>true) true l).1.symm
 | wls l=>exact (zAg g (fun _=>true) rfl l).1.symm
 | kd H kv=>exact (vL kv).1
 | lam fd cl j=>exact congrArg (V.trk (g j)::·) (zKX cl).1
 | _=>rfl
theorem zM2{a:Addr}{ob:Ob}{xs:List Value}{o:Obj}(s:zOs a ob xs o):zOs a (wZ g ob) xs o:=by
 cases ob with
 | ns kv=>show NsD o fun x=>((zG (uE g kv)).zip xs).lookup x; rw [(vL kv).2]; exact s
 | dict kv=>show ∃es n,zBg ((zG (uE g kv)).zip xs) es/\o=dictOf es n; rw [(vL kv).2]; exact s
 | kd H kv=>show ∃es n,zBg ((zG (uE g kv)).zip xs) es/\(∀e∈es,∃k t,e.key= .str k t/\e.hash=H k)/\(zG (uE g kv)).Nodup/\o=dictOf es n; rw [(vL kv).2]; exact s
 | lam fd cl j=>
  obtain ⟨c,cl',ct,pm,s1,s2,s3⟩:=s;exact ⟨c,cl',ct,pm,s1,s2.trans (zKX cl).2.symm,s3⟩
 | _=>exact s
theorem ObR.ren(p:Ren q g ρ AC)(k:Kp al ρ AC h h'){a:Addr}(ka:∀o,h.get? a=some o->h'.get? a=some o){ob:Ob}(b:okO q al ob=true)(z:ObR ρ h a ob):ObR AC h' a (wZ g ob):=by
 obtain ⟨o,xs,e,r,s⟩:=z;exact ⟨o,xs,ka _ e,zOP ob▸VRs.ren p k (zY5 b) r,zM2 s⟩
theorem ObR.mono(p:Pre ρ AC)(k:Kp true ρ AC h h'){a:Addr}(ka:∀o,h.get? a=some o->h'.get? a=some o){ob:Ob}(z:ObR ρ h a ob):ObR AC h' a ob:=by
 obtain ⟨o,xs,e,r,s⟩:=z;exact ⟨o,xs,ka _ e,VRs.mono p k r,s⟩
end
section
variable{ρ:List Addr}{h:Heap}
theorem VRs.length{l:List V}{xs:List Value}(r:VRs ρ h l xs):l.length=xs.length:=by
 induction l generalizing xs with
 | nil=>cases (show xs=[] from r); rfl
 | cons v l ih=>obtain ⟨_,_,rfl,_,b⟩:=r; exact congrArg (· + 1) (ih b)
theorem VRs.size{l:List V}{items:Array Value}(r:VRs ρ h l items.toList):l.length=items.size:=r.length
theorem VRs.get{l:List V}{xs:List Value}{i:Nat}{v:V}(r:VRs ρ h l xs)(q:l[i]? =some v):∃x,xs[i]? =some x/\VR ρ h v x:=by
 induction l generalizing xs i with
 | nil=>exact noS q
 | cons u l ih=>
  obtain ⟨y,ys,rfl,a,b⟩:=r;cases i with
  | zero=>cases q; exact ⟨y,rfl,a⟩
  | succ i=>exact ih (i:=i) b q
theorem VRs.append{l l':List V}{xs xs':List Value}(r:VRs ρ h l xs)(b:VRs ρ h l' xs'):VRs ρ h (l ++ l') (xs ++ xs'):=by
 induction l generalizing xs with
 | nil=>cases (show xs=[] from r); exact b
 | cons v l ih=>obtain ⟨y,ys,rfl,a,r⟩:=r; exact ⟨y,_,rfl,a,ih r⟩
theorem VRs.one{v:V}{x:Value}(a:VR ρ h v x):VRs ρ h [v] [x]:=⟨x,[],rfl,a,rfl⟩
theorem VRs.take{l:List V}{xs:List Value}(r:VRs ρ h l xs)(n:Nat):VRs ρ h (l.take n) (xs.take n):=by
 induction l generalizing xs n with
 | nil=>cases (show xs=[] from r); cases n <;>rfl
 | cons v l ih=>
  obtain ⟨y,ys,rfl,a,r⟩:=r;cases n with
  | zero=>rfl
  | succ n=>exact ⟨y,_,rfl,a,ih r n⟩
theorem VRs.set{v:V}{x:Value}(a:VR ρ h v x){l:List V}{xs:List Value}(r:VRs ρ h l xs)(n:Nat):VRs ρ h (l.set n v) (xs.set n x):=by
 induction l generalizing xs n with
 | nil=>cases (show xs=[] from r); cases n <;>rfl
 | cons u l ih=>
  obtain ⟨y,ys,rfl,b,r⟩:=r;cases n with
  | zero=>exact ⟨x,_,rfl,a,r⟩
  | succ n=>exact ⟨y,_,rfl,b,ih r n⟩
theorem VRs.reverse{l:List V}{xs:List Value}(r:VRs ρ h l xs):VRs ρ h l.reverse xs.reverse:=by
 induction l generalizing xs with
 | nil=>cases (show xs=[] from r); rfl
 | cons v l ih=>obtain ⟨y,ys,rfl,a,r⟩:=r; rw [Dp,Dp]; exact (ih r).append (VRs.one a)
theorem zDh{l:List Int}{xs:List Value}(r:zFt l xs):VRs ρ h (l.map .int) xs:=by
 induction l generalizing xs with
 | nil=>exact r
 | cons i l ih=>obtain ⟨t,ys,rfl,r⟩:=r; exact ⟨_,ys,rfl,⟨t,rfl⟩,ih r⟩
theorem zHT{l:List Int}{xs:List Value}(r:VRs ρ h (l.map .int) xs):zFt l xs:=by
 induction l generalizing xs with
 | nil=>exact r
 | cons i l ih=>obtain ⟨_,ys,rfl,⟨t,rfl⟩,r⟩:=r; exact ⟨t,ys,rfl,ih r⟩
theorem zNK{AC:List Addr}{h':Heap}{l:List V}{xs:List Value}(z:∀v∈l,∃s,v= .str s)(r:VRs ρ h l xs):VRs AC h' l xs:=by
 induction l generalizing xs with
 | nil=>exact r
 | cons v l ih=>
  obtain ⟨y,ys,rfl,r,rs⟩:=r;obtain ⟨s,rfl⟩:=z v (CB ..);exact ⟨y,_,rfl,r,ih (fun v hv=>z v (Bq _ hv)) rs⟩
theorem zGB{AC:List Addr}{h':Heap}{l:List Nat}{xs:List Value}(r:VRs ρ h (qW l) xs):VRs AC h' (qW l) xs:=zNK (fun v hv=>by
 obtain ⟨c,_,rfl⟩:=Bm.mp (List.mem_reverse.mp hv);exact ⟨_,rfl⟩) r
end
structure Inv(K:Frag)(ρ:List Addr)(σ:Sto)(s:Shared):Prop where
 len:ρ.length=σ.length
 nd:ρ.Nodup
 obs:∀(i:Nat) (a:Addr) (ob:Ob),ρ[i]? =some a->σ[i]? =some ob->ObR ρ s.heap a ob
 stat:∀a o,K.lookup a=some o->s.heap.get? a=some o
 sep:∀a∈ρ,K.lookup a=none
 gens:s.gens=#[]
structure Ext(ρ:List Addr)(s:Shared)(AC:List Addr)(s':Shared):Prop where
 pre:∃l,AC=ρ ++ l
 new:∀(i:Nat) (a:Addr),ρ.length<=i->AC[i]? =some a->s.heap.get? a=none
 keep:∀a o,a ∉ ρ->s.heap.get? a=some o->s'.heap.get? a=some o
 os:s'.os=s.os
section
variable{K:Frag}{ρ AC B6:List Addr}{σ AA:Sto}{s s' s'':Shared}
theorem zQ{α:Type}{l:List α}{i:Nat}{a:α}(e:l[i]? =some a):i < l.length:=(DA.mp e).1
theorem xF(ρ l:List Addr):Pre ρ (ρ ++ l):=fun i a e=>by rw [Bz (zQ e)]; exact e
theorem Ext.refl(ρ:List Addr)(s:Shared):Ext ρ s ρ s:=⟨⟨[],(Bp _).symm⟩,fun i a h e=>absurd (zQ e) (Dj.mpr h),fun _ _ _ e=>e,rfl⟩
theorem Ext.preP(x:Ext ρ s AC s'):Pre ρ AC:=by obtain ⟨l,rfl⟩:=x.pre; exact xF ρ l
theorem Ext.notin(x:Ext ρ s AC s'){a:Addr}{o:Obj}(n:a ∉ ρ)(e:s.heap.get? a=some o):a ∉ AC:=fun hm=>by
 obtain ⟨i,q'⟩:=Cw.mp hm;rcases Dc i ρ.length with h | h
 ·obtain ⟨l,rfl⟩:=x.pre
  rw [Bz h] at q';exact n (BZ q')
 ·exact noS <| (x.new i a h q').symm.trans e
theorem Ext.kp(x:Ext ρ s AC s'):Kp true ρ AC s.heap s'.heap:=fun a o n e _=>⟨x.keep a o n e,x.notin n e⟩
theorem Inv.ob(I:Inv K ρ σ s){i:Nat}{ob:Ob}(e:σ[i]? =some ob):∃a,ρ[i]? =some a/\ObR ρ s.heap a ob:=
 have h:=Bi (I.len▸zQ e:i < ρ.length)
 ⟨_,h,I.obs i _ ob h e⟩
theorem Inv.has(I:Inv K ρ σ s):∀a∈ρ,∃o,s.heap.get? a=some o:=fun a m=>by
 obtain ⟨i,q'⟩:=Cw.mp m;obtain ⟨o,_,e,_⟩:=I.obs i a _ q' (Bi (I.len▸zQ q'));exact ⟨o,e⟩
theorem Ext.then(x:Ext ρ s AC s')(I:Inv K AC AA s')(y:Ext AC s' B6 s''):Ext ρ s B6 s'':=by
 refine ⟨?_,?_,fun a o n e=>y.keep a o (x.notin n e) (x.keep a o n e),y.os.trans x.os⟩
 ·obtain ⟨l,rfl⟩:=x.pre; obtain ⟨l',rfl⟩:=y.pre; exact ⟨l ++ l',CA ..⟩
 ·intro i a h e
  rcases Dc i AC.length with q | q
  ·obtain ⟨l,hl⟩:=y.pre
   rw [hl,Bz q] at e;exact x.new i a h e
  ·have z:=y.new i a q e
   cases w:s.heap.get? a with
   | none=>rfl
   | some o=>
    refine absurd z ?_
    by_cases m:a∈ρ
    ·have m':a∈AC:=by obtain ⟨l,rfl⟩:=x.pre; exact List.mem_append_left _ m
     obtain ⟨o',e'⟩:=I.has a m';rw [e']; exact fun h=>nomatch h
    ·rw [x.keep a o m w]; exact fun h=>nomatch h
theorem VR.ext(x:Ext ρ s AC s'){v:V}{y:Value}(r:VR ρ s.heap v y):VR AC s'.heap v y:=r.mono x.preP x.kp
theorem VRs.ext(x:Ext ρ s AC s'){v:List V}{y:List Value}(r:VRs ρ s.heap v y):VRs AC s'.heap v y:=r.mono x.preP x.kp
theorem Inv.kin(I:Inv K ρ σ s):K.In s.heap:=I.stat
end
section
variable{K:Frag}{ρ AC AB:List Addr}{σ AA:Sto}{s s' AD:Shared}{h':Heap}{tk:Tok}{a:Addr}{i m:Nat}{ob:Ob}{o:Obj}
theorem qK(h:Heap):h.get? h.objs.size=none:=by
 cases e:h.get? h.objs.size with
 | none=>rfl
 | some o=>exact absurd (Dt e) (Dz _)
theorem Inv.fresh(I:Inv K ρ σ s):s.heap.objs.size ∉ ρ:=fun m=>by obtain ⟨o,e⟩:=I.has _ m; exact absurd (Dt e) (Dz _)
theorem zHI(I:Inv K ρ σ s)(n:s.heap.get? a=none):K.lookup a=none:=by
 cases e:K.lookup a with
 | none=>rfl
 | some o=>exact noS <| n.symm.trans (I.stat _ _ e)
theorem zY{ρ:List Addr}(nd:ρ.Nodup){i j:Nat}{a:Addr}(e1:ρ[i]? =some a)(e2:ρ[j]? =some a):i=j:=by
 obtain ⟨h1,q1⟩:=DA.mp e1;obtain ⟨h2,q2⟩:=DA.mp e2;exact (List.getElem_inj nd).mp (q1.trans q2.symm)
theorem Inv.not_in(I:Inv K ρ σ s){o:Obj}(e:K.lookup a=some o):a ∉ ρ:=fun m=>noS <| (I.sep a m).symm.trans e
theorem Inv.step{l:List Addr}(I:Inv K ρ σ s)(hl:ρ.length + l.length=AA.length)(nd:l.Nodup)(fr:∀b∈l,s.heap.get? b=none)(kp:Kp true ρ (ρ ++ l) s.heap s'.heap)(hK:∀b o,b ∉ ρ->K.lookup b=some o->s'.heap.get? b=some o)
  (ob:∀(i:Nat) (a:Addr) (ob:Ob),(ρ ++ l)[i]? =some a->AA[i]? =some ob->(σ[i]? =some ob/\∀o,s.heap.get? a=some o->s'.heap.get? a=some o)\/ObR (ρ ++ l) s'.heap a ob) (hg:s'.gens=s.gens):Inv K (ρ ++ l) AA s':=by
 refine ⟨(BY ..).trans hl,D0.mpr ⟨I.nd,nd,fun b hb c hc e=>?_⟩,fun i a o e1 e2=>?_,fun b o e=>hK b o (I.not_in e) e,fun b m=>?_,hg.trans I.gens⟩
 ·obtain ⟨o,q⟩:=I.has b hb
  exact noS <| (fr b (e▸hc)).symm.trans q
 ·rcases ob i a o e1 e2 with ⟨h1,h2⟩ | h
  ·exact (I.obs i a o (by rw [Bz (I.len▸zQ h1)] at e1; exact e1) h1).mono (xF ρ l) kp h2
  ·exact h
 ·exact (BR.mp m).elim (I.sep b) fun m=>zHI I (fr b m)
theorem Inv.gen{l:List Addr}(I:Inv K ρ σ s)(hl:ρ.length + l.length=AA.length)(nd:l.Nodup)(fr:∀b∈l,s.heap.get? b=none)(keep:∀b o,b ∉ ρ->s.heap.get? b=some o->s'.heap.get? b=some o)
  (ob:∀(i:Nat) (a:Addr) (ob:Ob),(ρ ++ l)[i]? =some a->AA[i]? =some ob->(σ[i]? =some ob/\∀o,s.heap.get? a=some o->s'.heap.get? a=some o)\/ObR (ρ ++ l) s'.heap a ob) (hg:s'.gens=s.gens) (ho:s'.os=s.os):
  Inv K (ρ ++ l) AA s'/\Ext ρ s (ρ ++ l) s':=by
 have x:Ext ρ s (ρ ++ l) s':=⟨⟨l,rfl⟩,fun i a hi e=>fr a (by rw [CC hi] at e; exact BZ e),keep,ho⟩;exact ⟨I.step hl nd fr x.kp (fun b o n e=>keep b o n (I.stat b o e)) ob hg,x⟩
theorem Inv.toks(I:Inv K ρ σ s)(tk:Tok):Inv K ρ σ {s with toks:=tk}:=⟨I.len,I.nd,I.obs,I.stat,I.sep,I.gens⟩
theorem Ext.toks(x:Ext AB AD ρ s)(tk:Tok):Ext AB AD ρ {s with toks:=tk}:=⟨x.pre,x.new,x.keep,x.os⟩
theorem zGX{P:List Addr->Prop}(h:P (ρ ++ [])):P ρ:=Bp ρ▸h
theorem Inv.keeps(I:Inv K ρ σ s)(k:∀a o,s.heap.get? a=some o->h'.get? a=some o):Inv K ρ σ {s with heap:=h',toks:=tk}/\Ext ρ s ρ {s with heap:=h',toks:=tk}:=
 zGX (P:=fun l=>Inv K l σ {s with heap:=h',toks:=tk}/\Ext ρ s l {s with heap:=h',toks:=tk}) (I.gen I.len CH (fun _ h=>absurd h Ba) (fun b o _ e=>k b o e) (fun i a ob _ e2=> .inl ⟨e2,k a⟩) rfl rfl)
theorem Inv.extra(I:Inv K ρ σ s)(o:Obj)(tk:Tok):Inv K ρ σ {s with heap:=s.heap.push o,toks:=tk}/\Ext ρ s ρ {s with heap:=s.heap.push o,toks:=tk}:=I.keeps fun _ _ e=>By _ e
theorem zCV{α:Type}{l:List α}{x y:α}{i:Nat}(h:l.length<=i)(e:(l ++ [x])[i]? =some y):i=l.length/\x=y:=by
 have:=zQ e;rw [BY,List.length_singleton] at this;have hi:i=l.length:=Nat.le_antisymm (Nat.le_of_lt_succ this) h;subst hi;rw [CC (CD _),DC] at e;exact ⟨rfl,CR e⟩
theorem zCS{α:Type}(l:List α)(x:α):(l ++ [x])[l.length]? =some x:=by rw [CC (CD _),DC]; rfl
theorem Inv.last(I:Inv K ρ σ s)(a:Addr):(ρ ++ [a])[σ.length]? =some a:=I.len▸zCS ρ a
theorem Inv.alloc(I:Inv K ρ σ s)(tk:Tok)(r:ObR (ρ ++ [s.heap.objs.size]) (s.heap.push o) s.heap.objs.size ob):
  Inv K (ρ ++ [s.heap.objs.size]) (σ ++ [ob]) {s with heap:=s.heap.push o,toks:=tk}/\Ext ρ s (ρ ++ [s.heap.objs.size]) {s with heap:=s.heap.push o,toks:=tk}:=by
 refine I.gen (by rw [BY,I.len]; rfl) (Dg _ _) (fun b hb=>BP.mp hb▸qK _) (fun _ _ _ e=>By _ e) (fun i b ob' e1 e2=>?_) rfl rfl;rcases Dc i σ.length with h | h
 ·rw [Bz h] at e2
  exact .inl ⟨e2,fun o e=>By _ e⟩
 ·obtain ⟨rfl,rfl⟩:=zCV h e2
  obtain ⟨_,rfl⟩:=zCV (D2 I.len) e1;exact .inr r
theorem Inv.upd(I:Inv K ρ σ s)(e:ρ[i]? =some a)(hb:DB a s.heap h')(tk:Tok)(r:ObR ρ h' a ob):Inv K ρ (σ.set i ob) {s with heap:=h',toks:=tk}/\Ext ρ s ρ {s with heap:=h',toks:=tk}:=by
 refine zGX (P:=fun l=>Inv K l (σ.set i ob) {s with heap:=h',toks:=tk}/\Ext ρ s l {s with heap:=h',toks:=tk}) (I.gen (by rw [Ce]; exact I.len) CH (fun _ h=>absurd h Ba) (fun b o n q=>hb b o (fun z=>n (z▸BZ e)) q) (fun j b ob' e1 e2=>?_) rfl rfl);rw [Bp] at e1 ⊢
 by_cases hj:j=i
 ·subst hj
  rw [Bw (I.len▸zQ e)] at e2;cases e.symm.trans e1; cases e2; exact .inr r
 ·rw [DX (fun q=>hj q.symm)] at e2
  exact .inl ⟨e2,fun o q=>hb b o (fun q=>hj (zY I.nd e1 (q▸e))) q⟩
theorem zKv{oa:Obj}(e:s.heap.get? a=some oa)(kp:kpt true oa=false)(hb:DB a s.heap h'):Kp true ρ ρ s.heap h':=fun b o nb q w=>⟨hb b o (fun z=>by subst z; cases e.symm.trans q; exact noB (kp.symm.trans w)) q,nb⟩
theorem Inv.but{oa:Obj}(I:Inv K ρ σ s)(n:a ∉ ρ)(nk:K.lookup a=none)(e:s.heap.get? a=some oa)(kp:kpt true oa=false)(hb:DB a s.heap h')(tk:Tok):Inv K ρ σ {s with heap:=h',toks:=tk}:=
 ⟨I.len,I.nd,fun i b ob e1 e2=>(I.obs i b ob e1 e2).mono (fun _ _ e=>e) (zKv e kp hb) (fun o q=>hb b o (fun z=>n (z▸BZ e1)) q),fun b o q=>hb b o (fun z=>by subst z; exact noS <| nk.symm.trans q) (I.stat b o q),I.sep,I.gens⟩
theorem VR.but{oa:Obj}(e:s.heap.get? a=some oa)(kp:kpt true oa=false)(hb:DB a s.heap h'){v:V}{x:Value}(r:VR ρ s.heap v x):VR ρ h' v x:=r.mono (fun _ _ e=>e) (zKv e kp hb)
theorem Ext.itr(x:Ext AB AD ρ s)(n:AD.heap.get? a=none)(hb:DB a s.heap h')(tk:Tok):Ext AB AD ρ {s with heap:=h',toks:=tk}:=
 ⟨x.pre,x.new,fun b o nb e=>hb b o (fun z=>by subst z; exact noS <| n.symm.trans e) (x.keep b o nb e),x.os⟩
theorem Inv.same{ob':Ob}(I:Inv K ρ σ s)(hi:σ[i]? =some ob)(z:∀a,ObR ρ s.heap a ob->ObR ρ s.heap a ob'):Inv K ρ (σ.set i ob') s:=by
 refine ⟨by rw [Ce]; exact I.len,I.nd,fun j a o e1 e2=>?_,I.stat,I.sep,I.gens⟩
 by_cases hj:j=i
 ·subst hj
  rw [Bw (zQ hi)] at e2;cases e2;exact z a (I.obs _ a _ e1 hi)
 ·rw [DX (fun z=>hj z.symm)] at e2
  exact I.obs _ a _ e1 e2
mutual
noncomputable def zYo:V->List Nat
 | .tup l=>zFf l
 | .lst l=>zFf l
 | .trk i=>[i]
 | _=>[]
noncomputable def zFf:List V->List Nat
 | []=>[]
 | v::l=>zYo v ++ zFf l
end
noncomputable def zZz(ob:Ob):List Nat:=match ob with
 | .pls _=>[]
 | .wls _=>[]
 | ob=>zFf (zMJ ob)
noncomputable def yX(i:Nat):List Nat->Bool
 | []=>false
 | j::l=>match BQ i j with | true=>true | false=>yX i l
noncomputable def xD(i:Nat):List Nat->Nat
 | []=>0
 | j::l=>match BQ i j with | true=>0 | false=>xD i l + 1
noncomputable def zDp:List Nat->Bool
 | []=>true
 | j::l=>!yX j l && zDp l
noncomputable def zEh(n:Nat):List Nat->Bool
 | []=>true
 | j::l=>Cn j n && zEh n l
noncomputable def zB8(σ:Sto):Nat->List Nat->List Nat->List Nat
 | 0,_,seen=>seen
 | f + 1,todo,seen=>match todo with
  | []=>seen
  | i::todo=>match yX i seen with
   | true=>zB8 σ f todo seen
   | false=>match σ[i]? with
    | some ob=>zB8 σ f (zZz ob ++ todo) (seen ++ [i])
    | none=>seen
noncomputable def zPa:Ob->Bool
 | .junk=>false
 | _=>true
noncomputable def uN(sub:List Nat):Nat->Sto->Bool
 | _,[]=>true
 | i,ob::r=>(zPa ob || yX i sub) && uN sub (i + 1) r
noncomputable def okS(q:Nat->Bool)(al:Bool):Sto->Bool
 | []=>true
 | ob::r=>okO q al ob && okS q al r
noncomputable def zGF(σ:Sto)(q:Nat->Bool):List Nat->Bool
 | []=>true
 | i::l=>(match σ[i]? with | some ob=>okO q true ob | none=>false) && zGF σ q l
noncomputable def eqN:List Nat->List Nat->Bool:=eqL
noncomputable def zN7(m:Nat)(σ:Sto):List Nat:=match m with
 | 0=>[]
 | m + 1=>match σ with
  | []=>[]
  | ob::r=>zZz ob ++ zN7 m r
noncomputable def zAn(i:Nat):Nat->List Nat
 | 0=>[]
 | m + 1=>i::zAn (i + 1) m
noncomputable def zS{α:Type}(f:Nat->Option α):List Nat->List α
 | []=>[]
 | i::l=>match f i with
  | some a=>a::zS f l
  | none=>zS f l
theorem vB(i:Nat)(l:List Nat):yX i l=true ↔ i∈l:=by
 induction l with
 | nil=>exact iff_of_false (fun h=>nomatch h) (fun h=>nomatch h)
 | cons j l ih=>
  rw [Bl,<-ih,<-Nat.beq_eq];show (match BQ i j with | true=>true | false=>yX i l)=true ↔ _;cases BQ i j with
  | true=>exact iff_of_true rfl (.inl rfl)
  | false=>exact ⟨.inr,fun h=>h.resolve_left fun h=>noB h⟩
theorem zD5{l:List Nat}(h:zDp l=true):l.Nodup:=by
 induction l with
 | nil=>exact CH
 | cons j l ih=>
  refine zF h fun h1 h2=>?_;exact CG.mpr ⟨fun m=>by rw [(vB j l).mpr m] at h1; exact noB h1,ih h2⟩
theorem zI0{n:Nat}{l:List Nat}(h:zEh n l=true):∀i∈l,i < n:=by
 induction l with
 | nil=>exact fun _ m=>absurd m Ba
 | cons j l ih=>
  refine zF h fun h1 h2=>?_;exact fun i m=>(Bl.mp m).elim (fun e=>e▸DM.mp h1) (ih h2 i)
theorem zCJ{l:List Nat}{j i:Nat}(nd:l.Nodup)(e:l[j]? =some i):xD i l=j:=by
 induction l generalizing j with
 | nil=>exact noS e
 | cons x l ih=>
  show (match BQ i x with | true=>0 | false=>xD i l + 1)=j;cases j with
  | zero=>cases e; rw [CQ]
  | succ j=>
   obtain ⟨n1,n2⟩:=CG.mp nd;have e':l[j]? =some i:=e;cases hb:BQ i x with
   | true=>exact absurd (BZ (Bg hb▸e')) n1
   | false=>exact congrArg (· + 1) (ih n2 e')
theorem zHh{q:Nat->Bool}{al:Bool}{σ:Sto}(h:okS q al σ=true):∀ob∈σ,okO q al ob=true:=by
 induction σ with
 | nil=>exact fun _ m=>absurd m Ba
 | cons j l ih=>
  refine zF h fun h1 h2=>?_;exact fun i m=>(Bl.mp m).elim (fun e=>e▸h1) (ih h2 i)
theorem zQF{q:Nat->Bool}{l:List Nat}(h:zGF σ q l=true):∀i∈l,∀ob,σ[i]? =some ob->okO q true ob=true:=by
 induction l with
 | nil=>exact fun _ m=>absurd m Ba
 | cons j l ih=>
  refine zF h fun h1 h2=>?_;exact fun i m ob e=>(Bl.mp m).elim (fun z=>by subst z; rw [e] at h1; exact h1) (fun m=>ih h2 i m ob e)
theorem zI1{sub:List Nat}{k:Nat}(h:uN sub k σ=true)(e:σ[i]? =some ob)(n:k + i ∉ sub):zPa ob=true:=by
 induction σ generalizing k i with
 | nil=>exact noS e
 | cons o r ih=>
  refine zF h fun h1 h2=>?_;cases i with
  | zero=>cases e; exact (CI.mp h1).resolve_right fun h=>n ((vB _ _).mp h)
  | succ i=>exact ih h2 (i:=i) e (by rw [Nat.add_right_comm]; exact n)
theorem uK(m i j:Nat)(h:j < m):(zAn i m)[j]? =some (i + j):=by
 induction m generalizing i j with
 | zero=>exact absurd h (Nat.not_lt_zero _)
 | succ m ih=>cases j with
  | zero=>rfl
  | succ j=>exact (ih (i + 1) j (CJ h)).trans (by rw [Nat.add_right_comm]; rfl)
theorem zIr(m i:Nat):(zAn i m).length=m:=by
 induction m generalizing i with
 | zero=>rfl
 | succ m ih=>exact congrArg (· + 1) (ih (i + 1))
section
variable{α:Type}{f:Nat->Option α}
theorem vS{x:Nat}{l:List Nat}{a:α}(h:f x=some a):zS f (x::l)=a::zS f l:=by
 show (match f x with | some a=>a::zS f l | none=>zS f l)=_;rw [h]
theorem zBe{l:List Nat}{j i:Nat}(h:∀i∈l,(f i).isSome=true)(e:l[j]? =some i):(zS f l)[j]? =f i:=by
 induction l generalizing j with
 | nil=>exact noS e
 | cons x l ih=>
  obtain ⟨a,ha⟩:=CW.mp (h x (CB ..));rw [vS ha];cases j with
  | zero=>cases e; exact ha.symm
  | succ j=>exact ih (j:=j) (fun i hi=>h i (Bq _ hi)) e
theorem zBm{l:List Nat}(h:∀i∈l,(f i).isSome=true):(zS f l).length=l.length:=by
 induction l with
 | nil=>rfl
 | cons x l ih=>
  obtain ⟨a,ha⟩:=CW.mp (h x (CB ..));rw [vS ha];exact congrArg (· + 1) (ih fun i hi=>h i (Bq _ hi))
theorem zBw{l:List Nat}{a:α}(e:a∈zS f l):∃i∈l,f i=some a:=by
 induction l with
 | nil=>exact absurd e Ba
 | cons x l ih=>
  have go:a∈zS f l->∃i∈x::l,f i=some a:=fun e=>(ih e).elim fun i z=>⟨i,Bq _ z.1,z.2⟩;cases hf:f x with
  | none=>
   have e:a∈(match f x with | some a=>a::zS f l | none=>zS f l):=e;rw [hf] at e; exact go e
  | some b=>
   rw [vS hf] at e;exact (Bl.mp e).elim (fun z=>⟨x,CB ..,z▸hf⟩) go
end
theorem zI9{l:List Nat}(nd:ρ.Nodup)(hn:l.Nodup)(hl:∀i∈l,i < ρ.length):(zS (ρ[·]?) l).Nodup:=by
 induction l with
 | nil=>exact CH
 | cons x l ih=>
  obtain ⟨n1,n2⟩:=CG.mp hn;have e:=Bi (hl x (CB ..));rw [vS (f:=(ρ[·]?)) e];refine CG.mpr ⟨fun m=>?_,ih n2 fun i hi=>hl i (Bq _ hi)⟩;obtain ⟨y,hy,z⟩:=zBw m;exact n1 (zY nd e z▸hy)
structure Part(K:Frag)(ρ:List Addr)(σ:Sto)(s:Shared)(sub:List Nat)(g:Nat->Nat)(q:Nat->Bool):Prop where
 inv:Inv K (zS (ρ[·]?) sub) (zS (fun i=>(σ[i]?).map (wZ g)) sub) s
 ren:Ren q g ρ (zS (ρ[·]?) sub)
 mem:∀a∈zS (ρ[·]?) sub,a∈ρ
 at':∀(j i:Nat),sub[j]? =some i->(zS (ρ[·]?) sub)[j]? =ρ[i]?
 len:(zS (ρ[·]?) sub).length=sub.length
theorem Inv.part(I:Inv K ρ σ s){sub:List Nat}(c1:zDp sub=true)(c2:zEh σ.length sub=true)(c3:zGF σ (yX · sub) sub=true):Part K ρ σ s sub (xD · sub) (yX · sub):=by
 have nd:=zD5 c1;have hs:=zI0 c2;have BB:∀i∈sub,(ρ[i]?).isSome=true:=fun i hi=>by rw [Bi (I.len▸hs i hi)]; rfl
 have Ax:∀i∈sub,((σ[i]?).map (wZ (xD · sub))).isSome=true:=fun i hi=>by rw [Bi (hs i hi)]; rfl
 have e2:(zS (ρ[·]?) sub).length=sub.length:=zBm BB;have hmem:∀a∈zS (ρ[·]?) sub,a∈ρ:=fun a ha=>by
  obtain ⟨i,_,hi⟩:=zBw ha;exact BZ hi
 have hren:Ren (yX · sub) (xD · sub) ρ (zS (ρ[·]?) sub):=fun i a hqi ha=>by
  obtain ⟨j,hj⟩:=Cw.mp ((vB i sub).mp hqi);show (zS (ρ[·]?) sub)[xD i sub]? =_;rw [zCJ nd hj];exact (zBe BB hj).trans ha
 refine ⟨⟨e2.trans (zBm Ax).symm,zI9 I.nd nd fun i hi=>I.len▸hs i hi,fun j a ob h1 h2=>?_,I.stat,fun a m=>I.sep a (hmem a m),I.gens⟩,hren,hmem,fun j i e=>zBe BB e,e2⟩;have hj:sub[j]? =some _:=Bi (e2▸zQ h1);rw [zBe BB hj] at h1;rw [zBe (f:=fun i=>(σ[i]?).map (wZ (xD · sub))) Ax hj] at h2;refine yJ h2 fun ob' h3 e__=>?_;cases e__;exact (I.obs _ _ _ h1 h3).ren (al:=true) hren (fun b o nb e kp=>⟨e,fun m=>nb (hmem b m)⟩) (fun _ e=>e) (zQF c3 _ (Da ..) _ h3)
theorem VR.part{sub:List Nat}{g:Nat->Nat}{q:Nat->Bool}(P:Part K ρ σ s sub g q){v:V}{x:Value}(c:okV q true v=true)(r:VR ρ s.heap v x):VR (zS (ρ[·]?) sub) s.heap (kB g v) x:=r.ren P.ren (fun b o nb e kp=>⟨e,fun m=>nb (P.mem b m)⟩) c
noncomputable def gc(m:Nat)(σ:Sto):Sto:=
 match BQ σ.length m with
 | true=>σ
 | false=>
  let sub:=zB8 σ 400 (zN7 m σ) (zAn 0 m)
  match BQ sub.length σ.length with
  | true=>σ
  | false=>match zDp sub && zEh σ.length sub && zGF σ (yX · sub) sub && eqN (sub.take m) (zAn 0 m) with
   | true=>zS (fun i=>(σ[i]?).map (wZ (xD · sub))) sub
   | false=>σ
noncomputable def gcv(m:Nat)(v:V)(σ:Sto):V×Sto:=match okV (Cn · m) true v && okS (Cn · m) true (σ.take m) with
 | true=>(v,σ.take m)
 | false=>
  let sub:=zB8 σ 400 (zYo v ++ zN7 m σ) (zAn 0 m)
  match zDp sub && zEh σ.length sub && zGF σ (yX · sub) sub && eqN (sub.take m) (zAn 0 m) && okV (yX · sub) true v with
   | true=>(kB (xD · sub) v,zS (fun i=>(σ[i]?).map (wZ (xD · sub))) sub)
   | false=>(v,σ)
theorem zH8(X:Ext AB AD ρ s)(hm:AB.length<=m){sub:List Nat}(c1:zDp sub=true){g:Nat->Nat}{q:Nat->Bool}(P:Part K ρ σ s sub g q)(c4:eqN (sub.take m) (zAn 0 m)=true):Ext AB AD (zS (ρ[·]?) sub) s:=by
 have ht:=(zCW _ _).mp c4;obtain ⟨l,hl'⟩:=X.pre;have hfix:∀j,j < m->sub[j]? =some j:=fun j hj=>by
  have e:=uK m 0 j hj;rw [<-ht,EF,if_pos hj,Cx] at e;exact e
 have hp:(zS (ρ[·]?) sub).take AB.length=AB:=by
  refine List.ext_getElem? fun j=>?_;rw [EF];split
  ·rename_i hj
   rw [P.at' j j (hfix j (CV hj hm)),hl',Bz hj]
  ·rename_i hj
   rw [C3 (Dj.mp hj)]
 refine ⟨⟨(zS (ρ[·]?) sub).drop AB.length,?_⟩,fun i a hi e=>?_,X.keep,X.os⟩
 ·conv=>lhs; rw [<-List.take_append_drop AB.length (zS (ρ[·]?) sub)]
  rw [hp]
 ·have hsi:sub[i]? =some _:=Bi (P.len▸zQ e)
  rw [P.at' i _ hsi] at e;refine X.new _ a ?_ e
  by_cases z:sub[i]'(P.len▸zQ (by assumption)) < m
  ·have nd:=zD5 c1
   rw [<-zCJ nd (hfix _ z),zCJ nd hsi]; exact hi
  ·exact Bn hm (Dj.mp z)
theorem zHQ(I:Inv K ρ σ s)(X:Ext AB AD ρ s)(hm:AB.length=m):∃AC,Inv K AC (gc m σ) s/\Ext AB AD AC s/\∀a∈AC,a∈ρ:=by
 have triv:∃AC,Inv K AC σ s/\Ext AB AD AC s/\∀a∈AC,a∈ρ:=⟨ρ,I,X,fun _ h=>h⟩;unfold gc;cases BQ σ.length m with
 | true=>exact triv
 | false=>
  dsimp only;generalize zB8 σ 400 (zN7 m σ) (zAn 0 m)=sub;cases BQ sub.length σ.length with
  | true=>exact triv
  | false=>
   dsimp only;cases hc:zDp sub && zEh σ.length sub && zGF σ (yX · sub) sub && eqN (sub.take m) (zAn 0 m) with
   | false=>exact triv
   | true=>
    refine zF hc fun hc c4=>?_;refine zF hc fun hc c3=>?_;refine zF hc fun c1 c2=>?_;have P:=I.part c1 c2 c3;exact ⟨_,P.inv,zH8 X (D2 hm) c1 P c4,P.mem⟩
theorem zIq(q:ρ[i]? =some a)(hi:i < m):(ρ.take m)[i]? =some a:=by rw [EF,if_pos hi,q]
theorem zH4:Ren (Cn · m) id ρ (ρ.take m):=fun i a q e=>zIq e (DM.mp q)
theorem zLu{h:Heap}:Kp true ρ (ρ.take m) h h:=fun a o n e _=>⟨e,fun q=>n (List.mem_of_mem_take q)⟩
theorem zTS(ob:Ob):wZ id ob=ob:=by
 have kv:∀l:List (Str×V),uE id l=l:=fun l=>by
  induction l with
  | nil=>rfl
  | cons p l ih=>show (p.1,kB id p.2)::uE id l=p::l; rw [ih,(qO.1 p.2).1]
 cases ob with
 | list l=>exact congrArg Ob.list (qO.2 l).1
 | ns l=>exact congrArg Ob.ns (kv l)
 | dict l=>exact congrArg Ob.dict (kv l)
 | kd H l=>exact congrArg (Ob.kd H) (kv l)
 | cell v=>cases v with
  | none=>rfl
  | some v=>exact congrArg (fun v=>Ob.cell (some v)) (qO.1 v).1
 | meth g u=>exact congrArg (Ob.meth g) (qO.1 u).1
 | lam fd cl j=>
  refine congrArg (Ob.lam fd · j) ?_
  induction cl with
  | nil=>rfl
  | cons p l ih=>exact congrArg (p::·) ih
 | liter v k=>exact congrArg (Ob.liter · k) (qO.1 v).1
 | citer v u l=>exact congr (congrArg (fun a b=>Ob.citer a b l) (qO.1 v).1) (qO.1 u).1
 | _=>rfl
theorem zCP{α:Type}{l:List α}{x:α}(e:(l.take m)[i]? =some x):i < m/\l[i]? =some x:=by
 rw [EF] at e;split at e
 ·rename_i h; exact ⟨h,e⟩
 ·exact noS e
theorem Inv.take(I:Inv K ρ σ s)(b:okS (Cn · m) true (σ.take m)=true):Inv K (ρ.take m) (σ.take m) s:=by
 refine ⟨by rw [List.length_take,List.length_take,I.len],I.nd.sublist (List.take_sublist _ _),fun i a ob e1 e2=>?_,I.stat,fun a q=>I.sep a (List.mem_of_mem_take q),I.gens⟩;exact zTS ob▸(I.obs i a ob (zCP e1).2 (zCP e2).2).ren zH4 zLu (fun _ e=>e) (zHh b _ (BZ e2))
theorem Ext.take(x:Ext AB AD ρ s)(h:AB.length<=m):Ext AB AD (ρ.take m) s:=by
 refine ⟨?_,fun i a hi e=>x.new i a hi (zCP e).2,x.keep,x.os⟩;obtain ⟨l,rfl⟩:=x.pre;exact ⟨l.take (m - AB.length),by rw [List.take_append,List.take_of_length_le h]⟩
theorem VR.take{v:V}{x:Value}(r:VR ρ s.heap v x)(b:okV (Cn · m) true v=true):VR (ρ.take m) s.heap v x:=(qO.1 v).1▸r.ren zH4 zLu b
theorem zMY{v:V}{x:Value}(I:Inv K ρ σ s)(X:Ext AB AD ρ s)(hm:AB.length<=m)(r:VR ρ s.heap v x):∃AC,Inv K AC (gcv m v σ).2 s/\Ext AB AD AC s/\VR AC s.heap (gcv m v σ).1 x:=by
 unfold gcv;cases h:okV (Cn · m) true v && okS (Cn · m) true (σ.take m) with
 | true=>
  refine zF h fun h1 h2=>?_;exact ⟨_,I.take h2,X.take hm,r.take h1⟩
 | false=>
  dsimp only;generalize zB8 σ 400 (zYo v ++ zN7 m σ) (zAn 0 m)=sub;cases hc:zDp sub && zEh σ.length sub && zGF σ (yX · sub) sub && eqN (sub.take m) (zAn 0 m) && okV (yX · sub) true v with
  | false=>exact ⟨ρ,I,X,r⟩
  | true=>
   refine zF hc fun hc c5=>?_;refine zF hc fun hc c4=>?_;refine zF hc fun hc c3=>?_;refine zF hc fun c1 c2=>?_;have P:=I.part c1 c2 c3;exact ⟨_,P.inv,zH8 X hm c1 P c4,VR.part P c5 r⟩
end
section
inductive Sy where
 | fail
 | done (v:V) (σ:Sto)
 | ask (b:Bool) (k:Bool->Sy)
 | pick (o:Option (V×Sto)) (k:V->Sto->Sy)
noncomputable def run:Sy->Option (V×Sto)
 | .fail=>none
 | .done v σ=>some (v,σ)
 | .ask b k=>run (k b)
 | .pick o k=>match o with
  | some p=>run (k p.1 p.2)
  | none=>none
inductive Dec where
 | ans (n:Nat) (b:Bool)
 | val (n:Nat) (v:V) (σ:Sto)
inductive Nxt where
 | self (ds:List Dec)
 | ans (b:Bool) (ds:List Dec)
 | val (v:V) (σ:Sto) (ds:List Dec)
noncomputable def nxt:List Dec->Nxt
 | []=> .self []
 | d::ds=>match d with
  | .ans n b=>(match n with
   | 0=> .ans b ds
   | n + 1=> .self (.ans n b::ds))
  | .val n v σ=>(match n with
   | 0=> .val v σ ds
   | n + 1=> .self (.val n v σ::ds))
noncomputable def zD:Sy->List Dec->List Prop->Option (List Prop×V×Sto)
 | .fail,_,_=>none
 | .done v σ,_,acc=>some (acc,v,σ)
 | .ask b k,ds,acc=>match nxt ds with
  | .self ds=>(match b with
   | true=>zD (k true) ds acc
   | false=>zD (k false) ds acc)
  | .ans d ds=>zD (k d) ds (acc ++ [b=d])
  | .val _ _ _=>none
 | .pick o k,ds,acc=>match nxt ds with
  | .self ds=>(match o with
   | some p=>zD (k p.1 p.2) ds acc
   | none=>none)
  | .ans _ _=>none
  | .val v σ ds=>zD (k v σ) ds (acc ++ [o=some (v,σ)])
noncomputable def qQ:List Prop->Prop
 | []=>True
 | p::l=>p/\qQ l
theorem zH0{l l':List Prop}(h:qQ (l ++ l')):qQ l/\qQ l':=by
 induction l with
 | nil=>exact ⟨trivial,h⟩
 | cons p l ih=>exact ⟨⟨h.1,(ih h.2).1⟩,(ih h.2).2⟩
set_option smartUnfolding false in
theorem uC{t:Sy}{ds:List Dec}{acc l:List Prop}{p:V×Sto}(h:zD t ds acc=some (l,p))(hl:qQ l):run t=some p/\qQ acc:=by
 induction t generalizing ds acc with
 | fail=>exact noS h
 | done v σ=>cases h; exact ⟨rfl,hl⟩
 | ask b k ih=>
  have h:(match (generalizing:=false) nxt ds with
   | .self ds=>(match (generalizing:=false) b with
    | true=>zD (k true) ds acc
    | false=>zD (k false) ds acc)
   | .ans d ds=>zD (k d) ds (acc ++ [b=d])
   | .val _ _ _=>none)=some (l,p):=h
  generalize nxt ds=nx at h;cases nx with
  | self ds=>cases b <;>exact ih _ h
  | ans d ds=>
   obtain ⟨h1,h2⟩:=ih d h;obtain ⟨h3,rfl,_⟩:=zH0 h2;exact ⟨h1,h3⟩
  | val=>exact noS h
 | pick o k ih=>
  have h:(match (generalizing:=false) nxt ds with
   | .self ds=>(match (generalizing:=false) o with
    | some p=>zD (k p.1 p.2) ds acc
    | none=>none)
   | .ans _ _=>none
   | .val v σ ds=>zD (k v σ) ds (acc ++ [o=some (v,σ)]))=some (l,p):=h
  generalize nxt ds=nx at h;cases nx with
  | self ds=>cases o with
   | none=>exact noS h
   | some p=>exact ih _ _ h
  | ans=>exact noS h
  | val v σ ds=>
   obtain ⟨h1,h2⟩:=ih _ _ h;obtain ⟨h3,rfl,_⟩:=zH0 h2;exact ⟨h1,h3⟩
set_option smartUnfolding false in
theorem zAC{t:Sy}{acc:List Prop}{p:V×Sto}(h:run t=some p):zD t [] acc=some (acc,p):=by
 induction t with
 | fail=>exact noS h
 | done v σ=>cases h; rfl
 | ask b k ih=>cases b <;>exact ih _ h
 | pick o k ih=>cases o with
  | none=>exact noS h
  | some p=>exact ih _ _ h
noncomputable def Run{α:Type}(m:(α->Sto->Sy)->Sy)(a:α)(AA:Sto):Prop:=∀k z,run (k a AA)=some z->run (m k)=some z
theorem qR{α:Type}{m:(α->Sto->Sy)->Sy}{a:α}{AA:Sto}(ds:(α->Sto->Sy)->List Dec)(ps:List Prop)(h:∀k,zD (m k) (ds k) []=zD (k a AA) [] ps)(hp:qQ ps):Run m a AA:=fun k z hz=>(uC ((h k).trans (zAC hz)) hp).1
theorem Run.here{α:Type}(a:α)(σ:Sto):Run (fun k=>k a σ) a σ:=fun _ _ h=>h
noncomputable def liO{α:Type}(o:Option α)(k:α->Sy):Sy:=match o with
 | some a=>k a
 | none=> .fail
noncomputable def xG(b:Bool)(k k':Sy):Sy:= .ask b fun d=>match d with
 | true=>k
 | false=>k'
noncomputable def need(b:Bool)(k:Sy):Sy:=xG b k .fail
noncomputable def zC(K:Frag){α β:Type}(ρ:List Addr)(s:Shared)(m:(α->Sto->Sy)->Sy)(T:(β->Shared->Prop)->(Value->Shared->Prop)->Prop)(R:List Addr->Heap->α->β->Prop):Prop:=
 0 < s.toks->∀k z,run (m k)=some z->∀Q E,(∀a A4 A7 A6 b,run (k a A4)=some z->Inv K A7 A4 A6->Ext ρ s A7 A6->0 < A6.toks->R A7 A6.heap a b->Q b A6)->T Q E
noncomputable abbrev W(prog:Program)(w:World)(A:Around)(s:Shared){β:Type}(t:Sem β):(β->Shared->Prop)->(Value->Shared->Prop)->Prop:=fun Q E=>wpAny (model prog w) A t Q E s
noncomputable def Gr{β:Type}(s:Shared)(T:(β->Shared->Prop)->(Value->Shared->Prop)->Prop):Prop:=0 < s.toks->∀Q E,T (fun b A6=>0 < A6.toks->Q b A6) E->T Q E
theorem yY{prog:Program}{w:World}{A:Around}{s:Shared}{β:Type}{t:Sem β}:Gr s (W prog w A s t):=fun h _ _ x=>wpAny_with_toks h (C7 x (fun _ _ q=>q) fun _ _ e _=>e)
section
variable{K:Frag}{α β γ δ:Type}{ρ A7:List Addr}{s A6:Shared}{m m':(α->Sto->Sy)->Sy}{R:List Addr->Heap->α->β->Prop}{R':List Addr->Heap->γ->δ->Prop}{σ A4:Sto}{T T':(β->Shared->Prop)->(Value->Shared->Prop)->Prop}{U:(δ->Shared->Prop)->(Value->Shared->Prop)->Prop}
theorem zC.then(h:zC K ρ s m T R){g:α->Sto->(γ->Sto->Sy)->Sy}(C:β->Shared->(δ->Shared->Prop)->(Value->Shared->Prop)->Prop)(hu:∀Q E,T (fun b A6=>C b A6 Q E) E->U Q E)
  (hg:∀a A4 A7 A6 b,Inv K A7 A4 A6->Ext ρ s A7 A6->R A7 A6.heap a b->zC K A7 A6 (g a A4) (C b A6) R'):zC K ρ s (fun k=>m fun a A4=>g a A4 k) U R':=fun hp k z hz Q E q=>
 hu _ _ (h hp _ z hz _ _ fun a A4 A7 A6 b hk I X AV r=>hg a A4 A7 A6 b I X r AV k z hk Q E fun a' A5 AJ A9 b' hk' I' X' Af r'=>q a' A5 AJ A9 b' hk' I' (X.then I X') Af r')
theorem zC.rule(h:zC K ρ s m T R)(hu:∀Q E,T Q E->T' Q E):zC K ρ s m T' R:=fun hp k z hz Q E q=>hu _ _ (h hp k z hz Q E q)
theorem zC.up(h:∀k z,run (m k)=some z->∀Q E,(∀a A4 A7 A6 b,run (k a A4)=some z->Inv K A7 A4 A6->Ext ρ s A7 A6->R A7 A6.heap a b->Q b A6)->T Q E)(g:Gr s T:=by exact yY):zC K ρ s m T R:=fun hp k z hz Q E q=>
 g hp _ _ (h k z hz _ E fun a A4 A7 A6 b hk I X r AV=>q a A4 A7 A6 b hk I X AV r)
theorem zC.done(x:Inv K A7 A4 A6/\Ext ρ s A7 A6){a:α}{b:β}(r:R A7 A6.heap a b)(hu:∀Q E,Q b A6->T Q E)(ht:0 < s.toks->0 < A6.toks:=by first | exact fun h=>h | exact fun _=>Du _):zC K ρ s (fun k=>k a A4) T R:=fun hp k z hz Q E q=>hu _ _ (q a A4 A7 A6 b hz x.1 x.2 (ht hp) r)
theorem zC.ret(I:Inv K ρ σ s){a:α}{b:β}(r:R ρ s.heap a b)(hu:∀Q E,Q b s->T Q E):zC K ρ s (fun k=>k a σ) T R:= .done ⟨I,.refl _ _⟩ r hu
theorem zC.fail:zC K ρ s (fun _=> .fail) T R:=fun _ _ _ hz=>noS hz
theorem zC.ask{c:Bool}(h:c=true->zC K ρ s m T R)(h':c=false->zC K ρ s m' T R):zC K ρ s (fun k=>xG c (m k) (m' k)) T R:=by
 cases c with
 | true=>exact h rfl
 | false=>exact h' rfl
theorem zC.need{c:Bool}(h:c=true->zC K ρ s m T R):zC K ρ s (fun k=>need c (m k)) T R:=by
 cases c with
 | true=>exact h rfl
 | false=>exact .fail
theorem zC.cond{c:Bool}(h:c=true->zC K ρ s m T R)(h':c=false->zC K ρ s m' T R):zC K ρ s (fun k=>if c then m k else m' k) T R:=by
 cases c with
 | true=>exact h rfl
 | false=>exact h' rfl
theorem zC.only{c:Bool}(h:c=true->zC K ρ s m T R):zC K ρ s (fun k=>if c then m k else .fail) T R:= .cond h fun _=> .fail
theorem zC.not{c:Bool}(h:c=false->zC K ρ s m T R):zC K ρ s (fun k=>if c then .fail else m k) T R:= .cond (fun _=> .fail) h
theorem zC.li{o:Option γ}{g:γ->(α->Sto->Sy)->Sy}(h:∀a,o=some a->zC K ρ s (g a) T R):zC K ρ s (fun k=>liO o fun a=>g a k) T R:=by
 cases o with
 | none=>exact .fail
 | some a=>exact h a rfl
end
noncomputable abbrev VRr:List Addr->Heap->V->Value->Prop:=fun ρ h v x=>VR ρ h v x
noncomputable abbrev BRr:List Addr->Heap->Bool->Bool->Prop:=fun _ _ b c=>b=c
section
variable{K:Frag}{ρ:List Addr}{s:Shared}{σ:Sto}{T:(Value->Shared->Prop)->(Value->Shared->Prop)->Prop}
theorem zC.tok(I:Inv K ρ σ s)(tk:Tok){a:V}{b:Value}(r:VR ρ s.heap a b)(hu:∀Q E,Q b {s with toks:=tk}->T Q E)(ht:0 < s.toks->0 < tk:=by first | exact fun h=>h | exact fun _=>Du _):zC K ρ s (fun k=>k a σ) T VRr:= .done ⟨I.toks tk,(Ext.refl _ _).toks tk⟩ r hu ht
end
section
variable{ρ:List Addr}{h:Heap}{x:Value}
theorem vZ{i:Int}{t:Tok}:VR ρ h (.int i) (.int i t):=⟨t,rfl⟩
theorem yL{x:Str}{t:Tok}:VR ρ h (.str x) (.str x t):=⟨t,rfl⟩
theorem qA:VR ρ h .none .none:=rfl
theorem zCN{b:Bool}:VR ρ h (.bool b) (.bool b):=rfl
theorem kG{v:Value}:VR ρ h (.val v) v:=rfl
theorem vrI{i:Int}(r:VR ρ h (.int i) x):∃t,x= .int i t:=r
theorem vrS{i:Str}(r:VR ρ h (.str i) x):∃t,x= .str i t:=r
theorem vrB{i:Bool}(r:VR ρ h (.bool i) x):x= .bool i:=r
theorem vrN(r:VR ρ h .none x):x= .none:=r
theorem vrV{v:Value}(r:VR ρ h (.val v) x):x=v:=r
theorem vrT{i:Nat}(r:VR ρ h (.trk i) x):∃a,ρ[i]? =some a/\x= .ref a:=r
theorem kM{i:Nat}(r:VR ρ h (.trk i) x){G:Prop}(g:∀a,ρ[i]? =some a->x= .ref a->G):G:=(vrT r).elim fun a h=>g a h.1 h.2
theorem zK1{l:List V}(r:VR ρ h (.tup l) x):∃a items n,x= .ref a/\a ∉ ρ/\h.get? a=some ⟨.type "tuple",none,.seq items n,#[]⟩/\VRs ρ h l items.toList:=r
theorem zCw{l:List V}(r:VR ρ h (.tup l) x){G:Prop}(g:∀a items n,x= .ref a->a ∉ ρ->h.get? a=some ⟨.type "tuple",none,.seq items n,#[]⟩->VRs ρ h l items.toList->G):G:=by
 obtain ⟨a,i,n,e,b,c,d⟩:=zK1 r;exact g a i n e b c d
theorem zIT{l:List V}(r:VR ρ h (.lst l) x):∃a items n,x= .ref a/\a ∉ ρ/\h.get? a=some ⟨.type "list",none,.seq items n,#[]⟩/\VRs ρ h l items.toList:=r
theorem zQv{l:List Int}(r:VR ρ h (.il l) x):∃a items n,x= .ref a/\a ∉ ρ/\h.get? a=some ⟨.type "list",none,.seq items n,#[]⟩/\zFt l items.toList:=r
theorem zW{xs:List Value}(r:VRs ρ h [] xs):xs=[]:=r
theorem zO2{v:V}{l:List V}{xs:List Value}(r:VRs ρ h (v::l) xs):∃y ys,xs=y::ys/\VR ρ h v y/\VRs ρ h l ys:=r
theorem xI{v:V}{xs:List Value}(r:VRs ρ h [v] xs):∃x,xs=[x]/\VR ρ h v x:=by
 obtain ⟨y,ys,rfl,a,b⟩:=r;cases zW b;exact ⟨y,rfl,a⟩
theorem zNi{v:V}{xs:List Value}(r:VRs ρ h [v] xs){G:Prop}(g:∀x,xs=[x]->VR ρ h v x->G):G:=(xI r).elim fun x h=>g x h.1 h.2
theorem zHn{v u:V}{xs:List Value}(r:VRs ρ h [v,u] xs):∃x y,xs=[x,y]/\VR ρ h v x/\VR ρ h u y:=by
 obtain ⟨y,ys,rfl,a,b⟩:=r;obtain ⟨z,rfl,c⟩:=xI b;exact ⟨y,z,rfl,a,c⟩
end
section
variable{K:Frag}{ρ:List Addr}{s:Shared}{σ:Sto}{i:Nat}{a:Addr}
theorem Inv.list(I:Inv K ρ σ s){l:List V}(e:ρ[i]? =some a)(h:σ[i]? =some (.list l)):∃items n,s.heap.get? a=some ⟨.type "list",none,.seq items n,#[]⟩/\VRs ρ s.heap l items.toList:=by
 obtain ⟨o,xs,ho,rs,items,n,rfl,rfl⟩:=I.obs i a _ e h;exact ⟨items,n,ho,rs⟩
theorem Inv.listC(I:Inv K ρ σ s){l:List V}(e:ρ[i]? =some a)(h:σ[i]? =some (.list l)){G:Prop}(g:∀items n,s.heap.get? a=some ⟨.type "list",none,.seq items n,#[]⟩->VRs ρ s.heap l items.toList->G):G:=by
 obtain ⟨i,n,c,d⟩:=I.list e h;exact g i n c d
theorem Inv.pls(I:Inv K ρ σ s){l:List Pl}(e:ρ[i]? =some a)(h:σ[i]? =some (.pls l)):∃items n,s.heap.get? a=some ⟨.type "list",none,.seq items n,#[]⟩/\VRs ρ s.heap (plL l) items.toList:=by
 obtain ⟨o,xs,ho,rs,items,n,rfl,rfl⟩:=I.obs i a _ e h;exact ⟨items,n,ho,rs⟩
theorem zAY(I:Inv K ρ σ s){l:List Pl}(hl:σ[i]? =some (.pls l)):Inv K ρ (σ.set i (.list (plL l))) s:=I.same hl fun a ⟨o,xs,x,y,z⟩=>⟨o,xs,x,y,z⟩
theorem kR(I:Inv K ρ σ s){l:List Pl}(hl:σ[i]? =some (.list (plL l))):Inv K ρ (σ.set i (.pls l)) s:=I.same hl fun a ⟨o,xs,x,y,z⟩=>⟨o,xs,x,y,z⟩
theorem Inv.wls(I:Inv K ρ σ s){l:List (Str×List Int)}(e:ρ[i]? =some a)(h:σ[i]? =some (.wls l)):∃items n,s.heap.get? a=some ⟨.type "list",none,.seq items n,#[]⟩/\VRs ρ s.heap (wlL l) items.toList:=by
 obtain ⟨o,xs,ho,rs,items,n,rfl,rfl⟩:=I.obs i a _ e h;exact ⟨items,n,ho,rs⟩
theorem zOG(I:Inv K ρ σ s){l:List (Str×List Int)}(hl:σ[i]? =some (.wls l)):Inv K ρ (σ.set i (.list (wlL l))) s:=I.same hl fun a ⟨o,xs,x,y,z⟩=>⟨o,xs,x,y,z⟩
theorem zHX(I:Inv K ρ σ s){l:List (Str×List Int)}(hl:σ[i]? =some (.list (wlL l))):Inv K ρ (σ.set i (.wls l)) s:=I.same hl fun a ⟨o,xs,x,y,z⟩=>⟨o,xs,x,y,z⟩
theorem Inv.stk(I:Inv K ρ σ s){b:Nat}{l:List Nat}(e:ρ[i]? =some a)(h:σ[i]? =some (.stk b l)):l.length<=b/\∃items n,s.heap.get? a=some ⟨.type "list",none,.seq items n,#[]⟩/\VRs ρ s.heap (qW l) items.toList:=by
 obtain ⟨o,xs,ho,rs,hb,items,n,r,rfl⟩:=I.obs i a _ e h;exact ⟨hb,items,n,ho,zGB r⟩
end
structure AE where
 scope:Scope
 loc:Nat
 cells:List (Str×Nat)
 qual:Str
 code:Value
noncomputable def qC(ρ:List Addr):List (Str×Nat)->List (Str×Addr)->Prop
 | [],l=>l=[]
 | (n,i)::r,l=>∃a l',l=(n,a)::l'/\ρ[i]? =some a/\qC ρ r l'
theorem qC.mono{ρ AC:List Addr}(p:Pre ρ AC){l:List (Str×Nat)}{cl:List (Str×Addr)}(r:qC ρ l cl):qC AC l cl:=by
 induction l generalizing cl with
 | nil=>exact r
 | cons x l ih=>obtain ⟨a,l',q,b,c⟩:=r; exact ⟨a,l',q,p _ a b,ih c⟩
theorem wU{ρ:List Addr}{x:Str}{l:List (Str×Nat)}{cl:List (Str×Addr)}{i:Nat}(r:qC ρ l cl)(e:l.lookup x=some i):∃a,cl.lookup x=some a/\ρ[i]? =some a:=by
 induction l generalizing cl with
 | nil=>exact noS e
 | cons p l ih=>
  obtain ⟨a,l',rfl,b,c⟩:=r;rw [CX] at e ⊢;cases h:x==p.1 with
  | true=>rw [h] at e; cases e; exact ⟨a,rfl,b⟩
  | false=>rw [h] at e; exact ih c e
structure EnvR(ρ:List Addr)(ae:AE)(env:Env):Prop where
 scope:env.scope=ae.scope
 loc:ρ[ae.loc]? =some env.locals
 cells:qC ρ ae.cells env.cells
 glob:env.globals=mainGlobals
 bi:env.builtins=builtinsNs
 qual:env.qual=ae.qual
 code:ae.code= .none\/env.code=ae.code
 kind:env.scope.kind= .function
theorem EnvR.ext{ρ s AC s'}{ae:AE}{env:Env}(x:EnvR ρ ae env)(y:Ext ρ s AC s'):EnvR AC ae env:=
 ⟨x.scope,y.preP _ _ x.loc,x.cells.mono y.preP,x.glob,x.bi,x.qual,x.code,x.kind⟩
noncomputable def Rm(A:Around)(n:Nat):Prop:=A.handled=none/\A.depth + 4 * n < recursionLimit/\A.units + 16 * n < cLine
theorem Rm.le{A:Around}{n m:Nat}(h:Rm A n)(hm:m<=n):Rm A m:=
 ⟨h.1,C4 (D1 (E5 4 hm) _) h.2.1,C4 (D1 (E5 16 hm) _) h.2.2⟩
theorem Rm.down{A:Around}{n:Nat}(r:Rm A (n + 1)):Rm A n:=r.le (EL n)
inductive Fl where
 | next | brk | cont | ret (v:V)
inductive FlR (ρ:List Addr) (h:Heap):Fl->Flow->Prop
 | next:FlR ρ h .next .next
 | brk:FlR ρ h .brk .brk
 | cont:FlR ρ h .cont .cont
 | ret {v x}:VR ρ h v x->FlR ρ h (.ret v) (.ret x)
noncomputable def yB(ρ:List Addr)(h:Heap)(b:List (Str×V))(l:List (Str×Value)):Prop:=zG l=zG b/\VRs ρ h (zU b) (l.map (·.2))
theorem yB.ext{ρ s AC s'}(x:Ext ρ s AC s'){b:List (Str×V)}{l:List (Str×Value)}(r:yB ρ s.heap b l):yB AC s'.heap b l:=⟨r.1,r.2.ext x⟩
theorem kH{ρ:List Addr}{h:Heap}{l:List (Str×Value)}(r:yB ρ h [] l):l=[]:=E6.mp (zW r.2)
structure RecK where
 e:Expr->AE->Sto->(V->Sto->Sy)->Sy
 t:Expr->AE->Sto->(Bool->Sto->Sy)->Sy
 x:Stmt->AE->Sto->(Fl->Sto->Sy)->Sy
 c:V->List V->List (Str×V)->Sto->(V->Sto->Sy)->Sy
structure SndK(prog:Program)(w:World)(K:Frag)(n:Nat)(q:RecK):Prop where
 e:∀e ae σ A env ρ s,Rm A n->EnvR ρ ae env->Inv K ρ σ s->zC K ρ s (q.e e ae σ) (W prog w A s (eval e env)) VRr
 t:∀e ae σ A env ρ s,Rm A n->EnvR ρ ae env->Inv K ρ σ s->zC K ρ s (q.t e ae σ) (W prog w A s (EP e env (eval e env))) BRr
 x:∀e ae σ A env ρ s,Rm A n->EnvR ρ ae env->Inv K ρ σ s->zC K ρ s (q.x e ae σ) (W prog w A s (exec e env)) FlR
 c:∀f args kw σ A ρ s x xs xk,Rm A n->Inv K ρ σ s->VR ρ s.heap f x->VRs ρ s.heap args xs->yB ρ s.heap kw xk->zC K ρ s (q.c f args kw σ) (W prog w A s (call x xs xk)) VRr
end
noncomputable def Out(K:Frag)(ρ:List Addr)(s:Shared)(o:Option (V×Sto))(T:(Value->Shared->Prop)->(Value->Shared->Prop)->Prop):Prop:=
 ∀v AA,o=some (v,AA)->∀Q E,(∀A7 A6 x,Inv K A7 AA A6->Ext ρ s A7 A6->VR A7 A6.heap v x->Q x A6)->T Q E
noncomputable def Upd(K:Frag)(ρ:List Addr)(s:Shared)(o:Option Sto)(T:(Unit->Shared->Prop)->(Value->Shared->Prop)->Prop):Prop:=
 ∀AA,o=some AA->∀Q E,(∀A6,Inv K ρ AA A6->Ext ρ s ρ A6->Q () A6)->T Q E
section
variable{K:Frag}{ρ A7:List Addr}{s A6:Shared}{σ A4:Sto}{o o':Option (V×Sto)}{T:(Value->Shared->Prop)->(Value->Shared->Prop)->Prop}{U:(Unit->Shared->Prop)->(Value->Shared->Prop)->Prop}
theorem Out.none:Out K ρ s none T:=fun _ _ h=>noS h
theorem Out.some(x:Inv K A7 A4 A6/\Ext ρ s A7 A6){a:V}{b:Value}(r:VR A7 A6.heap a b)(hu:∀Q E,Q b A6->T Q E):Out K ρ s (some (a,A4)) T:=fun v AA h Q E q=>by
 cases h; exact hu Q E (q _ _ _ x.1 x.2 r)
theorem Out.tok(I:Inv K ρ σ s)(tk:Tok){a:V}{b:Value}(r:VR ρ s.heap a b)(hu:∀Q E,Q b {s with toks:=tk}->T Q E):Out K ρ s (.some (a,σ)) T:= .some ⟨I.toks tk,(Ext.refl _ _).toks tk⟩ r hu
theorem Out.ite{p:Prop} [Decidable p](h:p->Out K ρ s o T)(h':¬p->Out K ρ s o' T):Out K ρ s (if p then o else o') T:=by
 split
 ·exact h ‹_›
 ·exact h' ‹_›
theorem Out.only{p:Prop} [Decidable p](h:p->Out K ρ s o T):Out K ρ s (if p then o else Option.none) T:= .ite h fun _=> .none
theorem Out.bind{α:Type}{a:Option α}{f:α->Option (V×Sto)}(h:∀x,a=Option.some x->Out K ρ s (f x) T):Out K ρ s (a.bind f) T:=by
 cases a with
 | none=>exact .none
 | some x=>exact h x rfl
theorem zC.pick(h:Out K ρ s o T)(g:Gr s T:=by exact yY):zC K ρ s (fun k=> .pick o k) T VRr:= .up (g:=g) fun k z hz Q E q=>by
 cases o with
 | none=>exact noS hz
 | some p=>exact h p.1 p.2 rfl Q E fun A7 A6 x I X r=>q p.1 p.2 A7 A6 x hz I X r
theorem zC.liP(h:Out K ρ s o T)(g:Gr s T:=by exact yY):zC K ρ s (fun k=>liO o fun p=>k p.1 p.2) T VRr:= .li fun a ha=> .up (g:=g) fun k z hz Q E q=>h a.1 a.2 ha Q E fun A7 A6 x I X r=>q _ _ A7 A6 x hz I X r
theorem zC.upd{a:Option Sto}{α β:Type}{R:List Addr->Heap->α->β->Prop}{T':(β->Shared->Prop)->(Value->Shared->Prop)->Prop}{g:Sto->(α->Sto->Sy)->Sy}(h:Upd K ρ s a U)(C:Shared->(β->Shared->Prop)->(Value->Shared->Prop)->Prop)(hu:∀Q E,U (fun _ A6=>C A6 Q E) E->T' Q E)
  (hg:∀A4 A6,Inv K ρ A4 A6->Ext ρ s ρ A6->zC K ρ A6 (g A4) (C A6) R) (gu:Gr s U:=by exact yY):zC K ρ s (fun k=>liO a fun A4=>g A4 k) T' R:= .li fun A4 ha hp k z hz Q E q=>hu Q E (gu hp _ _ (h A4 ha _ _ fun A6 I X AV=>
   hg A4 A6 I X AV k z hz Q E fun a A5 AJ A9 b hk I' X' Af r=>q a A5 AJ A9 b hk I' (X.then I X') Af r))
theorem Upd.none:Upd K ρ s none U:=fun _ h=>noS h
theorem Upd.some(x:Inv K ρ A4 A6/\Ext ρ s ρ A6)(hu:∀Q E,Q () A6->U Q E):Upd K ρ s (some A4) U:=fun AA h Q E q=>by cases h; exact hu Q E (q _ x.1 x.2)
end
noncomputable def xC{α:Type}(x:Str)(v:α):List (Str×α)->List (Str×α)
 | []=>[(x,v)]
 | p::r=>if eqS p.1 x then (p.1,v)::r else p::xC x v r
theorem zGP{α:Type}(x:Str)(v:α)(kv:List (Str×α))(y:Str):(xC x v kv).lookup y=if y=x then some v else kv.lookup y:=by
 induction kv with
 | nil=>
  show Co y [(x,v)]=_;rw [CX]
  by_cases h:y=x
  ·rw [h,beq_self_eq_true,if_pos rfl]
  ·rw [beq_eq_false_iff_ne.mpr h,if_neg h]
 | cons p r ih=>
  show (if eqS p.1 x then (p.1,v)::r else p::xC x v r).lookup y=_
  by_cases hk:p.1=x
  ·rw [if_pos ((yI _ _).mpr hk),CX,CX,hk]
   by_cases h:y=x
   ·rw [h,beq_self_eq_true,if_pos rfl]
   ·rw [beq_eq_false_iff_ne.mpr h,if_neg h]
  ·rw [if_neg (fun h=>hk ((yI _ _).mp h)),CX,CX,ih]
   by_cases h:y=p.1
   ·subst h; rw [beq_self_eq_true]; exact (if_neg hk).symm
   ·rw [beq_eq_false_iff_ne.mpr h]
section
variable{ρ:List Addr}{h:Heap}
theorem zCL{kv:List (Str×V)}{xs:List Value}(r:VRs ρ h (zU kv) xs)(x:Str):OR ρ h (kv.lookup x) (((zG kv).zip xs).lookup x):=by
 induction kv generalizing xs with
 | nil=>exact trivial
 | cons p kv ih=>
  obtain ⟨y,ys,rfl,a,b⟩:=r;show OR ρ h (Co x ((p.1,p.2)::kv)) (Co x ((p.1,y)::(zG kv).zip ys));rw [CX,CX];cases x==p.1 with
  | true=>exact a
  | false=>exact ih b
theorem zKQ{kv:List (Str×V)}{xs:List Value}(r:VRs ρ h (zU kv) xs)(x:Str){v:V}{y:Value}(rv:VR ρ h v y):∃xs',VRs ρ h (zU (xC x v kv)) xs'/\(zG (xC x v kv)).zip xs'=xC x y ((zG kv).zip xs):=by
 induction kv generalizing xs with
 | nil=>exact ⟨[y],VRs.one rv,rfl⟩
 | cons p kv ih=>
  obtain ⟨z,ys,rfl,a,b⟩:=r;show ∃xs',VRs ρ h (zU (if eqS p.1 x then (p.1,v)::kv else p::xC x v kv)) xs'/\(zG (if eqS p.1 x then (p.1,v)::kv else p::xC x v kv)).zip xs'=if eqS p.1 x then (p.1,y)::(zG kv).zip ys else (p.1,z)::xC x y ((zG kv).zip ys);cases eqS p.1 x with
  | true=>exact ⟨_,⟨y,ys,rfl,rv,b⟩,rfl⟩
  | false=>
   obtain ⟨xs',h1,h2⟩:=ih b;exact ⟨z::xs',⟨z,xs',rfl,a,h1⟩,congrArg ((p.1,z)::·) h2⟩
end
noncomputable def nsA(σ:Sto)(i:Nat):Option (List (Str×V)):=match σ[i]? with
 | some ob=>(match ob with | .ns kv=>some kv | _=>none)
 | none=>none
noncomputable def zQM(σ:Sto)(i:Nat):Option (Option V):=match σ[i]? with
 | some ob=>(match ob with | .cell v=>some v | _=>none)
 | none=>none
noncomputable def lsA(σ:Sto)(i:Nat):Option (List V):=match σ[i]? with
 | some ob=>(match ob with | .list l=>some l | .stk _ l=>some (qW l) | .pls l=>some (plL l) | .wls l=>some (wlL l) | _=>none)
 | none=>none
noncomputable def obO{α:Type}(σ:Sto)(i:Nat)(f:Ob->Option α):Option α:=match σ[i]? with
 | some ob=>f ob
 | none=>none
theorem zOY{α:Type}{σ:Sto}{i:Nat}{f:Ob->Option α}{a:α}(h:obO σ i f=some a):∃ob,σ[i]? =some ob/\f ob=some a:=by
 have h:(match σ[i]? with | some ob=>f ob | none=>none)=some a:=h;cases e:σ[i]? with
 | none=>rw [e] at h; exact noS h
 | some ob=>rw [e] at h; exact ⟨ob,rfl,h⟩
theorem obC{α:Type}{σ:Sto}{i:Nat}{f:Ob->Option α}{a:α}(h:obO σ i f=some a){G:Prop}(g:∀ob,σ[i]? =some ob->f ob=some a->G):G:=(zOY h).elim fun x h=>g x h.1 h.2
theorem zW7{σ:Sto}{i:Nat}{kv:List (Str×V)}(h:nsA σ i=some kv):σ[i]? =some (.ns kv):=by
 refine obC h fun ob e h=>e.trans (congrArg some ?_);clear e;cases ob with
 | ns kv=>cases h; rfl
 | _=>exact noS h
theorem zH1{σ:Sto}{i:Nat}{v:Option V}(h:zQM σ i=some v):σ[i]? =some (.cell v):=by
 refine obC h fun ob e h=>e.trans (congrArg some ?_);clear e;cases ob with
 | cell v=>cases h; rfl
 | _=>exact noS h
noncomputable def zDW(ae:AE)(σ:Sto)(x:Str):Option V:=(lkS ae.cells x).bind fun i=>(zQM σ i).bind id
noncomputable def zLS(gl:Str->Option Value)(x:Str)(ae:AE)(σ:Sto)(kd:NameKind):Option V:=match kd with
 | .local=>(nsA σ ae.loc).bind fun kv=>lkS kv x
 | .cell=>zDW ae σ x
 | .free=>(if eqS x ("__classdict__":Str) then none else some ()).bind fun _=>zDW ae σ x
 | .globalImplicit=>(gl x).map .val
 | _=>none
noncomputable def zJT(gl:Str->Option Value)(x:Str)(ae:AE)(σ:Sto):Option V:=(lkS ae.scope.names x).bind (zLS gl x ae σ)
noncomputable def zKx(x:Str)(v:V)(ae:AE)(σ:Sto)(kd:NameKind):Option Sto:=match kd with
 | .local=>(nsA σ ae.loc).map fun kv=>σ.set ae.loc (.ns (xC x v kv))
 | .cell=>(lkS ae.cells x).bind fun i=>(zQM σ i).map fun _=>σ.set i (.cell (some v))
 | _=>none
noncomputable def qM(x:Str)(v:V)(ae:AE)(σ:Sto):Option Sto:=(lkS ae.scope.names x).bind (zKx x v ae σ)
structure GlOK(K:Frag)(gl:Str->Option Value):Prop where
 glob:∀h,K.In h->∀n v,gl n=some v->(∃mg,h.Ns mainGlobals mg/\(mg n=some v\/(mg n=none/\∃mb,h.Ns builtinsNs mb/\mb n=some v)))
section
variable{prog:Program}{w:World}{A:Around}{K:Frag}{gl:Str->Option Value}{ρ:List Addr}{σ:Sto}{s:Shared}{ae:AE}{env:Env}
theorem zMe(X:EnvR ρ ae env){x:Str}{k:NameKind}(h:lkS ae.scope.names x=some k):env.kindOf x=some k:=by
 unfold Env.kindOf;rw [X.scope,<-wM]; exact h
theorem zLw(I:Inv K ρ σ s)(X:EnvR ρ ae env){x:Str}{v:V}(e:zDW ae σ x=some v):∃c y,env.cells.lookup x=some c/\s.heap.IsCell c (some y)/\VR ρ s.heap v y:=by
 refine zJ e fun i hi e=>?_;refine zJ e fun u hc e=>?_;cases (show u=some v from e);obtain ⟨a,ha,hr⟩:=wU X.cells ((wM _ _).symm.trans hi);obtain ⟨o,xs,ho,rs,sh⟩:=I.obs i a _ hr (zH1 hc);obtain ⟨y,rfl,ry⟩:=xI rs;exact ⟨a,y,ha,⟨o,ho,sh⟩,ry⟩
theorem zQL(I:Inv K ρ σ s){i:Nat}{a:Addr}{kv:List (Str×V)}(ha:ρ[i]? =some a)(h:nsA σ i=some kv):∃xs,VRs ρ s.heap (zU kv) xs/\s.heap.Ns a fun x=>((zG kv).zip xs).lookup x:=by
 obtain ⟨o,xs,ho,rs,es,ep,sh⟩:=I.obs i a _ ha (zW7 h);exact ⟨xs,rs,o,es,ep,ho,sh⟩
theorem zJl(X:EnvR ρ ae env)(I:Inv K ρ σ s){x:Str}{v:V}(hk:env.kindOf x=some .local)(e:zLS gl x ae σ .local=some v){Q:Value->Shared->Prop}{E:Value->Shared->Prop}(q:∀y,VR ρ s.heap v y->Q y s):wpAny (model prog w) A (loadName env x) Q E s:=by
 refine zJ e fun kv hw e=>?_;obtain ⟨xs,rs,hn⟩:=zQL I X.loc hw;have hx:=zCL rs x;rw [<-wM kv,e] at hx;cases hv:Co x ((zG kv).zip xs) with
 | none=>rw [hv] at hx; exact hx.elim
 | some y=>rw [hv] at hx; exact wpAny_loadName_local X.kind hk hn hv (q y hx)
theorem zMw(X:EnvR ρ ae env)(I:Inv K ρ σ s){x:Str}{v:V}(hk:env.kindOf x=some .free)(e:zLS gl x ae σ .free=some v){Q:Value->Shared->Prop}{E:Value->Shared->Prop}(q:∀y,VR ρ s.heap v y->Q y s):wpAny (model prog w) A (loadName env x) Q E s:=by
 refine zJ e fun _ hc e=>?_;obtain ⟨c,y,h1,h2,h3⟩:=zLw I X e;refine wpAny_loadName_free X.kind hk h1 h2 (q y h3) (zAy x _▸?_);cases hcd:eqS x ("__classdict__":Str) with
 | true=>rw [hcd] at hc; exact noS hc
 | false=>rfl
theorem zIU(GO:GlOK K gl)(X:EnvR ρ ae env)(I:Inv K ρ σ s){x:Str}{v:V}(hk:env.kindOf x=some .globalImplicit)(e:zLS gl x ae σ .globalImplicit=some v){Q:Value->Shared->Prop}{E:Value->Shared->Prop}(q:∀y,VR ρ s.heap v y->Q y s):wpAny (model prog w) A (loadName env x) Q E s:=by
 refine yJ e fun g hw e__=>?_;cases e__;rw [loadName_read X.kind hk];obtain ⟨mg,hg,h⟩:=GO.glob _ I.kin _ _ hw;rcases h with h | ⟨h,mb,hb,hv⟩
 ·exact Calls.loadGlobal_global (X.glob▸hg) h (q g rfl)
 ·exact Calls.loadGlobal_builtin (X.glob▸hg) h (X.bi▸hb) hv (q g rfl)
theorem zC2(GO:GlOK K gl)(X:EnvR ρ ae env)(I:Inv K ρ σ s){x:Str}{v:V}(e:zJT gl x ae σ=some v){Q:Value->Shared->Prop}{E:Value->Shared->Prop}(q:∀y,VR ρ s.heap v y->Q y s):wpAny (model prog w) A (loadName env x) Q E s:=by
 refine zJ e fun k hk e=>?_;have hk:=zMe X hk;cases k with
 | «local» =>exact zJl X I hk e q
 | cell=>
  obtain ⟨c,y,h1,h2,h3⟩:=zLw I X e;exact wpAny_loadName_cell X.kind hk h1 h2 (q y h3)
 | free=>exact zMw X I hk e q
 | globalImplicit=>exact zIU GO X I hk e q
 | _=>exact noS e
theorem zHr(X:EnvR ρ ae env)(I:Inv K ρ σ s){x:Str}{v:V}(hk:env.kindOf x=some .local){y:Value}(r:VR ρ s.heap v y):Upd K ρ s (zKx x v ae σ .local) (W prog w A s (storeName env x y)):=by
 intro AA e Q E q;refine yJ e fun kv hw e__=>?_;cases e__;obtain ⟨xs,rs,hn⟩:=zQL I X.loc hw;refine wpAny_storeName_local hk hn (fun h' hn' hb=>?_) (by rw [X.kind]; rfl);have kp:Kp true ρ ρ s.heap h':=fun b o nb e _=>⟨hb.extBut b o (fun z=>nb (z▸BZ X.loc)) e,nb⟩;obtain ⟨xs',h1,h2⟩:=zKQ (rs.mono (fun _ _ e=>e) kp) x (r.mono (fun _ _ e=>e) kp);obtain ⟨o,es,ep,ho,hd,hk,hm⟩:=hn';have x1:=I.upd (ob:= .ns (xC x v kv)) X.loc hb.extBut (s.toks + 1) ⟨o,xs',ho,h1,es,ep,hd,hk,fun z=>(hm z).trans (by rw [h2]; exact (zGP ..).symm)⟩;exact q _ x1.1 x1.2
theorem zJq(X:EnvR ρ ae env)(I:Inv K ρ σ s){x:Str}{v:V}(hk:env.kindOf x=some .cell){y:Value}(r:VR ρ s.heap v y):Upd K ρ s (zKx x v ae σ .cell) (W prog w A s (storeName env x y)):=by
 intro AA e Q E q;refine zJ e fun i hi e=>?_;refine yJ e fun u hw e__=>?_;cases e__;obtain ⟨a,ha,hr⟩:=wU X.cells ((wM _ _).symm.trans hi);obtain ⟨o,xs,ho,rs,sh⟩:=I.obs i a _ hr (zH1 hw);refine wpAny_storeName_cell X.kind hk ha ⟨o,ho,sh⟩ fun h' hc' hb=>?_;obtain ⟨o',ho',hd⟩:=hc';have x1:=I.upd (ob:= .cell (some v)) hr hb.extBut s.toks ⟨o',[y],ho',VRs.one (r.mono (fun _ _ e=>e) fun b o nb e _=>⟨hb.extBut b o (fun z=>nb (z▸BZ hr)) e,nb⟩),hd⟩;exact q _ x1.1 x1.2
theorem kQ{x:Str}{v:V}(X:EnvR ρ ae env)(I:Inv K ρ σ s){y:Value}(r:VR ρ s.heap v y):Upd K ρ s (qM x v ae σ) (W prog w A s (storeName env x y)):=by
 intro AA h;refine zJ h fun k hk e=>?_;have hk:=zMe X hk;cases k with
 | «local» =>exact zHr X I hk r AA e
 | cell=>exact zJq X I hk r AA e
 | _=>exact noS e
end
noncomputable def zR(v:V)(σ:Sto):Option (List V):=match v with
 | .lst l=>some l
 | .il l=>some (l.map .int)
 | .trk i=>lsA σ i
 | _=>none
section
variable{K:Frag}{ρ:List Addr}{σ:Sto}{s:Shared}
theorem zXv(I:Inv K ρ σ s){v:V}{l:List V}(h:zR v σ=some l){x:Value}(rx:VR ρ s.heap v x):∃a items n,x= .ref a/\s.heap.get? a=some ⟨.type "list",none,.seq items n,#[]⟩/\VRs ρ s.heap l items.toList:=by
 cases v with
 | lst l'=>cases h; obtain ⟨a,items,n,rfl,_,ho,rs⟩:=zIT rx; exact ⟨a,items,n,rfl,ho,rs⟩
 | il l'=>cases h; obtain ⟨a,items,n,rfl,_,ho,rs⟩:=zQv rx; exact ⟨a,items,n,rfl,ho,zDh rs⟩
 | trk i=>
  refine kM rx fun a ha e__=>?_;cases e__;refine obC h fun ob hl h=>?_;cases ob with
  | list l'=>cases h; obtain ⟨items,n,z⟩:=I.list ha hl; exact ⟨a,items,n,rfl,z⟩
  | pls l'=>cases h; obtain ⟨items,n,z⟩:=I.pls ha hl; exact ⟨a,items,n,rfl,z⟩
  | wls l'=>cases h; obtain ⟨items,n,z⟩:=I.wls ha hl; exact ⟨a,items,n,rfl,z⟩
  | stk b l'=>cases h; obtain ⟨_,items,n,z⟩:=I.stk ha hl; exact ⟨a,items,n,rfl,z⟩
  | _=>exact noS h
 | _=>exact noS h
theorem wG(I:Inv K ρ σ s){v:V}{l:List V}(h:zR v σ=some l){x:Value}(rx:VR ρ s.heap v x){G:Prop}(g:∀a items n,x= .ref a->s.heap.get? a=some ⟨.type "list",none,.seq items n,#[]⟩->VRs ρ s.heap l items.toList->G):G:=by
 obtain ⟨a,i,n,e,c,d⟩:=zXv I h rx;exact g a i n e c d
theorem zN{n:Nat}(h:n<=1000):n<=sizeLine:=Bn h (by decide)
variable{T:(Value->Shared->Prop)->(Value->Shared->Prop)->Prop}
theorem vG{l:List V}{xs:Array Value}(I:Inv K ρ σ s)(tk:Tok)(r:VRs ρ s.heap l xs.toList):(Inv K (ρ ++ [s.heap.objs.size]) (σ ++ [.list l]) {s with heap:=s.heap.push {cls:= .type "list",data:= .seq xs},toks:=tk}/\Ext ρ s (ρ ++ [s.heap.objs.size]) {s with heap:=s.heap.push {cls:= .type "list",data:= .seq xs},toks:=tk})/\
  VR (ρ ++ [s.heap.objs.size]) (s.heap.push {cls:= .type "list",data:= .seq xs}) (.trk σ.length) (.ref s.heap.objs.size):=by
 have k:Kp true ρ (ρ ++ [s.heap.objs.size]) s.heap (s.heap.push {cls:= .type "list",data:= .seq xs}):=fun b o nb e _=>⟨By _ e,fun m=>(BR.mp m).elim nb fun m=>by cases BP.mp m; exact noS <| (qK s.heap).symm.trans e⟩;exact ⟨I.alloc (o:={cls:= .type "list",data:= .seq xs}) (ob:= .list l) tk ⟨_,xs.toList,Bf _ rfl,r.mono (xF _ _) k,xs,0,rfl,rfl⟩,_,I.last _,rfl⟩
theorem Out.list{l:List V}{xs:Array Value}(I:Inv K ρ σ s)(tk:Tok)(r:VRs ρ s.heap l xs.toList)(hu:∀Q E,Q (.ref s.heap.objs.size) {s with heap:=s.heap.push {cls:= .type "list",data:= .seq xs},toks:=tk}->T Q E):Out K ρ s (.some (.trk σ.length,σ ++ [.list l])) T:=
 .some (vG I tk r).1 (vG I tk r).2 hu
theorem zC.list{l:List V}{xs:Array Value}(I:Inv K ρ σ s)(tk:Tok)(r:VRs ρ s.heap l xs.toList)(hu:∀Q E,Q (.ref s.heap.objs.size) {s with heap:=s.heap.push {cls:= .type "list",data:= .seq xs},toks:=tk}->T Q E)(ht:0 < s.toks->0 < tk:=by first | exact fun h=>h | exact fun _=>Du _):zC K ρ s (fun k=>k (.trk σ.length) (σ ++ [.list l])) T VRr:=
 .done (vG I tk r).1 (vG I tk r).2 hu ht
theorem zC.tup{l:List V}{xs:Array Value}(I:Inv K ρ σ s)(r:VRs ρ s.heap l xs.toList)(hu:∀Q E,Q (.ref s.heap.objs.size) {s with heap:=s.heap.push {cls:= .type "tuple",data:= .seq xs}}->T Q E):zC K ρ s (fun k=>k (.tup l) σ) T VRr:=
 have x:=I.extra {cls:= .type "tuple",data:= .seq xs} s.toks
 .done x ⟨_,xs,0,rfl,I.fresh,Bf _ rfl,r.ext x.2⟩ hu
theorem Inv.updList{i:Nat}{a:Addr}{items:Array Value}{k:Nat}{l':List V}{f:Array Value->Array Value}(I:Inv K ρ σ s)(e:ρ[i]? =some a)
  (ho:s.heap.get? a=some ⟨.type "list",none,.seq items k,#[]⟩) (rs:VRs ρ s.heap l' (f items).toList):
  Inv K ρ (σ.set i (.list l')) {s with heap:=s.heap.update a (Cy f)}/\Ext ρ s ρ {s with heap:=s.heap.update a (Cy f)}:=by
 have hb:=(DF s.heap a (Cy f)).extBut;exact I.upd e hb s.toks ⟨_,_,CZ _ ho rfl,rs.mono (fun _ _ e=>e) fun b o nb e' _=>⟨hb b o (fun z=>nb (z▸BZ e)) e',nb⟩,f items,_,rfl,rfl⟩
end
noncomputable def Tst(m:(Bool->Sy)->Sy)(P:Bool->Prop):Prop:=∀k z,run (m k)=some z->∃c,run (k c)=some z/\P c
section
variable{m m':(Bool->Sy)->Sy}{P P':Bool->Prop}
theorem Tst.ret{c:Bool}(h:P c):Tst (fun k=>k c) P:=fun k z hz=>⟨c,hz,h⟩
theorem Tst.fail:Tst (fun _=> .fail) P:=fun _ _ hz=>noS hz
theorem Tst.need{b:Bool}(h:b=true->Tst m P):Tst (fun k=>need b (m k)) P:=by
 cases b with
 | true=>exact h rfl
 | false=>exact .fail
theorem Tst.ask{b:Bool}(h:b=true->Tst m P)(h':Tst m' P):Tst (fun k=>xG b (m k) (m' k)) P:=by
 cases b with
 | true=>exact h rfl
 | false=>exact h'
theorem Tst.li{α:Type}{o:Option α}{g:α->(Bool->Sy)->Sy}(h:∀a,o=some a->Tst (g a) P):Tst (fun k=>liO o fun a=>g a k) P:=by
 cases o with
 | none=>exact .fail
 | some a=>exact h a rfl
theorem Tst.turn(h:Tst m P)(f:Bool->Bool)(hp:∀c,P c->P' (f c)):Tst (fun k=>m fun c=>k (f c)) P':=fun k z hz=>by
 obtain ⟨c,h1,h2⟩:=h _ z hz;exact ⟨f c,h1,hp c h2⟩
end
noncomputable abbrev Cmp(prog:Program)(w:World)(A:Around)(s:Shared)(op:CmpOp)(x y:Value)(c:Bool):Prop:=∀Q E,(∀tk,Q (.bool c) {s with toks:=tk})->wpAny (model prog w) A (compareOp op x y) Q E s
noncomputable def qI{α β:Type}(f:α->Option β):List α->Option (List β)
 | []=>some []
 | v::l=>(f v).bind fun d=>(qI f l).map (d::·)
theorem zYF{α β:Type}(f:α->Option β)(v:α)(l:List α):qI f (v::l)=(f v).bind fun d=>(qI f l).map (d::·):=rfl
noncomputable def nlA(σ:Sto)(i:Nat):Option (List V):=match σ[i]? with
 | some ob=>(match ob with | .list l=>some l | _=>none)
 | none=>none
noncomputable def zC3:Lf->PyData
 | .s x=> .str x
 | .i n=> .int n
noncomputable def zBR:Pl->PyData
 | .one a=>zC3 a
 | .tup l=> .tuple (l.map zC3)
noncomputable def pyO(f:V->Option PyData)(ob:Ob):Option PyData:=match ob with
 | .list l=>(qI f l).map .list
 | .pls l=>some (.list (l.map zBR))
 | _=>none
noncomputable def py(σ:Sto):Nat->V->Option PyData
 | 0,_=>none
 | n + 1,v=>match v with
  | .none=>some .none
  | .bool b=>some (.bool b)
  | .int i=>some (.int i)
  | .str s=>some (.str s)
  | .tup l=>(qI (py σ n) l).map .tuple
  | .lst l=>(qI (py σ n) l).map .list
  | .il l=>some (.list (l.map .int))
  | .trk i=>(σ[i]? :Option Ob).bind (pyO (py σ n))
  | _=>none
section
variable{K:Frag}{ρ:List Addr}{σ:Sto}{s:Shared}
theorem zDQ{f:V->Option PyData}(hf:∀(v:V) (d:PyData) (x:Value),f v=some d->VR ρ s.heap v x->∃as,Reads s.heap x d as){l:List V}{ds:List PyData}{xs:List Value}(e:qI f l=some ds)(r:VRs ρ s.heap l xs):∃as,ReadsAll s.heap xs ds as:=by
 induction l generalizing ds xs with
 | nil=>cases e; cases zW r; exact ⟨_,.nil⟩
 | cons v l ih=>
  refine zJ e fun d h1 e=>?_;refine yJ e fun ds' h2 e__=>?_;cases e__;obtain ⟨y,ys,rfl,ry,rys⟩:=r;obtain ⟨as,ha⟩:=hf v d y h1 ry;obtain ⟨bs,hb⟩:=ih h2 rys;exact ⟨_,.cons ha hb⟩
theorem zOI{i:Nat}{l:List V}(h:nlA σ i=some l):σ[i]? =some (.list l):=by
 refine obC h fun ob e h=>e.trans (congrArg some ?_);clear e;cases ob with
 | list kv=>cases h; rfl
 | _=>exact noS h
theorem zIi{a:Lf}{x:Value}(r:VR ρ s.heap (lfV a) x):∃as,Reads s.heap x (zC3 a) as:=by
 cases a with
 | s=>obtain ⟨t,rfl⟩:=vrS r; exact ⟨_,.str _ t⟩
 | i=>obtain ⟨t,rfl⟩:=vrI r; exact ⟨_,.int _ t⟩
theorem zMz{l:List Lf}{xs:List Value}(r:VRs ρ s.heap (l.map lfV) xs):∃as,ReadsAll s.heap xs (l.map zC3) as:=by
 induction l generalizing xs with
 | nil=>cases zW r; exact ⟨_,.nil⟩
 | cons v l ih=>
  obtain ⟨y,ys,rfl,ry,rys⟩:=r;obtain ⟨as,ha⟩:=zIi ry;obtain ⟨bs,hb⟩:=ih rys;exact ⟨_,.cons ha hb⟩
theorem zRn{a:Pl}{x:Value}(r:VR ρ s.heap (plV a) x):∃as,Reads s.heap x (zBR a) as:=by
 cases a with
 | one a=>exact zIi r
 | tup l=>
  refine zCw r fun a items m e__ _ ho rs=>?_;cases e__;obtain ⟨as,h'⟩:=zMz rs;exact ⟨_,.tuple ho rfl rfl h'⟩
theorem zMq{l:List Pl}{xs:List Value}(r:VRs ρ s.heap (plL l) xs):∃as,ReadsAll s.heap xs (l.map zBR) as:=by
 induction l generalizing xs with
 | nil=>cases zW r; exact ⟨_,.nil⟩
 | cons v l ih=>
  obtain ⟨y,ys,rfl,ry,rys⟩:=r;obtain ⟨as,ha⟩:=zRn ry;obtain ⟨bs,hb⟩:=ih rys;exact ⟨_,.cons ha hb⟩
theorem zJg{l:List Int}{xs:List Value}(r:zFt l xs):∃as,ReadsAll s.heap xs (l.map .int) as:=by
 induction l generalizing xs with
 | nil=>cases (show xs=[] from r); exact ⟨_,.nil⟩
 | cons v l ih=>
  obtain ⟨t,ys,rfl,rys⟩:=r;obtain ⟨bs,hb⟩:=ih rys;exact ⟨_,.cons (.int _ t) hb⟩
theorem zBa(I:Inv K ρ σ s)(n:Nat)(v:V)(d:PyData)(x:Value)(e:py σ n v=some d)(r:VR ρ s.heap v x):∃as,Reads s.heap x d as:=by
 induction n generalizing v d x with
 | zero=>exact noS e
 | succ n ih=>
  have go:∀{a:Addr} {items:Array Value} {m:Nat} {l:List V} {d:PyData},s.heap.get? a=some ⟨.type "list",none,.seq items m,#[]⟩->(qI (py σ n) l).map .list=some d->VRs ρ s.heap l items.toList->∃as,Reads s.heap (.ref a) d as:=fun ho e rs=>by
   refine yJ e fun ds h e__=>?_;cases e__;obtain ⟨as,h'⟩:=zDQ ih h rs;exact ⟨_,.list ho rfl rfl h'⟩
  cases v with
  | none=>cases e; cases vrN r; exact ⟨_,.none⟩
  | bool=>cases e; cases vrB r; exact ⟨_,.bool _⟩
  | int=>cases e; obtain ⟨t,rfl⟩:=vrI r; exact ⟨_,.int _ t⟩
  | str=>cases e; obtain ⟨t,rfl⟩:=vrS r; exact ⟨_,.str _ t⟩
  | tup l=>
   refine yJ e fun ds h e__=>?_;cases e__;refine zCw r fun a items m e__ _ ho rs=>?_;cases e__;obtain ⟨as,h'⟩:=zDQ ih h rs;exact ⟨_,.tuple ho rfl rfl h'⟩
  | lst l=>
   obtain ⟨a,items,m,rfl,_,ho,rs⟩:=zIT r;exact go ho e rs
  | il l=>
   cases e;obtain ⟨a,items,m,rfl,_,ho,rs⟩:=zQv r;obtain ⟨as,h'⟩:=zJg rs;exact ⟨_,.list ho rfl rfl h'⟩
  | trk i=>
   refine zJ e fun ob hl e=>?_;refine kM r fun a ha e__=>?_;cases e__;cases ob with
   | list l=>
    refine I.listC ha hl fun items m ho rs=>?_;exact go ho e rs
   | pls l=>
    cases e;obtain ⟨items,m,ho,rs⟩:=I.pls ha hl;obtain ⟨as,h'⟩:=zMq rs;exact ⟨_,.list ho rfl rfl h'⟩
   | _=>exact noS e
  | _=>exact noS e
end
noncomputable def pyK(σ:Sto)(a b:V)(k:Bool->Sy):Sy:=liO (py σ 9 a) fun x=>liO (py σ 9 b) fun y=>need (C8 x && C8 y) (k (x.eqv y))
noncomputable def eqK(a b:V)(σ:Sto)(k:Bool->Sy):Sy:=match a with
 | .int i=>(match b with | .int j=>k (i==j) | _=>pyK σ a b k)
 | .str x=>(match b with | .str y=>k (x.cps.toList==y.cps.toList) | _=>pyK σ a b k)
 | .bool x=>(match b with | .bool y=>k (x==y) | _=>pyK σ a b k)
 | _=>pyK σ a b k
noncomputable def zOl(y x:Str):Bool:=match y.cps.toList with
 | []=>!(DE x y 0 x.length 1).isEmpty
 | c::r=>(match r with
  | []=>x.cps.toList.any (BQ c)
  | _=>!(DE x y 0 x.length 1).isEmpty)
noncomputable def inD(O:Option Bool)(d e:PyData)(k:Bool->Sy):Sy:=match e with
 | .list xs=>xG (C8 d && C8 (.list xs)) (k (xs.any fun y=>ER y d)) (liO O k)
 | .tuple xs=>xG (C8 d && C8 (.tuple xs)) (k (xs.any fun y=>ER y d)) (liO O k)
 | _=>liO O k
noncomputable def inG(O:Option Bool)(o:Option PyData)(o':Option PyData)(k:Bool->Sy):Sy:=match o with
 | some d=>(match o' with
  | some e=>inD O d e k
  | none=>liO O k)
 | none=>liO O k
noncomputable def inK(O:V->V->Option Bool)(a b:V)(σ:Sto)(k:Bool->Sy):Sy:=match a with
 | .str y=>(match b with | .str x=>k (zOl y x) | _=>inG (O a b) (py σ 9 a) (py σ 9 b) k)
 | _=>inG (O a b) (py σ 9 a) (py σ 9 b) k
section
variable{prog:Program}{w:World}{A:Around}{K:Frag}{ρ:List Addr}{σ:Sto}{s:Shared}{x y:Value}
noncomputable abbrev zZA(prog:Program)(w:World)(A:Around)(s:Shared)(x y:Value)(c:Bool):Prop:=Cmp prog w A s .Eq x y c/\Cmp prog w A s .NotEq x y (!c)
theorem zX{op:CmpOp}{c:Bool}(h:∀Q E,Q (.bool c) s->wpAny (model prog w) A (compareOp op x y) Q E s):Cmp prog w A s op x y c:=fun Q E q=>h Q E (q s.toks)
theorem zYd(hA:A.units + 65 < cLine)(I:Inv K ρ σ s){a b:V}(ra:VR ρ s.heap a x)(rb:VR ρ s.heap b y):Tst (pyK σ a b) (zZA prog w A s x y):= .li fun d h1=> .li fun e h2=> .need fun hs=>by
 obtain ⟨as,ha⟩:=zBa I _ _ _ _ h1 ra;obtain ⟨bs,hb⟩:=zBa I _ _ _ _ h2 rb;refine zF hs fun s1 s2=>?_;have hu:A.units + 64 < cLine:=Nat.lt_of_succ_lt hA;exact .ret ⟨zX fun Q E q=>eq_dataH ha hb s1 s2 hu q,zX fun Q E q=>ne_dataH ha hb s1 s2 hu q⟩
theorem zOF(hA:A.units + 65 < cLine)(I:Inv K ρ σ s){a b:V}(ra:VR ρ s.heap a x)(rb:VR ρ s.heap b y):Tst (eqK a b σ) (zZA prog w A s x y):=by
 have gen:=zYd (prog:=prog) (w:=w) hA I ra rb;cases a with
 | int=>cases b with
  | int=>obtain ⟨t,rfl⟩:=vrI ra; obtain ⟨u,rfl⟩:=vrI rb; exact .ret ⟨zX fun Q E q=>wpAny_eq_int q,zX fun Q E q=>P.ne_int q⟩
  | _=>exact gen
 | str=>cases b with
  | str=>obtain ⟨t,rfl⟩:=vrS ra; obtain ⟨u,rfl⟩:=vrS rb; exact .ret ⟨zX fun Q E q=>P.eq_str q,zX fun Q E q=>P.ne_str q⟩
  | _=>exact gen
 | bool=>cases b with
  | bool=>cases vrB ra; cases vrB rb; exact .ret ⟨zX fun Q E q=>PyProof.Rows.eq_bool q,zX fun Q E q=>PyProof.Rows.ne_bool q⟩
  | _=>exact gen
 | _=>exact gen
noncomputable abbrev zFO(prog:Program)(w:World)(A:Around)(s:Shared)(x y:Value)(c:Bool):Prop:=Cmp prog w A s .In x y c/\Cmp prog w A s .NotIn x y (!c)
theorem zOX(y x:Str):zOl y x=!(DE x y 0 x.length 1).isEmpty:=by
 have one:∀c,y.cps.toList=[c]->x.cps.toList.any (BQ c)=!(DE x y 0 x.length 1).isEmpty:=fun c hc=>by
  have e:y=⟨#[c]⟩:=congrArg Str.mk (Dw.mp hc);rw [e,StrLaws.found_one,E8,decide_eq_true_eq,Ci];exact ⟨fun ⟨z,hm,hz⟩=>Bg hz▸hm,fun hm=>⟨c,hm,CQ c⟩⟩
 unfold zOl;generalize hy:y.cps.toList=l;cases l with
 | nil=>rfl
 | cons c r=>cases r with
  | nil=>exact one c hy
  | cons=>rfl
theorem xN{d:PyData}(h:C8 d=true):d.canLay0=true/\d.depth<=64:=by
 refine zF h fun h1 h2=>?_;exact ⟨h1,of_decide_eq_true h2⟩
theorem zRN(hA:A.units + 65 < cLine){d e:PyData}{as bs:List Addr}(ha:Reads s.heap x d as)(hb:Reads s.heap y e bs){O:Option Bool}(hO:∀c,O=some c->zFO prog w A s x y c):Tst (inD O d e) (zFO prog w A s x y):=by
 have gen:Tst (fun k=>liO O k) (zFO prog w A s x y):=Tst.li (g:=fun a k=>k a) fun c h=> .ret (hO c h);have hu:d.depth<=64->∀n,A.units + 1 + min n d.depth < cLine:=fun h n=>C4 (D1 (Bn (Nat.min_le_right _ _) h) _) hA;cases e with
 | list xs=>
  refine Tst.ask (m:=fun k=>k _) (fun hs=>?_) gen;refine zF hs fun s1 s2=>?_;obtain ⟨d1,d2⟩:=xN s1;have e1:=(xN s2).1;exact .ret ⟨zX fun Q E q=>SeqAt.in_list_reads hb ha e1 d1 (hu d2 _) q,zX fun Q E q=>SeqAt.notIn_list_reads hb ha e1 d1 (hu d2 _) q⟩
 | tuple xs=>
  refine Tst.ask (m:=fun k=>k _) (fun hs=>?_) gen;refine zF hs fun s1 s2=>?_;obtain ⟨d1,d2⟩:=xN s1;have e1:=(xN s2).1;exact .ret ⟨zX fun Q E q=>SeqAt.in_tuple_reads hb ha e1 d1 (hu d2 _) q,zX fun Q E q=>SeqAt.notIn_tuple_reads hb ha e1 d1 (hu d2 _) q⟩
 | _=>exact gen
theorem zUo(hA:A.units + 65 < cLine)(I:Inv K ρ σ s){a b:V}(ra:VR ρ s.heap a x)(rb:VR ρ s.heap b y){O:Option Bool}(hO:∀c,O=some c->zFO prog w A s x y c):Tst (inG O (py σ 9 a) (py σ 9 b)) (zFO prog w A s x y):=by
 have gen:Tst (fun k=>liO O k) (zFO prog w A s x y):=Tst.li (g:=fun a k=>k a) fun c h=> .ret (hO c h);cases h1:py σ 9 a with
 | none=>exact gen
 | some d=>cases h2:py σ 9 b with
  | none=>exact gen
  | some e=>
   obtain ⟨as,ha⟩:=zBa I _ _ _ _ h1 ra;obtain ⟨bs,hb⟩:=zBa I _ _ _ _ h2 rb;exact zRN hA ha hb hO
theorem zN2(hA:A.units + 65 < cLine)(I:Inv K ρ σ s){a b:V}(ra:VR ρ s.heap a x)(rb:VR ρ s.heap b y){O:V->V->Option Bool}(hO:∀c,O a b=some c->zFO prog w A s x y c):Tst (inK O a b σ) (zFO prog w A s x y):=by
 have gen:=zUo hA I ra rb hO;cases a with
 | str u=>cases b with
  | str v=>
   obtain ⟨t,rfl⟩:=vrS ra; obtain ⟨t',rfl⟩:=vrS rb;refine .ret ?_;rw [zOX];exact ⟨zX fun Q E q=>P.in_str q,zX fun Q E q=>P.notIn_str q⟩
  | _=>exact gen
 | _=>exact gen
end
structure Ops where
 inn:V->V->Option Bool
 lt:V->V->Option Bool
structure OpsOK(prog:Program)(w:World)(K:Frag)(O:Ops):Prop where
 inn:∀a b c,O.inn a b=some c->∀A ρ σ s x y,A.units + 65 < cLine->Inv K ρ σ s->VR ρ s.heap a x->VR ρ s.heap b y->zFO prog w A s x y c
 lt:∀a b c,O.lt a b=some c->∀A ρ σ s x y,A.units + 65 < cLine->Inv K ρ σ s->VR ρ s.heap a x->VR ρ s.heap b y->Cmp prog w A s .Lt x y c
noncomputable def isNone:V->Option Bool
 | .none=>some true
 | .val _=>none
 | .rng .. =>none
 | _=>some false
noncomputable def isA(a b:V):Option Bool:=match b with
 | .none=>isNone a
 | .val v=>(match v with
  | .type y=>(match a with
   | .val u=>(match u with | .type x=>some (x==y) | _=>none)
   | _=>none)
  | _=>none)
 | _=>none
noncomputable def zVv(ob:Ob)(k:Bool->Sy):Sy:=match ob with
 | .list l=>need (decide (l.length < 2 ^ 63)) (k (!l.isEmpty))
 | .stk b l=>need (decide (b<=1000)) (k (yBX l))
 | .pls l=>need (decide (l.length < 2 ^ 63)) (k (!l.isEmpty))
 | _=> .fail
noncomputable def zBJ(v:V)(σ:Sto)(k:Bool->Sy):Sy:=match v with
 | .none=>k false
 | .bool b=>k b
 | .int i=>k (i !=0)
 | .str s=>need (decide (s.length < 2 ^ 63)) (k (s.length !=0))
 | .lst l=>need (decide (l.length < 2 ^ 63)) (k (!l.isEmpty))
 | .trk i=>liO (σ[i]? :Option Ob) fun ob=>zVv ob k
 | _=> .fail
noncomputable def zOz(f:Int->Int->Bool)(d:Sy)(a b:V)(k:Bool->Sy):Sy:=match a with
 | .int i=>(match b with | .int j=>k (f i j) | _=>d)
 | _=>d
noncomputable def zQ2(O:Ops)(op:CmpOp)(a b:V)(σ:Sto)(k:Bool->Sy):Sy:=match op with
 | .Eq=>eqK a b σ k
 | .NotEq=>eqK a b σ fun c=>k (!c)
 | .Lt=>zOz (fun i j=>decide (i < j)) (liO (O.lt a b) k) a b k
 | .LtE=>zOz (fun i j=>decide (i<=j)) .fail a b k
 | .Gt=>zOz (fun i j=>decide (i >j)) .fail a b k
 | .GtE=>zOz (fun i j=>decide (i ≥ j)) .fail a b k
 | .In=>inK O.inn a b σ k
 | .NotIn=>inK O.inn a b σ fun c=>k (!c)
 | .Is=>liO (isA a b) k
 | .IsNot=>liO (isA a b) fun c=>k (!c)
section
variable{prog:Program}{w:World}{A:Around}{K:Frag}{O:Ops}{ρ:List Addr}{σ:Sto}{s:Shared}{x y:Value}
theorem zJw{a:V}{c:Bool}(h:isNone a=some c)(ra:VR ρ s.heap a x):plainIs x .none=true/\(x==Value.none)=c:=by
 cases a with
 | none=>cases vrN ra; cases h; exact ⟨rfl,rfl⟩
 | int _=>obtain ⟨t,rfl⟩:=vrI ra; cases h; exact ⟨rfl,rfl⟩
 | str _=>obtain ⟨t,rfl⟩:=vrS ra; cases h; exact ⟨rfl,rfl⟩
 | bool _=>cases vrB ra; cases h; exact ⟨rfl,rfl⟩
 | tup _=>obtain ⟨a,_,_,rfl,_⟩:=zK1 ra; cases h; exact ⟨rfl,rfl⟩
 | lst _=>obtain ⟨a,_,_,rfl,_⟩:=zIT ra; cases h; exact ⟨rfl,rfl⟩
 | il _=>obtain ⟨a,_,_,rfl,_⟩:=zQv ra; cases h; exact ⟨rfl,rfl⟩
 | trk _=>obtain ⟨a,_,rfl⟩:=vrT ra; cases h; exact ⟨rfl,rfl⟩
 | _=>exact noS h
theorem zPI{a b:V}{c:Bool}(h:isA a b=some c)(ra:VR ρ s.heap a x)(rb:VR ρ s.heap b y):plainIs x y=true/\(x==y)=c:=by
 cases b with
 | none=>cases vrN rb; exact zJw h ra
 | val v=>cases v with
  | type q=>cases a with
   | val u=>cases u with
    | type p=>
     cases vrV ra; cases vrV rb; cases h;refine ⟨rfl,?_⟩
     by_cases z:p=q
     ·rw [z,beq_self_eq_true,beq_self_eq_true]
     ·rw [beq_eq_false_iff_ne.mpr z,beq_eq_false_iff_ne.mpr (fun w=>z (by injection w))]
    | _=>exact noS h
   | _=>exact noS h
  | _=>exact noS h
 | _=>exact noS h
theorem zQN{a b:V}(ra:VR ρ s.heap a x)(rb:VR ρ s.heap b y):Tst (fun k=>liO (isA a b) k) fun c=>Cmp prog w A s .Is x y c/\Cmp prog w A s .IsNot x y (!c):=Tst.li (g:=fun a k=>k a) fun c h=>by
 obtain ⟨k1,rfl⟩:=zPI h ra rb;exact .ret ⟨zX fun Q E q=>wpAny_is_plain k1 q,zX fun Q E q=>wpAny_isNot_plain k1 q⟩
theorem zCQ{P:Value->Value->Bool->Prop}{a b:V}{f:Int->Int->Bool}{d:(Bool->Sy)->Sy}(ra:VR ρ s.heap a x)(rb:VR ρ s.heap b y)(hp:∀i j t u,P (.int i t) (.int j u) (f i j))(hd:Tst d (P x y)):Tst (fun k=>zOz f (d k) a b k) (P x y):=by
 cases a with
 | int=>cases b with
  | int=>obtain ⟨t,rfl⟩:=vrI ra; obtain ⟨u,rfl⟩:=vrI rb; exact .ret (hp ..)
  | _=>exact hd
 | _=>exact hd
theorem zLz(OO:OpsOK prog w K O)(hA:A.units + 65 < cLine)(I:Inv K ρ σ s){op:CmpOp}{a b:V}(ra:VR ρ s.heap a x)(rb:VR ρ s.heap b y):Tst (zQ2 O op a b σ) (Cmp prog w A s op x y):=by
 cases op with
 | Eq=>exact (zOF hA I ra rb).turn id fun c h=>h.1
 | NotEq=>exact (zOF hA I ra rb).turn _ fun c h=>h.2
 | Lt=>exact zCQ (P:=Cmp prog w A s .Lt) ra rb (fun i j t u=>zX fun Q E q=>P.lt_int q) (Tst.li (g:=fun a k=>k a) fun c h=> .ret (OO.lt _ _ _ h _ _ _ _ _ _ hA I ra rb))
 | LtE=>exact zCQ (P:=Cmp prog w A s .LtE) ra rb (fun i j t u=>zX fun Q E q=>P.le_int q) .fail
 | Gt=>exact zCQ (P:=Cmp prog w A s .Gt) ra rb (fun i j t u=>zX fun Q E q=>P.gt_int q) .fail
 | GtE=>exact zCQ (P:=Cmp prog w A s .GtE) ra rb (fun i j t u=>zX fun Q E q=>P.ge_int q) .fail
 | In=>exact (zN2 hA I ra rb fun c h=>OO.inn _ _ _ h _ _ _ _ _ _ hA I ra rb).turn id fun c h=>h.1
 | NotIn=>exact (zN2 hA I ra rb fun c h=>OO.inn _ _ _ h _ _ _ _ _ _ hA I ra rb).turn _ fun c h=>h.2
 | Is=>exact (zQN ra rb).turn id fun c h=>h.1
 | IsNot=>exact (zQN ra rb).turn _ fun c h=>h.2
theorem zN3{n:Nat}(h:n < 2 ^ 63):(n:Int) < 2 ^ 63:=by lia
theorem yDp(n:Nat):((n:Int) !=0)=(n !=0):=by cases n <;>rfl
noncomputable abbrev Tru(prog:Program)(w:World)(A:Around)(s:Shared)(x:Value)(c:Bool):Prop:=∀Q E,(∀tk,Q c {s with toks:=tk})->wpAny (model prog w) A (truthy x) Q E s
theorem zAO{a:Addr}{items:Array Value}{k:Nat}{l:List V}(ho:s.heap.get? a=some ⟨.type "list",none,.seq items k,#[]⟩)(rs:VRs ρ s.heap l items.toList)(hz:l.length < 2 ^ 63):Tru prog w A s (.ref a) (!l.isEmpty):=fun Q E q=>by
 refine wpAny_truthy_list (l:=a) (items:=items) ⟨_,ho,rfl,k,rfl⟩ (rs.size▸zN3 hz) ?_;have e2:l.isEmpty=items.isEmpty:=by
  rw [<-Array.isEmpty_toList];have e:=rs.length;cases l with
  | nil=>cases hq:items.toList with
   | nil=>rfl
   | cons x y=>rw [hq] at e; exact absurd e (Nat.zero_ne_add_one _)
  | cons p r=>cases hq:items.toList with
   | nil=>rw [hq] at e; exact absurd e (Nat.add_one_ne_zero _)
   | cons x y=>rfl
 exact e2▸q _
theorem zDs(l:List Nat):(qW l).length=l.length:=by unfold qW; rw [List.length_reverse,BW]
theorem zBB(I:Inv K ρ σ s){v:V}(r:VR ρ s.heap v x):Tst (zBJ v σ) (Tru prog w A s x):=by
 cases v with
 | none=>cases vrN r; exact .ret fun Q E q=>PyProof.Rows.truthy_none (q s.toks)
 | bool=>cases vrB r; exact .ret fun Q E q=>EX (q s.toks)
 | int=>obtain ⟨t,rfl⟩:=vrI r; exact .ret fun Q E q=>P.truthy_int (q s.toks)
 | str u=>
  obtain ⟨t,rfl⟩:=vrS r;exact .need fun hz=> .ret fun Q E q=>P.truthy_str (ES.mpr (zN3 (of_decide_eq_true hz))) (yDp u.length▸q _)
 | lst l=>
  obtain ⟨a,items,k,rfl,_,ho,rs⟩:=zIT r;exact .need fun hz=> .ret (zAO ho rs (of_decide_eq_true hz))
 | trk i=>
  refine kM r fun a ha e__=>?_;cases e__;refine .li fun ob hl=>?_;cases ob with
  | list l=>
   refine I.listC ha hl fun items k ho rs=>?_;exact .need fun hz=> .ret (zAO ho rs (of_decide_eq_true hz))
  | pls l=>
   obtain ⟨items,k,ho,rs⟩:=I.pls ha hl;have e:(!(plL l).isEmpty)=!l.isEmpty:=by cases l <;>rfl
   exact .need fun hz=> .ret (e▸zAO ho rs (by rw [BW]; exact of_decide_eq_true hz))
  | stk b l=>
   obtain ⟨hb,items,k,ho,rs⟩:=I.stk ha hl;refine .need fun hz=> .ret ?_;have e:(!(qW l).isEmpty)=yBX l:=by
    cases l with
    | nil=>rfl
    | cons c l=>show (!(List.reverse (_::_)).isEmpty)=true; rw [Dp]; generalize List.reverse _=l; cases l <;>rfl
   exact e▸zAO ho rs (zDs l▸C4 (Bn hb (of_decide_eq_true hz)) (by decide))
  | _=>exact .fail
 | _=>exact .fail
end
noncomputable def lfO(v:V):Option Lf:=match v with
 | .str x=>some (.s x)
 | .int n=>some (.i n)
 | _=>none
noncomputable def zYy:List V->Option (List Lf)
 | []=>some []
 | v::l=>(lfO v).bind fun a=>(zYy l).map (a::·)
noncomputable def plO(v:V):Option Pl:=match v with
 | .str x=>some (.one (.s x))
 | .int n=>some (.one (.i n))
 | .tup l=>(zYy l).map .tup
 | _=>none
theorem zRJ{l:List V}{a:List Lf}(h:zYy l=some a):a.map lfV=l:=by
 induction l generalizing a with
 | nil=>cases h; rfl
 | cons v l ih=>
  refine zJ h fun b h1 h=>?_;refine yJ h fun c h2 e__=>?_;cases e__;rw [Cs,ih h2];cases v <;>first | exact noS h1 | (cases h1; rfl)
theorem zNV{v:V}{a:Pl}(h:plO v=some a):plV a=v:=by
 cases v with
 | str=>cases h; rfl
 | int=>cases h; rfl
 | tup l=>
  refine yJ h fun c h2 e__=>?_;cases e__;exact congrArg V.tup (zRJ h2)
 | _=>exact noS h
noncomputable def zEo(v:V):Option Int:=match v with
 | .int x=>some x
 | _=>none
noncomputable def zYJ(ob:Ob):Option (List Pl):=match ob with
 | .pls l=>some l
 | .list l=>qI plO l
 | _=>none
noncomputable def zLN(ob:Ob):Bool:=match ob with
 | .pls _=>true
 | _=>false
noncomputable def yA8(v:V)(σ:Sto):Option (List Pl):=match v with
 | .trk j=>(σ[j]? :Option Ob).bind zYJ
 | _=>none
noncomputable def yC9(v:V)(σ:Sto):Option (List Int):=match v with
 | .il l=>some l
 | v=>(zR v σ).bind (qI zEo)
section
variable{prog:Program}{w:World}{A:Around}{K:Frag}{ρ:List Addr}{σ:Sto}{s:Shared}{i:Nat}{a:Addr}
theorem zWZ{T:(Value->Shared->Prop)->(Value->Shared->Prop)->Prop}{l l':List Pl}{v:V}(hl:σ[i]? =some (.pls l))(I:Inv K ρ σ s)
  (h:∀{σ:Sto},σ[i]? =some (.list (plL l))->Inv K ρ σ s->Out K ρ s (some (v,σ.set i (.list (plL l')))) T):Out K ρ s (some (v,σ.set i (.pls l'))) T:=by
 have hlt:=zQ hl;intro v' AA hh Q E q;cases hh;refine h (σ:=σ.set i (.list (plL l))) (Bw hlt) (zAY I hl) _ _ rfl Q E fun AC s' x J X r=>?_;have z:=kR J (l:=l') (i:=i) (Bw (by rw [Ce]; exact hlt));rw [Ct,Ct] at z;exact q AC s' x z X r
theorem zC.ofOut{T:(Value->Shared->Prop)->(Value->Shared->Prop)->Prop}{v:V}{AA:Sto}(h:Out K ρ s (some (v,AA)) T)(g:Gr s T:=by exact yY):zC K ρ s (fun k=>k v AA) T VRr:= .up (g:=g) fun k z hz Q E q=>h v AA rfl Q E fun A7 A6 x I X r=>q v AA A7 A6 x hz I X r
end
theorem zAS{ρ:List Addr}{h:Heap}(v:V)(d:Int)(x:Value)(e:zEo v=some d)(r:VR ρ h v x):∃t,x= .int d t:=by
 cases v with
 | int=>cases e; exact r
 | _=>exact noS e
theorem zAW{l:List V}{l':List Pl}(h:qI plO l=some l'):plL l'=l:=by
 induction l generalizing l' with
 | nil=>cases h; rfl
 | cons v l ih=>
  refine zJ h fun p h1 h=>?_;refine yJ h fun r h2 e__=>?_;cases e__;show plV p::plL r=_;rw [zNV h1,ih h2]
theorem zEV{l:List V}{l':List Int}(h:qI zEo l=some l'):l'.map .int=l:=by
 induction l generalizing l' with
 | nil=>cases h; rfl
 | cons v l ih=>
  refine zJ h fun p h1 h=>?_;refine yJ h fun r h2 e__=>?_;cases e__;show V.int p::r.map .int=_;rw [ih h2];cases v <;>first | exact noS h1 | (cases h1; rfl)
noncomputable def pickV(o:Option V)(k:V->Sy):Sy:= .pick (o.map (·,[])) fun v _=>k v
noncomputable def zXg(x y:Str)(σ:Sto)(k:V->Sto->Sy):Sy:=xG (x.length==0) (k (.str y) σ) (xG (y.length==0) (k (.str x) σ) (need (decide ((x ++ y).length<=sizeLine)) (pickV (some (.str (x ++ y))) fun v=>k v σ)))
noncomputable def zWb(i j:Int)(σ:Sto)(k:V->Sto->Sy):Sy:=need (!(j==0 || Builtin.divisionGoesByPylong i j)) (k (.int (i.fdiv j)) σ)
noncomputable def yBx(op:Operator)(i j:Int)(σ:Sto):Option (V×Sto):=match op with
 | .Add=>some (.int (i + j),σ)
 | .Sub=>some (.int (i - j),σ)
 | .Pow=>if decide (j < 0) || (i==0 || i==1) || i==-1 then none else if j==0 then some (.int 1,σ)
   else if Builtin.Int.intTooBig (((Builtin.Int.intBits i:Nat):Int) * j) then none else some (.int (i ^ j.toNat),σ)
 | _=>none
noncomputable def zU1(op:Operator)(i j:Int)(σ:Sto)(k:V->Sto->Sy):Sy:=match op with
 | .Mult=>xG (decide (Builtin.Int.intBits j<=64)) (k (.int (i * j)) σ) (need (decide (Builtin.Int.intBits i<=64)) (k (.int (i * j)) σ))
 | .Mod=>need (!(j==0)) (k (.int (i.fmod j)) σ)
 | .FloorDiv=>zWb i j σ k
 | op=> .pick (yBx op i j σ) k
noncomputable def yA4(op:Operator)(a b:V)(σ:Sto):Option (V×Sto):=match op with
 | .Add=>(zR a σ).bind fun l=>(zR b σ).bind fun l'=>if l.length + l'.length<=1000 then some (.trk σ.length,σ ++ [.list (l ++ l')]) else none
 | _=>none
noncomputable def yBf(op:Operator)(a b:V)(σ:Sto)(k:V->Sto->Sy):Sy:=match a with
 | .int i=>(match b with | .int j=>zU1 op i j σ k | _=> .fail)
 | .str x=>(match b with | .str y=>(match op with | .Add=>zXg x y σ k | _=> .fail) | _=> .fail)
 | .il l=>(match op with | .Add=>liO (yC9 b σ) fun l'=>need (decide (l.length + l'.length<=1000)) (k (.il (l ++ l')) σ) | _=> .fail)
 | a=> .pick (yA4 op a b σ) k
noncomputable def zWy(op:Operator)(i:Nat)(b:V)(σ:Sto):Option (V×Sto):=match op with
 | .Add=>(lsA σ i).bind fun l=>(zR b σ).bind fun l'=>if l.length + l'.length<=1000 then some (.trk i,σ.set i (.list (l ++ l'))) else none
 | _=>none
noncomputable def yAY(op:Operator)(i j:Int)(σ:Sto):Option (V×Sto):=match op with
 | .Add=>some (.int (i + j),σ)
 | .Sub=>some (.int (i - j),σ)
 | _=>none
noncomputable def zJK(v:V)(σ:Sto):Bool:=match v with
 | .trk j=>(match (σ[j]? :Option Ob) with | some ob=>zLN ob | none=>false)
 | _=>false
noncomputable def zAK(op:Operator)(a b:V)(σ:Sto)(k:V->Sto->Sy):Sy:=match a with
 | .int i=>(match b with | .int j=>(match op with | .FloorDiv=>zWb i j σ k | op=> .pick (yAY op i j σ) k) | _=> .fail)
 | .str x=>(match b with | .str y=>(match op with | .Add=>zXg x y σ k | _=> .fail) | _=> .fail)
 | .trk i=>liO (σ[i]? :Option Ob) fun ob=>(match zLN ob || zJK b σ with
  | true=>(match op with | .Add=>liO (zYJ ob) fun l=>liO (yA8 b σ) fun l'=>need (decide (l.length + l'.length<=1000)) (k (.trk i) (σ.set i (.pls (l ++ l')))) | _=> .fail)
  | false=> .pick (zWy op i b σ) k)
 | _=> .fail
section
variable{prog:Program}{w:World}{A:Around}{K:Frag}{ρ:List Addr}{σ:Sto}{s:Shared}{T:(Value->Shared->Prop)->(Value->Shared->Prop)->Prop}{x y:Value}
theorem Out.int(I:Inv K ρ σ s){i:Int}(h:∀Q E,(Made.int i).post Q s->T Q E):Out K ρ s (.some (.int i,σ)) T:= .tok I _ vZ h
theorem zC.int(I:Inv K ρ σ s){i:Int}(h:∀Q E,(Made.int i).post Q s->T Q E):zC K ρ s (fun k=>k (.int i) σ) T VRr:= .tok I _ vZ h
theorem zC.str(I:Inv K ρ σ s){u:Str}(hz:u.length<=sizeLine)(h:∀Q E,(Made.str u).post Q s->T Q E):zC K ρ s (fun k=>k (.str u) σ) T VRr:= .tok I _ yL fun Q E q=>h Q E ⟨hz,q⟩
theorem zC.pv{α β:Type}{v:V}{f:V->(α->Sto->Sy)->Sy}{R:List Addr->Heap->α->β->Prop}{T:(β->Shared->Prop)->(Value->Shared->Prop)->Prop}(h:zC K ρ s (f v) T R):zC K ρ s (fun k=>pickV (some v) fun v=>f v k) T R:=fun hp k z hz=>h hp k z hz
theorem zLR(I:Inv K ρ σ s){x y:Str}{t u:Tok}(h:∀Q E,(if x.length==0 then Made.val (.str y u) else if y.length==0 then Made.val (.str x t) else Made.str (x ++ y)).post Q s->T Q E):zC K ρ s (zXg x y σ) T VRr:=
 .ask (m:=fun k=>k _ σ) (fun c=> .ret I (b:= .str y u) yL fun Q E q=>h Q E (by rw [c]; exact q)) fun c=> .ask (m:=fun k=>k _ σ) (m':=fun k=>need _ (pickV (some (.str (x ++ y))) fun v=>k v σ)) (fun c'=> .ret I (b:= .str x t) yL fun Q E q=>h Q E (by rw [c,c']; exact q)) fun c'=>
  .need (m:=fun k=>pickV (some (.str (x ++ y))) fun v=>k v σ) fun hz=> .pv (f:=fun v k=>k v σ) (.str I (of_decide_eq_true hz) fun Q E q=>h Q E (by rw [c,c']; exact q))
theorem zLZ(I:Inv K ρ σ s){i j:Int}(h:¬(j==0)=true->¬Builtin.divisionGoesByPylong i j=true->∀Q E,(Made.int (i.fdiv j)).post Q s->T Q E):zC K ρ s (zWb i j σ) T VRr:=
 .need (m:=fun k=>k _ σ) fun hz=> .int I (h (fun e=>by rw [e] at hz; exact noB hz) (fun e=>by rw [e,Bool.or_true] at hz; exact noB hz))
theorem or_false{a b:Bool}(h:¬(a || b)=true):¬a=true/\¬b=true:=⟨fun e=>h (CI.mpr (.inl e)),fun e=>h (CI.mpr (.inr e))⟩
theorem zKB{op:Operator}{i j:Int}(I:Inv K ρ σ s){t u:Tok}:Out K ρ s (yBx op i j σ) (W prog w A s (binaryOp op (.int i t) (.int j u))):=by
 cases op with
 | Add=>exact .int I fun Q E q=>AutoIntOps.add_0 q
 | Sub=>exact .int I fun Q E q=>AutoIntOps.sub_0 q
 | Pow=>
  refine .ite (fun _=> .none) fun h1=>?_;obtain ⟨h1,h3⟩:=or_false h1;obtain ⟨h1,h2⟩:=or_false h1;have h1:=ET.mp fun h=>h1 (decide_eq_true h);refine .ite (fun h4=>?_) fun h4=> .ite (fun _=> .none) fun h5=>?_
  ·exact .int I fun Q E q=>AutoIntOps.pow_0 h1 h4 q
  ·exact .int I fun Q E q=>AutoIntOps.pow_4 h1 h4 h2 h3 h5 q
 | _=>exact .none
theorem zP4{op:Operator}{i j:Int}(I:Inv K ρ σ s){t u:Tok}:zC K ρ s (zU1 op i j σ) (W prog w A s (binaryOp op (.int i t) (.int j u))) VRr:=by
 have gen:=zC.pick (zKB (prog:=prog) (w:=w) (A:=A) (op:=op) (i:=i) (j:=j) (t:=t) (u:=u) I);cases op with
 | Mult=>exact .ask (m:=fun k=>k _ σ) (fun c=> .int I fun Q E q=>AutoIntOps.mul_0 q (IntMulOk.of_right (of_decide_eq_true c))) fun _=> .need (m:=fun k=>k _ σ) fun c=> .int I fun Q E q=>AutoIntOps.mul_0 q (IntMulOk.of_left (of_decide_eq_true c))
 | Mod=>exact .need (m:=fun k=>k _ σ) fun c=> .int I fun Q E q=>AutoIntOps.mod_1 (fun e=>by rw [e] at c; exact noB c) q
 | FloorDiv=>exact zLZ I fun h1 h2 Q E q=>AutoIntOps.floordiv_1 h1 h2 q
 | _=>exact gen
theorem zKn{op:Operator}{a b:V}(I:Inv K ρ σ s)(ra:VR ρ s.heap a x)(rb:VR ρ s.heap b y):Out K ρ s (yA4 op a b σ) (W prog w A s (binaryOp op x y)):=by
 cases op with
 | Add=>
  refine .bind fun l h1=> .bind fun l' h2=> .only fun hz=>?_;refine wG I h1 ra fun p items k e__ ho rs=>?_;cases e__;refine wG I h2 rb fun p' items' k' e__ ho' rs'=>?_;cases e__;exact .list (xs:=items ++ items') I s.toks (by rw [E7]; exact rs.append rs') fun Q E q=>P.add_list ho ho' q (zN (rs.size▸rs'.size▸hz))
 | _=>exact .none
theorem zTX{op:Operator}{a b:V}(I:Inv K ρ σ s)(ra:VR ρ s.heap a x)(rb:VR ρ s.heap b y):zC K ρ s (yBf op a b σ) (W prog w A s (binaryOp op x y)) VRr:=by
 have gen:=zC.pick (zKn (prog:=prog) (w:=w) (A:=A) (op:=op) I ra rb);cases a with
 | int i=>cases b with
  | int j=>obtain ⟨t,rfl⟩:=vrI ra; obtain ⟨u,rfl⟩:=vrI rb; exact zP4 I
  | _=>exact .fail
 | str i=>cases b with
  | str j=>cases op with
   | Add=>obtain ⟨t,rfl⟩:=vrS ra; obtain ⟨u,rfl⟩:=vrS rb; exact zLR I fun Q E q=>P.add_str q
   | _=>exact .fail
  | _=>exact .fail
 | il l=>cases op with
  | Add=>
   refine .li fun l' hl=> .need fun hz=>?_;have go:∀v,(zR v σ).bind (qI zEo)=some l'->zR v σ=some (l'.map .int):=fun v h=>by
    refine zJ h fun l3 h1 h2=>?_;rw [h1,zEV h2]
   have hb:zR b σ=some (l'.map .int):=by
    cases b with
    | il l2=>cases hl; rfl
    | _=>exact go _ hl
   obtain ⟨p,items,k,rfl,_,ho,rs⟩:=zQv ra;refine wG I hb rb fun p' items' k' e__ ho' rs'=>?_;cases e__;have e1:=(zDh (ρ:=ρ) (h:=s.heap) rs).size;have e2:=rs'.size;rw [BW] at e1 e2;have xx:=I.extra {cls:= .type "list",data:= .seq (items ++ items')} s.toks;refine .done (b:= .ref s.heap.objs.size) xx ⟨_,items ++ items',0,rfl,I.fresh,Bf _ rfl,?_⟩ fun Q E q=>P.add_list ho ho' q (zN (e1▸e2▸of_decide_eq_true hz));rw [E7];refine zHT (ρ:=ρ) (h:=s.heap) ?_;rw [Bv];exact (zDh rs).append rs'
  | _=>exact .fail
 | _=>exact gen
theorem zN4{m:Nat}(h:m<=1000):Builtin.List.listTooLong m=false:=by
 unfold Builtin.List.listTooLong;have:=zN h;exact decide_eq_false (by lia)
theorem zG4:fillsInplaceSlot (.type "list") "add" (Operator.Add== .Add)=pure false:=by
 unfold fillsInplaceSlot;show (typeLookup (.type "list") (dunderI "add") >>=fun fi=>pure (fi.isSome && !isSeqSlot fi))=pure false;rw [F.slot_list_iadd.lookup]; rfl
theorem zME:seqSlot? (.type "list") (dunderI "add")=pure (some (.builtin "list.__iadd__")):=PySem.seqSlot_of F.slot_list_iadd.lookup (by decide +kernel)
theorem zET{l b:Addr}{items items2:Array Value}{k k2:Nat}{Q:Value->Shared->Prop}{E:Value->Shared->Prop}(hl:s.heap.get? l=some ⟨.type "list",none,.seq items k,#[]⟩)(hb:s.heap.get? b=some ⟨.type "list",none,.seq items2 k2,#[]⟩)
  (hz:items.size + items2.size<=1000) (h:Q (.ref l) {s with heap:=s.heap.update l (Cy fun x=>x ++ items2)}):wpAny (model prog w) A (inplaceOp .Add (.ref l) (.ref b)) Q E s:=by
 have ha:s.TypeIs (.ref l) "list":=⟨_,hl,rfl⟩;unfold inplaceOp;refine CT ?_;refine BK (wpAny_typeOf ha (BK (D3 zG4 ?_)));refine BK (wpAny_binaryOp1_none (nm:="add") ha ⟨_,hb,rfl⟩ noFill_list_add ?_);refine BK (D3 zME ?_);refine BK (D6 ?_);exact DN F.slot_list_iadd ha F.entry_list_iadd (F.args_list_iadd_2 _ _) (AutoSeq1.list___iadd___list_list_0 l items k b items2 k2 (by rw [zN4 hz,Bool.and_false]; exact Bk) (zN (Bn (C6 ..) hz)) (Ck (zN hz))) ⟨hl,hb,h⟩
theorem zKu{op:Operator}{i:Nat}{b:V}(I:Inv K ρ σ s){p:Addr}(hp:ρ[i]? =some p)(rb:VR ρ s.heap b y):Out K ρ s (zWy op i b σ) (W prog w A s (inplaceOp op (.ref p) y)):=by
 cases op with
 | Add=>
  refine .bind fun l h1=> .bind fun l' h2=> .only fun hz=>?_;refine wG (v:= .trk i) I h1 ⟨p,hp,rfl⟩ fun p1 items k e1 ho rs=>?_;cases e1;refine wG I h2 rb fun p' items' k' e__ ho' rs'=>?_;cases e__;exact .some (I.updList (f:=fun x=>x ++ items') hp ho (by rw [E7]; exact rs.append rs')) ⟨p,hp,rfl⟩ fun Q E q=>zET ho ho' (rs.size▸rs'.size▸hz) q
 | _=>exact .none
theorem zJF{op:Operator}{i j:Int}(I:Inv K ρ σ s){t u:Tok}:Out K ρ s (yAY op i j σ) (W prog w A s (inplaceOp op (.int i t) (.int j u))):=by
 cases op with
 | Add=>exact .int I fun Q E q=>AutoIntOps.iadd_0 q
 | Sub=>exact .int I fun Q E q=>AutoIntOps.isub_0 q
 | _=>exact .none
theorem zGU{op:Operator}{a b:V}(I:Inv K ρ σ s)(ra:VR ρ s.heap a x)(rb:VR ρ s.heap b y):zC K ρ s (zAK op a b σ) (W prog w A s (inplaceOp op x y)) VRr:=by
 cases a with
 | int i=>cases b with
  | int j=>
   obtain ⟨t,rfl⟩:=vrI ra; obtain ⟨u,rfl⟩:=vrI rb;have gen:=zC.pick (zJF (prog:=prog) (w:=w) (A:=A) (op:=op) (i:=i) (j:=j) (t:=t) (u:=u) I);cases op with
   | FloorDiv=>exact zLZ I fun h1 h2 Q E q=>AutoIntOps.ifloordiv_1 h1 h2 q
   | _=>exact gen
  | _=>exact .fail
 | str i=>cases b with
  | str j=>cases op with
   | Add=>obtain ⟨t,rfl⟩:=vrS ra; obtain ⟨u,rfl⟩:=vrS rb; exact zLR I fun Q E q=>P.iadd_str q
   | _=>exact .fail
  | _=>exact .fail
 | trk i=>
  refine kM ra fun p hp e__=>?_;cases e__;refine .li fun ob hob=>?_;have gen:=zC.pick (zKu (prog:=prog) (w:=w) (A:=A) (op:=op) I hp rb);show zC K ρ s (fun k=>match zLN ob || zJK b σ with
   | true=>(match op with | .Add=>liO (zYJ ob) fun l=>liO (yA8 b σ) fun l'=>need (decide (l.length + l'.length<=1000)) (k (V.trk i) (σ.set i (.pls (l ++ l')))) | _=> .fail)
   | false=> .pick (zWy op i b σ) k) _ _
  cases zLN ob || zJK b σ with
  | false=>exact gen
  | true=>cases op with
   | Add=>
    refine .li fun l hl=> .li fun l' hl'=> .need fun hz=>?_;have hz:=of_decide_eq_true hz;have h1:Inv K ρ (σ.set i (.list (plL l))) s:=by
     cases ob with
     | pls l2=>cases hl; exact zAY I hob
     | list l2=>
      have e:=zAW hl;rw [e];exact I.same hob fun a r=>r
     | _=>exact noS hl
    have hb:zR b σ=some (plL l'):=by
     cases b with
     | trk j=>
      refine zJ hl' fun ob' h2 h3=>?_;show (match σ[j]? with | some ob=>(match ob with | .list l=>some l | .stk _ l=>some (qW l) | .pls l=>some (plL l) | .wls l=>some (wlL l) | _=>none) | none=>none)=_;rw [h2];cases ob' with
      | pls l2=>cases h3; rfl
      | list l2=>rw [zAW h3]
      | _=>exact noS h3
     | _=>exact noS hl'
    obtain ⟨items,k,ho,rs⟩:=h1.list hp (Bw (zQ hob));refine wG I hb rb fun p' items' k' e__ ho' rs'=>?_;cases e__;have z:=h1.updList (f:=fun x=>x ++ items') (l':=plL (l ++ l')) hp ho (by rw [E7]; show VRs _ _ ((l ++ l').map plV) _; rw [Bv]; exact rs.append rs');have z1:=kR z.1 (l:=l ++ l') (i:=i) (Bw (by rw [Ce]; exact zQ hob));rw [Ct,Ct] at z1;have e1:=rs.size;have e2:=rs'.size;rw [BW] at e1 e2;exact .done ⟨z1,z.2⟩ ⟨p,hp,rfl⟩ fun Q E q=>zET ho ho' (e1▸e2▸hz) q
   | _=>exact .fail
 | _=>exact .fail
end
noncomputable def zDg{α:Type}(l:List α)(idx:List Nat):List α:=idx.filterMap (l[·]?)
noncomputable def zKz(k:Int)(n:Nat):Option Nat:=if decide (k < -(2 ^ 63:Int)) || decide (k ≥ 2 ^ 63) then none else seqIndex? k n
noncomputable def xM(o i:V):Option V:=match i with
 | .int k=>(match o with
  | .str x=>((zKz k x.length).bind (x.cps[·]?)).map fun c=> .str ⟨#[c]⟩
  | .tup l=>(zKz k l.length).bind (l[·]?)
  | _=>none)
 | _=>none
noncomputable def zY2(o x:V)(σ:Sto)(k:V->Sy):Sy:=match o with
 | .trk i=>liO (lsA σ i) fun l=>pickV (xM (.tup l) x) k
 | .lst l=>pickV (xM (.tup l) x) k
 | o=>pickV (xM o x) k
noncomputable def wB(v:V):Option (Option Int):=match v with
 | .none=>some none
 | .int i=>some (some i)
 | _=>none
noncomputable def vK(x:Str)(lo hi:Option Int):Str:=
 if (Cq lo hi 1 x.length).length==x.length then x else ⟨((Cq lo hi 1 x.length).filterMap (x.cps[·]?)).toArray⟩
noncomputable def zKb(l:List V)(lo hi:Option Int):List V:=zDg l (sliceRange (sliceBounds lo hi none l.length).1 (sliceBounds lo hi none l.length).2.1 (sliceBounds lo hi none l.length).2.2)
noncomputable def wN(o:V)(lo hi:Option Int)(σ:Sto):Option (V×Sto):=match o with
 | .str x=>if (vK x lo hi).length<=sizeLine then some (.str (vK x lo hi),σ) else none
 | o=>(zR o σ).bind fun l=>if l.length<=1000 then some (.trk σ.length,σ ++ [.list (zKb l lo hi)]) else none
section
variable{prog:Program}{w:World}{A:Around}{K:Frag}{ρ:List Addr}{σ:Sto}{s:Shared}{x y:Value}
noncomputable abbrev zEm(prog:Program)(w:World)(A:Around)(s:Shared)(x y:Value):(Value->Shared->Prop)->(Value->Shared->Prop)->Prop:=fun Q E=>SubscriptOn (model prog w) A x y Q E s
theorem vrs_nil'{h:Heap}:VRs ρ h [] []:=rfl
theorem VRs.pick{h:Heap}{l:List V}{xs:List Value}(r:VRs ρ h l xs)(idx:List Nat):VRs ρ h (zDg l idx) (zDg xs idx):=by
 induction idx with
 | nil=>exact vrs_nil'
 | cons i idx ih=>
  unfold zDg at ih ⊢;rw [List.filterMap_cons,List.filterMap_cons];cases e:l[i]? with
  | none=>rw [C3 (r.length▸Cu.mp e)]; exact ih
  | some v=>
   obtain ⟨x,hx,rx⟩:=r.get e;rw [hx];exact ⟨x,_,rfl,rx,ih⟩
theorem zBu{k:Int}{n j:Nat}(h:zKz k n=some j):-2 ^ 63<=k/\k < 2 ^ 63/\seqIndex? k n=some j:=by
 unfold zKz at h;split at h
 ·exact noS h
 ·rename_i hc
  obtain ⟨h1,h2⟩:=or_false hc;exact ⟨ET.mp fun e=>h1 (decide_eq_true e),ES.mp fun e=>h2 (decide_eq_true e),h⟩
theorem zNe{k:Int}{n j:Nat}(h:seqIndex? k n=some j):(0<=k/\j=k.toNat)\/(k < 0/\-(n:Int)<=k/\j=(k + n).toNat):=by
 unfold seqIndex? at h;dsimp only at h;split at h <;>split at h <;>first | (rename_i hk hc; cases h; rw [Bu,decide_eq_true_eq,decide_eq_true_eq] at hc; lia) | exact noS h
theorem zP1{a:Addr}{items:Array Value}{m:Nat}{l:List V}{i v:V}(ho:s.heap.get? a=some ⟨.type "list",none,.seq items m,#[]⟩)(rs:VRs ρ s.heap l items.toList)(ri:VR ρ s.heap i y)(h:xM (.tup l) i=some v){Q:Value->Shared->Prop}{E:Value->Shared->Prop}(q:∀x,VR ρ s.heap v x->Q x s):
  wpAny (model prog w) A (getItem (.ref a) y) Q E s:=by
 cases i with
 | int k=>
  obtain ⟨t,rfl⟩:=vrI ri;refine zJ h fun j hj hv=>?_;obtain ⟨f1,f2,hj⟩:=zBu hj;obtain ⟨x,hx,rx⟩:=rs.get hv;rw [CU] at hx;have hl:s.heap.IsList a items:=⟨_,ho,rfl,m,rfl⟩;rcases zNe hj with ⟨h0,rfl⟩ | ⟨h0,h1,rfl⟩
  ·exact wpAny_getItem_list hl h0 f2 hx (q x rx)
  ·exact wpAny_getItem_list_neg hl h0 (rs.size▸h1) f1 (rs.size▸hx) (q x rx)
 | _=>exact noS h
theorem zEw{o i:V}(I:Inv K ρ σ s)(ro:VR ρ s.heap o x)(ri:VR ρ s.heap i y):Out K ρ s ((xM o i).map (·,σ)) (zEm prog w A s x y):=by
 intro v AA hh Q E q;refine yJ hh fun u h e=>?_;cases e;cases i with
 | int k=>
  obtain ⟨t',rfl⟩:=vrI ri;cases o with
  | str u=>
   obtain ⟨t,rfl⟩:=vrS ro;refine yJ h fun c hc e__=>?_;cases e__;refine zJ hc fun j hj hv=>?_;obtain ⟨f1,f2,hj⟩:=zBu hj;refine ⟨"str",_,F.slot_str_getitem.lookup,DP s u t,P.getItem_str (c:=c) ?_ ?_ (q _ _ _ (I.toks _) ((Ext.refl _ _).toks _) yL)⟩
   ·rw [decide_eq_false (ET.mpr f1),decide_eq_false (ES.mpr f2)]; rfl
   ·rw [hj]; exact hv
  | tup l=>
   refine zCw ro fun a items m e__ _ ho rs=>?_;cases e__;refine zJ h fun j hj hv=>?_;obtain ⟨f1,f2,hj⟩:=zBu hj;obtain ⟨x,hx,rx⟩:=rs.get hv;exact ⟨"tuple",_,F.slot_tuple_getitem.lookup,⟨_,ho,rfl⟩,P.getItem_tuple ho f1 f2 (rs.size▸hj) (CU▸hx) (q _ _ _ I (.refl _ _) rx)⟩
  | _=>exact noS h
 | _=>exact noS h
theorem zCR{l:List V}{i:V}{a:Addr}{items:Array Value}{m:Nat}(I:Inv K ρ σ s)(ho:s.heap.get? a=some ⟨.type "list",none,.seq items m,#[]⟩)(rs:VRs ρ s.heap l items.toList)(ri:VR ρ s.heap i y):Out K ρ s ((xM (.tup l) i).map (·,σ)) (zEm prog w A s (.ref a) y):=by
 intro v AA hh Q E q;refine yJ hh fun u h e=>?_;cases e;exact ⟨"list",_,F.slot_list_getitem.lookup,⟨_,ho,rfl⟩,zP1 ho rs ri h fun x r=>q _ _ _ I (.refl _ _) r⟩
theorem zAk{s:Shared}{x y:Value}:Gr s (zEm prog w A s x y):=fun hp Q E h=>by
 obtain ⟨T,id,h1,h2,h3⟩:=h;exact ⟨T,id,h1,h2,yY hp Q E h3⟩
theorem zC.pickV{T:(Value->Shared->Prop)->(Value->Shared->Prop)->Prop}{o:Option V}(h:Out K ρ s (o.map (·,σ)) T)(g:Gr s T):zC K ρ s (fun k=>pickV o fun v=>k v σ) T VRr:= .up (g:=g) fun k z hz Q E q=>by
 cases o with
 | none=>exact noS hz
 | some v=>exact h v σ rfl Q E fun A7 A6 x I X r=>q v σ A7 A6 x hz I X r
theorem zR4{o i:V}(I:Inv K ρ σ s)(ro:VR ρ s.heap o x)(ri:VR ρ s.heap i y):zC K ρ s (fun k=>zY2 o i σ fun v=>k v σ) (zEm prog w A s x y) VRr:=by
 have gen:=zC.pickV (zEw (prog:=prog) (w:=w) (A:=A) I ro ri) zAk;cases o with
 | trk n=>
  refine .li fun l hl=>?_;refine wG (v:= .trk n) I hl ro fun a items m e__ ho rs=>?_;cases e__;exact .pickV (zCR I ho rs ri) zAk
 | lst l=>
  refine wG (v:= .lst l) I rfl ro fun a items m e__ ho rs=>?_;cases e__;exact .pickV (zCR I ho rs ri) zAk
 | _=>exact gen
theorem zCH{v:V}{p:Option Int}(h:wB v=some p)(rv:VR ρ s.heap v x):IsPart x p/\∃q:Option (Int×Tok),x=partValue q/\q.map (·.1)=p:=by
 cases v with
 | none=>cases h; cases vrN rv; exact ⟨.none,none,rfl,rfl⟩
 | int i=>cases h; obtain ⟨t,rfl⟩:=vrI rv; exact ⟨.int _ t,some (_,t),rfl,rfl⟩
 | _=>exact noS h
noncomputable abbrev vX(a b:Value):Obj:={cls:= .type "slice",data:= .fields #[a,b,.none]}
theorem zNs{u:Str}{t:Tok}{lo hi:V}{pl pu:Option Int}(hl:wB lo=some pl)(hu:wB hi=some pu){a b:Value}(I:Inv K ρ σ s)(ra:VR ρ s.heap lo a)(rb:VR ρ s.heap hi b)(hz:(vK u pl pu).length<=sizeLine):
  Out K ρ s (some (.str (vK u pl pu),σ)) (zEm prog w A {s with heap:=s.heap.push (vX a b)} (.str u t) (.ref s.heap.objs.size)):=by
 obtain ⟨ia,qa,ea,ma⟩:=zCH hl ra;obtain ⟨ib,qb,eb,mb⟩:=zCH hu rb;have xx:=I.extra (vX a b) s.toks;intro v AA h Q E q;cases h;refine ⟨"str",_,F.slot_str_getitem.lookup,DP _ u t,wpAny_getItem_str_slice (l:=qa) (u:=qb) (st:=none) ⟨_,Bf _ rfl,rfl,by rw [ea,eb]; rfl⟩ rfl ?_⟩;unfold sliceMade;have hp:slicePicked u qa qb none=Cq pl pu 1 u.length:=by unfold slicePicked; rw [ma,mb]; rfl
 rw [hp];unfold vK at q hz
 by_cases hc:((Cq pl pu 1 u.length).length==u.length)=true
 ·rw [if_pos hc] at q
  change (if ((Cq pl pu 1 u.length).length==u.length)=true then Made.val (Value.str u t) else _:Made).post Q _
  rw [if_pos hc];exact q _ _ _ xx.1 xx.2 yL
 ·rw [if_neg hc] at q hz
  change (if ((Cq pl pu 1 u.length).length==u.length)=true then Made.val (Value.str u t) else _:Made).post Q _
  rw [if_neg hc];exact ⟨hz,q _ _ _ (xx.1.toks _) (xx.2.toks _) yL⟩
theorem zJn{o:V}{l:List V}{lo hi:V}{pl pu:Option Int}(hl:wB lo=some pl)(hu:wB hi=some pu){a b:Value}(I:Inv K ρ σ s)(ho:zR o σ=some l)(ro:VR ρ s.heap o x)(ra:VR ρ s.heap lo a)(rb:VR ρ s.heap hi b)(hz:l.length<=1000):
  Out K ρ s (some (.trk σ.length,σ ++ [.list (zKb l pl pu)])) (zEm prog w A {s with heap:=s.heap.push (vX a b)} x (.ref s.heap.objs.size)):=by
 have xx:=I.extra (vX a b) s.toks;refine wG xx.1 ho (ro.ext xx.2) fun p items m e__ ho rs=>?_;cases e__;intro v AA h Q E q;refine ⟨"list",_,F.slot_list_getitem.lookup,⟨_,ho,rfl⟩,wpAny_getItem_list_slice ⟨_,ho,rfl,m,rfl⟩ ⟨_,Bf _ rfl,rfl,rfl⟩ (zCH hl ra).1 (zCH hu rb).1 .none (fun e=>nomatch e) ?_ (zN (rs.size▸hz))⟩;refine Out.list (xs:=slicePick items pl pu none) (T:=fun Q E=>Q _ _) xx.1 s.toks ?_ (fun Q E q=>q) _ _ h Q E fun A7 A6 x I' X' r'=>q _ _ _ I' (xx.2.then xx.1 X') r';unfold slicePick;have z:=rs.pick (sliceRange (sliceBounds pl pu none l.length).1 (sliceBounds pl pu none l.length).2.1 (sliceBounds pl pu none l.length).2.2);rw [rs.size] at z;unfold zDg at z;unfold zKb zDg;rw [rs.size]
 simpa using z
theorem zIb{o:V}{lo hi:V}{pl pu:Option Int}(hl:wB lo=some pl)(hu:wB hi=some pu){a b:Value}(I:Inv K ρ σ s)(ro:VR ρ s.heap o x)(ra:VR ρ s.heap lo a)(rb:VR ρ s.heap hi b):
  Out K ρ s (wN o pl pu σ) (zEm prog w A {s with heap:=s.heap.push (vX a b)} x (.ref s.heap.objs.size)):=by
 have gen:Out K ρ s ((zR o σ).bind fun l=>if l.length<=1000 then some (.trk σ.length,σ ++ [.list (zKb l pl pu)]) else none) (zEm prog w A {s with heap:=s.heap.push (vX a b)} x (.ref s.heap.objs.size)):= .bind fun l h=> .only fun hz=>zJn hl hu I h ro ra rb hz;cases o with
 | str u=>obtain ⟨t,rfl⟩:=vrS ro; exact .only fun hz=>zNs hl hu I ra rb hz
 | _=>exact gen
end
section
open Builtin Builtin.Str
section
variable{K:Frag}{ρ:List Addr}{σ:Sto}{s:Shared}{α β:Type}{m m':(α->Sto->Sy)->Sy}{R:List Addr->Heap->α->β->Prop}{T:String->(β->Shared->Prop)->(Value->Shared->Prop)->Prop}{T':String->(Value->Shared->Prop)->(Value->Shared->Prop)->Prop}{id c:String}{o o':Option (V×Sto)}
theorem zC.onId(h:zC K ρ s m (T c) R)(h':zC K ρ s m' (T id) R):zC K ρ s (fun k=>if id==c then m k else m' k) (T id) R:= .cond (fun e=>Bo e▸h) fun _=>h'
theorem Out.onId(h:Out K ρ s o (T' c))(h':Out K ρ s o' (T' id)):Out K ρ s (if id==c then o else o') (T' id):= .ite (fun e=>Bo e▸h) fun _=>h'
end
noncomputable def zUz(i:Nat)(v:V)(σ:Sto)(k:Sto->Sy):Sy:=liO (nlA σ i) fun l=>need (decide (l.length < 1000)) (k (σ.set i (.list (l ++ [v]))))
noncomputable def wlO(v:V):Option (Str×List Int):=match v with
 | .tup l=>(match l with
  | []=>none
  | a::l=>(match a with
   | .str x=>(match l with
    | []=>none
    | b::l=>(match b with
     | .il w=>(match l with
      | []=>some (x,w)
      | _::_=>none)
     | _=>none))
   | _=>none))
 | _=>none
theorem zRb{v:V}{p:Str×List Int}(h:wlO v=some p):wlV p=v:=by
 cases v with
 | tup l=>cases l with
  | nil=>exact noS h
  | cons a l=>cases a with
   | str x=>cases l with
    | nil=>exact noS h
    | cons b l=>cases b with
     | il w=>cases l with
      | nil=>cases h; rfl
      | cons=>exact noS h
     | _=>exact noS h
   | _=>exact noS h
 | _=>exact noS h
noncomputable def yB3(i:Nat)(v:V)(σ:Sto)(k:Sto->Sy)(ob:Ob):Sy:=match ob with
 | .pls l=>liO (plO v) fun a=>need (decide (l.length < 1000)) (k (σ.set i (.pls (l ++ [a]))))
 | .wls l=>liO (wlO v) fun a=>need (decide (l.length < 1000)) (k (σ.set i (.wls (l ++ [a]))))
 | _=>zUz i v σ k
noncomputable def zYh(i:Nat)(v:V)(σ:Sto)(k:Sto->Sy):Sy:=liO (σ[i]? :Option Ob) (yB3 i v σ k)
noncomputable def zFK(n:Nat)(σ:Sto):Option (V×Sto):=if n < 2 ^ 63 then some (.int n,σ) else none
noncomputable def zOC(u:V)(σ:Sto):Option (V×Sto):=match u with
 | .tup l=>zFK l.length σ
 | u=>(zR u σ).bind fun l=>zFK l.length σ
noncomputable def zZ9(u:V)(σ:Sto):Option (V×Sto):=match u with
 | .str x=>(match x.cps.toList with
  | []=>none
  | c::r=>(match r with | []=>some (.int c,σ) | _=>none))
 | _=>none
noncomputable def zZx(u:V)(σ:Sto):Option (V×Sto):=match u with
 | .int i=>if decide (i < 0) || decide (i >1114111) then none else some (.str ⟨#[i.toNat]⟩,σ)
 | _=>none
noncomputable def loF(c:Nat):Nat:=if CL 65 c && CL c 90 then c + 32 else c
noncomputable def upF(c:Nat):Nat:=if CL 97 c && CL c 122 then c - 32 else c
noncomputable def zEr(x:Str):Bool:=x.cps.toList.all (fun c=>Cn c 128) && CL x.cps.size 1000
noncomputable def zOx(cps:Array Nat)(σ:Sto):Option (V×Sto):=if tooLong cps.size then none else if cps.size<=sizeLine then some (.str ⟨cps⟩,σ) else none
noncomputable def zWq(u:V)(σ:Sto):Option (V×Sto):=match u with
 | .str x=>zOx (placed x fun i _=>Unicode.lowerAt x.cps i) σ
 | _=>none
noncomputable def zVP(u:V)(σ:Sto):Option (V×Sto):=match u with
 | .str x=>zOx (placed x fun _ c=>Unicode.upperOf c) σ
 | _=>none
noncomputable def zQb(u v:V)(σ:Sto):Option (V×Sto):=match u with
 | .str x=>(match v with | .str y=>some (.int (occurrences x y 0 x.length (x.length + 1)).length,σ) | _=>none)
 | _=>none
section
variable{prog:Program}{w:World}{A:Around}{K:Frag}{ρ:List Addr}{σ:Sto}{s:Shared}{x y:Value}
noncomputable abbrev yU(prog:Program)(w:World)(A:Around)(s:Shared)(id:String)(xs:List Value):(Value->Shared->Prop)->(Value->Shared->Prop)->Prop:=W prog w A s (call (.builtin id) xs)
theorem zO0{α β:Type}{R:List Addr->Heap->α->β->Prop}{T:(β->Shared->Prop)->(Value->Shared->Prop)->Prop}{c:α}{b:β}(hr:∀ρ h,R ρ h c b)(I:Inv K ρ σ s){i:Nat}{a:Addr}(ha:ρ[i]? =some a){v:V}(rx:VR ρ s.heap v x)
  (hu:∀Q E s',Q b s'->wpAny (model prog w) A (call (.builtin "list.append") [.ref a,x]) (fun y A6=>y=Value.none/\A6=s') E s->T Q E):zC K ρ s (fun k=>zUz i v σ fun AA=>k c AA) T R:= .li fun l hl=> .need fun hz=>by
 refine I.listC ha (zOI hl) fun items k ho rs=>?_;have z:=I.updList (f:=fun xs=>xs.push x) (l':=l ++ [v]) ha ho (by rw [Array.toList_push]; exact rs.append (VRs.one rx));exact .done z (hr _ _) fun Q E q=>hu Q E _ q (DN slot_list_append ⟨_,ho,rfl⟩ entry_list_append (args_list_append _ _) (list_append a items k x (zN (DR (rs.size▸of_decide_eq_true hz)))) ⟨ho,rfl,rfl⟩)
theorem zL5{α β:Type}{R:List Addr->Heap->α->β->Prop}{T:(β->Shared->Prop)->(Value->Shared->Prop)->Prop}{c:α}{b:β}(hr:∀ρ h,R ρ h c b)(I:Inv K ρ σ s){i:Nat}{a:Addr}(ha:ρ[i]? =some a){v:V}(rx:VR ρ s.heap v x)
  (hu:∀Q E s',Q b s'->wpAny (model prog w) A (call (.builtin "list.append") [.ref a,x]) (fun y A6=>y=Value.none/\A6=s') E s->T Q E):zC K ρ s (fun k=>zYh i v σ fun AA=>k c AA) T R:= .li fun ob hob=>by
 have gen:=zO0 (prog:=prog) (w:=w) (A:=A) hr I ha rx hu;cases ob with
 | pls l=>
  refine .li fun p hp=> .need fun hz=>?_;obtain rfl:=zNV hp;have hlt:=zQ hob;have I':=zAY I hob;have hl':(σ.set i (.list (plL l)))[i]? =some (.list (plL l)):=Bw hlt;obtain ⟨items,k,ho,rs⟩:=I'.list ha hl';have z:=I'.updList (f:=fun xs=>xs.push x) (l':=plL (l ++ [p])) ha ho (by rw [Array.toList_push]; show VRs _ _ ((l ++ [p]).map plV) _; rw [Bv]; exact rs.append (VRs.one rx));have z1:=kR z.1 (l:=l ++ [p]) (i:=i) (Bw (by rw [Ce]; exact hlt));rw [Ct,Ct] at z1;have hsz:items.size < 1000:=by rw [<-rs.size,BW]; exact of_decide_eq_true hz
  exact .done ⟨z1,z.2⟩ (hr _ _) fun Q E q=>hu Q E _ q (DN slot_list_append ⟨_,ho,rfl⟩ entry_list_append (args_list_append _ _) (list_append a items k x (zN (DR hsz))) ⟨ho,rfl,rfl⟩)
 | wls l=>
  refine .li fun p hp=> .need fun hz=>?_;obtain rfl:=zRb hp;have hlt:=zQ hob;have I':=zOG I hob;have hl':(σ.set i (.list (wlL l)))[i]? =some (.list (wlL l)):=Bw hlt;obtain ⟨items,k,ho,rs⟩:=I'.list ha hl';have z:=I'.updList (f:=fun xs=>xs.push x) (l':=wlL (l ++ [p])) ha ho (by rw [Array.toList_push]; show VRs _ _ ((l ++ [p]).map wlV) _; rw [Bv]; exact rs.append (VRs.one rx));have z1:=zHX z.1 (l:=l ++ [p]) (i:=i) (Bw (by rw [Ce]; exact hlt));rw [Ct,Ct] at z1;have hsz:items.size < 1000:=by rw [<-rs.size,BW]; exact of_decide_eq_true hz
  exact .done ⟨z1,z.2⟩ (hr _ _) fun Q E q=>hu Q E _ q (DN slot_list_append ⟨_,ho,rfl⟩ entry_list_append (args_list_append _ _) (list_append a items k x (zN (DR hsz))) ⟨ho,rfl,rfl⟩)
 | _=>exact gen
theorem zHU(I:Inv K ρ σ s){T:(Value->Shared->Prop)->(Value->Shared->Prop)->Prop}{n:Nat}(h:n < 2 ^ 63->∀Q E,(∀t tk,Q (.int n t) {s with toks:=tk})->T Q E):Out K ρ s (zFK n σ) T:= .only fun hz v AA e Q E q=>by
 cases e;exact h hz Q E fun t tk=>q _ _ _ (I.toks tk) ((Ext.refl _ _).toks tk) vZ
theorem not_true{b:Bool}(h:¬b=true):b=false:=by cases b with | true=>exact absurd rfl h | false=>rfl
theorem zCF{u:V}(I:Inv K ρ σ s)(r:VR ρ s.heap u x):Out K ρ s (zOC u σ) (yU prog w A s "len" [x]):=by
 have gen:Out K ρ s ((zR u σ).bind fun l=>zFK l.length σ) (yU prog w A s "len" [x]):= .bind fun l hl=>by
  refine wG I hl r fun a items k e__ ho rs=>?_;cases e__;exact zHU I fun hz Q E q=>call_len_meets ⟨_,ho,rfl⟩ F.slot_list_len F.entry_list_len (F.args_list_len_1 _) (AutoListH.list___len___list_0 a items k) (ET.mpr (Int.natCast_nonneg _)) (ES.mpr (zN3 (rs.size▸hz))) (fun _ hq=>⟨ho,hq⟩) (rs.size▸q _ _)
 cases u with
 | tup l=>
  refine zCw r fun a items k e__ _ ho rs=>?_;cases e__;exact zHU I fun hz Q E q=>P.len_tuple ho (ES.mpr (zN3 (rs.size▸hz))) (rs.size▸q _ _)
 | _=>exact gen
theorem zRS{u:V}(I:Inv K ρ σ s)(r:VR ρ s.heap u x):Out K ρ s (zZ9 u σ) (yU prog w A s "ord" [x]):=by
 cases u with
 | str z=>
  obtain ⟨t,rfl⟩:=vrS r;cases z with | mk cps=>cases cps with | mk cs=>cases cs with
  | nil=>exact .none
  | cons c cs=>cases cs with
   | nil=>exact .int I fun Q E q=>P.ord_of_char q
   | cons=>exact .none
 | _=>exact .none
theorem zT9{u:V}(I:Inv K ρ σ s)(r:VR ρ s.heap u x):Out K ρ s (zZx u σ) (yU prog w A s "chr" [x]):=by
 cases u with
 | int i=>obtain ⟨t,rfl⟩:=vrI r; exact .ite (fun _=> .none) fun h=> .tok I _ yL fun Q E q=>P.chr_of_int (not_true h) q
 | _=>exact .none
theorem zDl{x:Str}(h:zEr x=true):(∀c∈x.cps.toList,c < 128)/\x.cps.size<=1000:=by
 refine zF h fun h1 h2=>?_;exact ⟨fun c hc=>DM.mp (BV.mp h1 c hc),C9 h2⟩
theorem zKL{x:Str}(f g:Nat->Nat)(cps:Array Nat)(h:(⟨cps⟩:Str)=⟨x.cps.map g⟩)(e:∀c,f c=g c):cps=(x.cps.toList.map f).toArray:=by
 rw [show f=g from funext e];injection h with h
 rw [h];exact Dw.mp (Array.toList_map ..)
theorem zYz(c:Nat):loF c=lo1 c:=by unfold loF lo1; simp only [Bu,Nat.ble_eq]
theorem zXc(c:Nat):upF c=up1 c:=by unfold upF up1; simp only [Bu,Nat.ble_eq]
theorem zJH{x:Str}(h:zEr x=true):placed x (fun i _=>Unicode.lowerAt x.cps i)=(x.cps.toList.map loF).toArray:=zKL _ _ _ (lower_ascii (zDl h).1) zYz
theorem zKp{x:Str}(h:zEr x=true):placed x (fun _ c=>Unicode.upperOf c)=(x.cps.toList.map upF).toArray:=zKL _ _ _ (upper_ascii (zDl h).1) zXc
theorem zE9{x:Str}(h:zEr x=true)(f:Nat->Nat):tooLong (x.cps.toList.map f).toArray.size=false/\(x.cps.toList.map f).toArray.size<=sizeLine:=by
 have h2:=zN (zDl h).2;have e:(x.cps.toList.map f).toArray.size=x.cps.size:=by rw [DW,BW,CF]
 rw [e];exact ⟨decide_eq_false (by lia),h2⟩
theorem zHZ(I:Inv K ρ σ s){T:(Value->Shared->Prop)->(Value->Shared->Prop)->Prop}{cps:Array Nat}(h:tooLong cps.size=false->∀Q E,(Made.str ⟨cps⟩).post Q s->T Q E):Out K ρ s (zOx cps σ) T:=
 .ite (fun _=> .none) fun h1=> .only fun h2=> .tok I _ yL fun Q E q=>h (not_true h1) Q E ⟨h2,q⟩
theorem zDt{x:Str}{t:Tok}(hz:tooLong (placed x fun i _=>Unicode.lowerAt x.cps i).size=false)(Q:Value->Shared->Prop)(E:Value->Shared->Prop)(q:(Made.str ⟨placed x fun i _=>Unicode.lowerAt x.cps i⟩).post Q s):yU prog w A s "str.lower" [.str x t] Q E:=
 call_gives F.slot_str_lower (DP s x t) F.entry_str_lower (F.args_str_lower_1 _) (gives_str_lower x t hz) q
theorem zDr{x:Str}{t:Tok}(hz:tooLong (placed x fun _ c=>Unicode.upperOf c).size=false)(Q:Value->Shared->Prop)(E:Value->Shared->Prop)(q:(Made.str ⟨placed x fun _ c=>Unicode.upperOf c⟩).post Q s):yU prog w A s "str.upper" [.str x t] Q E:=
 call_gives F.slot_str_upper (DP s x t) F.entry_str_upper (F.args_str_upper_1 _) (gives_str_upper x t hz) q
theorem zMh{u:V}(I:Inv K ρ σ s)(r:VR ρ s.heap u x):Out K ρ s (zWq u σ) (yU prog w A s "str.lower" [x]):=by
 cases u with
 | str=>obtain ⟨t,rfl⟩:=vrS r; exact zHZ I zDt
 | _=>exact .none
theorem zLW{u:V}(I:Inv K ρ σ s)(r:VR ρ s.heap u x):Out K ρ s (zVP u σ) (yU prog w A s "str.upper" [x]):=by
 cases u with
 | str=>obtain ⟨t,rfl⟩:=vrS r; exact zHZ I zDr
 | _=>exact .none
theorem zLX{u v:V}(I:Inv K ρ σ s)(r:VR ρ s.heap u x)(r':VR ρ s.heap v y):Out K ρ s (zQb u v σ) (yU prog w A s "str.count" [x,y]):=by
 cases u with
 | str=>cases v with
  | str=>
   obtain ⟨t,rfl⟩:=vrS r; obtain ⟨t',rfl⟩:=vrS r';exact .int I fun Q E q=>call_gives F.slot_str_count (DP s _ t) F.entry_str_count (F.args_str_count_2 _ _) (gives_str_count _ _ t t') q
  | _=>exact .none
 | _=>exact .none
end
noncomputable def yBQ(id:String)(i:Nat)(b:Nat)(l:List Nat)(σ:Sto):Option (V×Sto):=
 if id=="list.pop" then (match l with | c::l=>if b<=1000 then some (.str ⟨#[c]⟩,σ.set i (.stk b l)) else none | []=>none)
 else if id=="list.reverse" then (if b<=1000 then some (.none,σ.set i (.stk b l.reverse)) else none)
 else none
section
variable{prog:Program}{w:World}{A:Around}{K:Frag}{ρ:List Addr}{σ:Sto}{s:Shared}{i:Nat}{a:Addr}{l:List V}
theorem zIs(hl:σ[i]? =some (.list l))(hz:l.length<=1000)(I:Inv K ρ σ s)(ha:ρ[i]? =some a):Out K ρ s (some (.none,σ.set i (.list l.reverse))) (yU prog w A s "list.reverse" [.ref a]):=by
 refine I.listC ha hl fun items k ho r2=>?_;exact .some (I.updList (f:=fun xs=>xs.reverse) ha ho (by rw [Array.toList_reverse]; exact r2.reverse)) qA fun Q E q=>
  DN F.slot_list_reverse ⟨_,ho,rfl⟩ F.entry_list_reverse (F.args_list_reverse_1 _) (AutoSeq1.list_reverse_list_0 a items k (zN (r2.size▸hz))) ⟨ho,q⟩
theorem zJu(items:Array Value):(items.eraseIdxIfInBounds (items.size - 1)).toList=items.toList.dropLast:=by
 unfold Array.eraseIdxIfInBounds;split
 ·rename_i hlt
  rw [Array.toList_eraseIdx,List.dropLast_eq_take,List.eraseIdx_eq_take_drop_succ,CF,Nat.sub_add_cancel (Nat.succ_le_of_lt (C4 (Ca _) hlt)),Do (D2 (CF)),Bp]
 ·rename_i hlt
  have:items=#[]:=Dk (Nat.eq_zero_of_not_pos fun h=>hlt (Nat.sub_lt h Nat.one_pos));subst this; rfl
theorem zHD{u:V}(hl:σ[i]? =some (.list l))(hz:l.length<=1000)(hu:l.getLast? =some u)(I:Inv K ρ σ s)(ha:ρ[i]? =some a):Out K ρ s (some (u,σ.set i (.list l.dropLast))) (yU prog w A s "list.pop" [.ref a]):=by
 refine I.listC ha hl fun items k ho rs=>?_;rw [List.getLast?_eq_getElem?] at hu;obtain ⟨y,hy,ry⟩:=rs.get hu;rw [rs.size,CU] at hy;have z:=I.updList (f:=fun xs=>xs.eraseIdxIfInBounds (items.size - 1)) (l':=l.dropLast) ha ho (by rw [zJu,List.dropLast_eq_take,List.dropLast_eq_take,rs.length]; exact rs.take _);exact .some z (ry.ext z.2) fun Q E q=>DN F.slot_list_pop ⟨_,ho,rfl⟩ F.entry_list_pop (F.args_list_pop_1 _) (PySem.MeetsSeq.list_pop_last a items k y hy (zN (rs.size▸hz))) ⟨ho,q⟩
theorem zFC{u:V}(hl:σ[i]? =some (.list (u::l)))(hz:l.length < 1000)(I:Inv K ρ σ s)(ha:ρ[i]? =some a){t:Tok}:Out K ρ s (some (u,σ.set i (.list l))) (yU prog w A s "list.pop" [.ref a,.int 0 t]):=by
 refine I.listC ha hl fun items k ho rs=>?_;have e:=rs.size;obtain ⟨y,ys,hys,ry,rys⟩:=rs;have hy:items[0]? =some y:=by rw [<-CU,hys]; rfl
 have hlt:0 < items.size:=e▸Du _;have hk:seqIndex? 0 items.size=some 0:=by
  show (if (decide (0<=0) && decide (0 < (items.size:Int)))=true then some (Int.toNat 0) else none)=some 0;rw [decide_eq_true (show (0:Int) < items.size from EG.mpr hlt)]; rfl
 have z:=I.updList (f:=fun xs=>xs.eraseIdxIfInBounds 0) (l':=l) ha ho (by
  unfold Array.eraseIdxIfInBounds;rw [dif_pos hlt,Array.toList_eraseIdx,hys];exact rys)
 exact .some z (ry.ext z.2) fun Q E q=>DN F.slot_list_pop ⟨_,ho,rfl⟩ F.entry_list_pop (F.args_list_pop_2 _ _) (PySem.MeetsSeq.list_pop_at a items k 0 t 0 y (by decide) hk hy (zN (e▸hz))) ⟨ho,q⟩
theorem zQ5{T:(Value->Shared->Prop)->(Value->Shared->Prop)->Prop}{b:Nat}{l l':List Nat}{v:V}(hl:σ[i]? =some (.stk b l))(hz:l.length<=b->l'.length<=b)(I:Inv K ρ σ s)
  (h:∀{σ:Sto},σ[i]? =some (.list (qW l))->l.length<=b->Inv K ρ σ s->Out K ρ s (some (v,σ.set i (.list (qW l')))) T):Out K ρ s (some (v,σ.set i (.stk b l'))) T:=by
 have hlt:=zQ hl;obtain ⟨a,ha,ob⟩:=I.ob hl;have hb:=(I.stk ha hl).1;have I':=I.same (ob':= .list (qW l)) hl fun a r=>by
  obtain ⟨o,xs,ho,rs,hb,items,n,r,rfl⟩:=r;exact ⟨_,items.toList,ho,zGB r,items,n,rfl,rfl⟩
 intro v' AA hh Q E q;cases hh;refine h (σ:=σ.set i (.list (qW l))) (Bw hlt) hb I' _ _ rfl Q E fun AC s' x J X r=>?_;have z:=J.same (ob':= .stk b l') (Bw (by rw [Ce]; exact hlt)) fun a r=>by
  obtain ⟨o,xs,ho,rs,items,n,rfl,rfl⟩:=r;exact ⟨_,[],ho,vrs_nil',hz hb,items,n,zGB rs,rfl⟩
 rw [Ct,Ct] at z;exact q AC s' x z X r
theorem zSz{id:String}{b:Nat}{l:List Nat}(hl:σ[i]? =some (.stk b l))(I:Inv K ρ σ s)(ha:ρ[i]? =some a):Out K ρ s (yBQ id i b l σ) (yU prog w A s id [.ref a]):=by
 refine Out.onId (T':=fun id=>yU prog w A s id [.ref a]) ?_ (Out.onId (T':=fun id=>yU prog w A s id [.ref a]) ?_ .none)
 ·cases l with
  | nil=>exact .none
  | cons c l=>
   refine .only fun hb=>zQ5 hl Nat.le_of_succ_le I fun hl hz I'=>?_;have e1:(qW (c::l)).getLast? =some (.str ⟨#[c]⟩):=by show (List.reverse (_::_)).getLast? =_; rw [Dp,List.getLast?_concat]
   have e2:(qW (c::l)).dropLast=qW l:=by show (List.reverse (_::_)).dropLast=_; rw [Dp,List.dropLast_concat]; rfl
   exact e2▸zHD hl (zDs _▸Bn hz hb) e1 I' ha
 ·refine .only fun hb=>zQ5 hl (fun h=>by rw [List.length_reverse]; exact h) I fun hl hz I'=>?_
  have e1:(qW l).reverse=qW l.reverse:=by unfold qW; rw [List.map_reverse]
  exact e1▸zIs hl (zDs _▸Bn hz hb) I' ha
end
end
noncomputable def ltL:List V->List V->Option Bool
 | [],l=>(match l with | []=>some false | _::_=>none)
 | v::r,l=>(match l with
  | []=>none
  | v'::r'=>(match v with
   | .int a=>(match v' with | .int b=>if a==b then ltL r r' else some (decide (a < b)) | _=>none)
   | .str a=>(match v' with | .str b=>if decide (a=b) then ltL r r' else some (decide (a.cps.toList < b.cps.toList)) | _=>none)
   | _=>none))
noncomputable def zKG{α:Type}(lt:Nat->Nat->Option Bool):KasT α->Option α
 | .ret a=>some a
 | .ask i j k=>(lt i j).bind fun b=>zKG lt (k b)
theorem zVB{α:Type}(lt:Nat->Nat->Option Bool)(i j:Nat)(k:Bool->KasT α):zKG lt (.ask i j k)=(lt i j).bind fun b=>zKG lt (k b):=rfl
noncomputable def zSi(v:V):Option (List V):=match v with
 | .tup l=>some l
 | _=>none
noncomputable def zPY(l:List V):Option String:=match l with
 | []=>none
 | v::_=>(match v with
  | .int _=>some "int"
  | .str _=>some "str"
  | _=>none)
noncomputable def zAb(v:V):Option String:=(zSi v).bind zPY
noncomputable def zFz(l:List V)(i j:Nat):Option Bool:=((l[i]?).bind zSi).bind fun a=>((l[j]?).bind zSi).bind fun b=>ltL a b
noncomputable def zEf(l:List V):Option String:=match l with
 | []=>none
 | v::r=>(zAb v).bind fun T=>if r.all (fun u=>zAb u==some T) then some T else none
noncomputable def zDH(l:List V):Option (List V):=if l.length < 2 then some l else if decide (l.length < 64) && (zEf l).isSome then (zKG (zFz l) (kas_sort l.length)).map fun p=>p.toList.map fun i=>l.getD i .none else none
section
variable{prog:Program}{w:World}{A:Around}{K:Frag}{ρ:List Addr}{σ:Sto}{s:Shared}{E:Value->Shared->Prop}
theorem zSF{α:Type}{lt:Nat->Nat->Option Bool}{cmp:Nat->Nat->(Bool->Shared->Prop)->Shared->Prop}(hc:∀i j b C,lt i j=some b->C b s->cmp i j C s){t:KasT α}{a:α}{Q:α->Shared->Prop}(h:zKG lt t=some a)(q:Q a s):t.kasWp cmp Q s:=by
 induction t with
 | ret b=>cases h; exact q
 | ask i j k ih=>
  refine zJ h fun b hb h=>?_;exact hc _ _ _ _ hb (ih b h)
theorem zIR{fin:Bool}{Q:Bool->Shared->Prop}{i:Nat}{x y:Value}{ps:List (Value×Value)}{e lt:Bool}(he:∀P:Bool->Shared->Prop,P e s->wpAny (model prog w) A (eqBool x y) P (fun _ _=>False) s)(h:∀b (P:Bool->Shared->Prop),P lt s->wpAny (model prog w) A (oneLt' b x y) P (fun _ _=>False) s)
  (ih:e=true->KatLex prog w A true fin Q ps (i + 1) s) (no:e=false->Q lt s):KatLex prog w A true fin Q ((x,y)::ps) i s:=
 kat_cons (he _ (kat_go (fun z=>kat_yes (ih z)) fun z=>kat_no (h _ Q (no z))))
theorem lt_int'{x y:Int}{t u:Tok}(b:Bool)(C:Bool->Shared->Prop)(q:C (decide (x < y)) s):wpAny (model prog w) A (oneLt' b (.int x t) (.int y u)) C (fun _ _=>False) s:=by
 cases b with
 | true=>exact oneLt_int q
 | false=>exact kat_one _ _ (P.lt_int q)
theorem lt_str'{x y:Str}{t u:Tok}(b:Bool)(C:Bool->Shared->Prop)(q:C (decide (x.cps.toList < y.cps.toList)) s):wpAny (model prog w) A (oneLt' b (.str x t) (.str y u)) C (fun _ _=>False) s:=by
 cases b with
 | true=>exact oneLt_str q
 | false=>exact kat_one _ _ (P.lt_str q)
theorem zNm{fin:Bool}{Q:Bool->Shared->Prop}{a b:List V}{xs ys:List Value}{c:Bool}(i:Nat)(h:ltL a b=some c)(ra:VRs ρ s.heap a xs)(rb:VRs ρ s.heap b ys)(f:xs.length=ys.length->fin=false)(q:Q c s):KatLex prog w A true fin Q (xs.zip ys) i s:=by
 induction a generalizing b xs ys i with
 | nil=>cases b with
  | nil=>
   cases h;cases zW ra; cases zW rb;exact kat_nil (f rfl▸q)
  | cons _ _=>exact noS h
 | cons v r ih=>cases b with
  | nil=>exact noS h
  | cons v' r'=>
   obtain ⟨x,xs,rfl,rx,ra⟩:=ra;obtain ⟨y,ys,rfl,ry,rb⟩:=rb;cases v with
   | int a=>cases v' with
    | int b=>
     have h:(if a==b then ltL r r' else some (decide (a < b)))=some c:=h;obtain ⟨t,rfl⟩:=vrI rx;obtain ⟨u,rfl⟩:=vrI ry;refine zIR (e:=a==b) (fun P q=>Dx q) lt_int' (fun e=>?_) (fun e=>?_)
     ·rw [e] at h; exact ih (i + 1) h ra rb fun e=>f (congrArg (· + 1) e)
     ·rw [e] at h; cases h; exact q
    | _=>exact noS h
   | str a=>cases v' with
    | str b=>
     have h:(if decide (a=b) then ltL r r' else some (decide (a.cps.toList < b.cps.toList)))=some c:=h;obtain ⟨t,rfl⟩:=vrS rx;obtain ⟨u,rfl⟩:=vrS ry;refine zIR (e:=decide (a=b)) (fun P q=>wpAny_eqBool_str q) lt_str' (fun e=>?_) (fun e=>?_)
     ·rw [e] at h; exact ih (i + 1) h ra rb fun e=>f (congrArg (· + 1) e)
     ·rw [e] at h; cases h; exact q
    | _=>exact noS h
   | _=>exact noS h
theorem zLp{h:Heap}{l:List V}{vs:List Value}(rs:VRs ρ h l vs){i:Nat}{a:List V}(e:(l[i]?).bind zSi=some a):∃p items n,vs.getD i .none= .ref p/\h.get? p=some ⟨.type "tuple",none,.seq items n,#[]⟩/\VRs ρ h a items.toList:=by
 refine zJ e fun v hv e=>?_;obtain ⟨x,hx,rx⟩:=rs.get hv;cases v with
 | tup l'=>
  cases e;refine zCw rx fun p items n e__ _ ho r=>?_;cases e__;exact ⟨p,items,n,by rw [C0,hx]; rfl,ho,r⟩
 | _=>exact noS e
theorem zNv{l:List V}{vs:List Value}(rs:VRs ρ s.heap l vs){i j:Nat}{c:Bool}(h:zFz l i j=some c){C:Bool->Shared->Prop}(q:C c s):kas_ask prog w A (tuples' true) vs i j C s:=by
 refine zJ h fun a h1 h=>?_;refine zJ h fun b h2 h=>?_;obtain ⟨p,items,n,e1,ho,r1⟩:=zLp rs h1;obtain ⟨p',items',n',e2,ho',r2⟩:=zLp rs h2;unfold kas_ask;rw [e1,e2];exact kat_lt (s:=s) ho rfl ho' rfl (zNm 0 h r1 r2 (fun e=>decide_eq_false (Dj.mpr (D2 e.symm))) q)
theorem zDk{l:List V}{T:String}(h:zPY l=some T){items:Array Value}{hp:Heap}(r:VRs ρ hp l items.toList):∃y,items[0]? =some y/\Looks (model prog w) hp (typeOf y) (.type T)/\(Dv T !=Dv "tuple")=true:=by
 cases l with
 | nil=>exact noS h
 | cons v l=>
  obtain ⟨z,zs,hz,rz,_⟩:=r;refine ⟨z,by rw [<-CU,hz]; rfl,?_⟩;cases v with
  | int=>cases h; obtain ⟨t,rfl⟩:=vrI rz; exact ⟨EM rfl,by decide⟩
  | str=>cases h; obtain ⟨t,rfl⟩:=vrS rz; exact ⟨EM rfl,by decide⟩
  | _=>exact noS h
theorem zTD{h:Heap}{T:String}{l:List V}{vs:List Value}(r:VRs ρ h l vs)(hu:∀u∈l,zAb u=some T):∃fs,KatTups h vs fs/\fs.length=l.length/\∀v∈fs,Looks (model prog w) h (typeOf v) (.type T):=by
 induction l generalizing vs with
 | nil=>cases zW r; exact ⟨[],KatTups.nil,rfl,fun _ m=>absurd m Ba⟩
 | cons u l ih=>
  obtain ⟨y,ys,rfl,ry,r⟩:=r;obtain ⟨fs,t,e,hT⟩:=ih r fun u hu'=>hu u (Bq _ hu');refine zJ (hu u (CB ..)) fun a h1 h2=>?_;cases u with
  | tup l'=>
   cases h1;refine zCw ry fun p items n e__ _ ho r2=>?_;cases e__;obtain ⟨z,hz,hl,_⟩:=zDk (prog:=prog) (w:=w) h2 r2;exact ⟨z::fs,KatTups.cons ho rfl rfl hz t,congrArg (· + 1) e,fun v hv=>(Bl.mp hv).elim (fun e=>e▸hl) (hT v)⟩
  | _=>exact noS h1
theorem zJz{l:List V}{vs:List Value}(rs:VRs ρ s.heap l vs){T:String}(h:zEf l=some T){Q:SortKind->Shared->Prop}(q:Q (tuples' true) s):wpAny (model prog w) A (keyKind' vs.toArray) Q E s:=by
 cases l with
 | nil=>exact noS h
 | cons v r=>
  refine zJ h fun T' hT' h=>?_;cases hall:r.all (fun u=>zAb u==some T') with
  | false=>rw [hall] at h; exact noS h
  | true=>
   rw [hall] at h; cases h;have hu:∀u∈v::r,zAb u=some T:=fun u hu=>(Bl.mp hu).elim (fun e=>e▸hT') fun m=>Bo (BV.mp hall u m);obtain ⟨fs,t,e,hT⟩:=zTD (prog:=prog) (w:=w) rs hu;refine kat_kind t (e▸Du _) hT (beq_self_eq_true _) ?_;refine zJ hT' fun a h1 h2=>?_;cases v with
   | tup l'=>
    cases h1;obtain ⟨y,ys,rfl,ry,_⟩:=rs;refine zCw ry fun p items n e__ _ ho r2=>?_;cases e__;obtain ⟨_,_,_,h3⟩:=zDk (prog:=prog) (w:=w) h2 r2;rw [h3]; exact q
   | _=>exact noS h1
theorem zRO{h:Heap}{l:List V}{vs:List Value}(rs:VRs ρ h l vs)(p:List Nat):VRs ρ h (p.map fun i=>l.getD i .none) (p.map fun i=>vs.getD i .none):=by
 induction p with
 | nil=>exact vrs_nil'
 | cons i p ih=>
  refine ⟨_,_,rfl,?_,ih⟩;show VR ρ h (l.getD i .none) (vs.getD i .none);rw [C0,C0];cases hl:l[i]? with
  | none=>rw [C3 (rs.length▸Cu.mp hl)]; exact qA
  | some v=>
   obtain ⟨x,hx,rx⟩:=rs.get hl;rw [hx]; exact rx
set_option backward.match.sparseCases true in
noncomputable def uJ(a:Addr)(items:Array Value)(before:Nat):Sem PySem.Fin:=do
 let kind <-if items.size < 2 then pure general' else keyKind' items
 let ((),s) <-(if items.size < 2 then pure () else sortRuns').run (SortSt.mk' kind (items.zip items) #[] 7 none)
 let sorted:=(arrOf s).map (·.2)
 let touched:=(<-seqEpoch a) !=before
 Builtin.List.listUpdate (.ref a) fun _=>sorted
 if let some e:=failedOf s then rule "list.sort.comparison-raised"; throw e
 if touched then rule "list.sort.modified"; raiseError "ValueError" "list modified during sort"
 ret .none
theorem zND{a:Addr}{items:Array Value}{e1:Nat}(ho:s.heap.get? a=some (seqObj "list" #[] e1))(h2:items.size < 2){P:PySem.Fin->Shared->Prop}(q:P (.done (.ret .none)) {s with heap:=s.heap.update a (Cy fun _=>items)}):wpAny (model prog w) A (uJ a items e1) P E s:=by
 unfold uJ;rw [if_pos h2,if_pos h2];refine BK (BM ?_);dsimp only;rw [StateT.run_pure];refine BK (BM ?_);have e:(arrOf (SortSt.mk' general' (items.zip items) #[] 7 none)).map (·.2)=items:=by
  refine Dw.mp ?_;show ((items.zip items).map (·.2)).toList=items.toList;rw [Array.toList_map,Array.toList_zip];exact List.map_snd_zip (CD _)
 dsimp only;rw [e];refine BK (seqEpoch_at ho rfl ?_);refine BK (listUpdate_at ho rfl ?_ (Ca _) (Ck (zN (Bn (DR h2) (by decide)))));rw [bne_self_eq_false];exact BM q
theorem zMV{a:Addr}{items:Array Value}{e1:Nat}{l:List V}{p:Array Nat}{T:String}(ho:s.heap.get? a=some (seqObj "list" #[] e1))(rs:VRs ρ s.heap l items.toList)(h2:¬items.size < 2)(h64:l.length < 64)(hT:zEf l=some T)(hp:zKG (zFz l) (kas_sort l.length)=some p)
  {P:PySem.Fin->Shared->Prop} (q:∀out:Array Value,VRs ρ s.heap (p.toList.map fun i=>l.getD i .none) out.toList->P (.done (.ret .none)) {s with heap:=s.heap.update a (Cy fun _=>out)}):wpAny (model prog w) A (uJ a items e1) P E s:=by
 have el:=rs.size;have e0:items.toList.toArray=items:=Array.toArray_toList ..;unfold uJ;rw [if_neg h2,if_neg h2];refine BK ?_
 conv in keyKind' items=>rw [<-e0]
 refine zJz rs hT (BK ?_)
 conv in items.zip items=>rw [<-e0]
 have hr:=kat_run (prog:=prog) (w:=w) (A:=A) (E:=E) (κ:=tuples' true) (ks:=items.toList) (vs:=items.toList) (s:=s) rfl (Q:=fun st s'=>s'=s/\p.size=items.size/\arrOf st=p.map (kas_item (items.toList.toArray.zip items.toList.toArray))/\failedOf st=none) (G:=fun p' s'=>p'=p/\s'=s)
  (by rw [CF]; exact Dj.mp h2) (by rw [CF,<-el]; exact h64) (fun p' st' s' a1 a2 a3 a4=>by obtain ⟨rfl,rfl⟩:=a4; exact ⟨rfl,a1.trans CF,a2,a3⟩)
  (zSF (lt:=zFz l) (fun i j b C h q=>zNv rs h q) (by rw [CF,<-el]; exact hp) ⟨rfl,rfl⟩)
 refine C7 hr ?_ fun _ _ e=>e;rintro ⟨⟨⟩,st⟩ s' ⟨rfl,hps,har,hf⟩;have hout:=kat_snds (ks:=items.toList) (vs:=items.toList) rfl har;dsimp only;rw [hout,hf];refine BK (seqEpoch_at ho rfl ?_);refine BK (listUpdate_at ho rfl ?_ (Ca _) (Ck (zN (by rw [DW,BW,CF,hps,<-el]; exact DR (CV h64 (by decide))))));rw [bne_self_eq_false];exact BM (q _ (zRO rs p.toList))
theorem zM7{i:Nat}{l l':List V}{a:Addr}(hs:zDH l=some l')(hz:l.length<=1000)(hl:σ[i]? =some (.list l))(I:Inv K ρ σ s)(ha:ρ[i]? =some a):Out K ρ s (some (.none,σ.set i (.list l'))) (yU prog w A s "list.sort" [.ref a]):=by
 refine I.listC ha hl fun items n ho rs=>?_;intro v AA hh Q E q;cases hh;refine Cj slot_list_sort ⟨_,ho,rfl⟩ entry_list_sort ?_ (args_list_sort _);have z1:=I.updList (f:=fun _=>#[]) (l':=[]) ha ho vrs_nil';obtain ⟨e1,ho1⟩:∃e1,(s.heap.update a (Cy fun _=>(#[]:Array Value))).get? a=some (seqObj "list" #[] e1):=⟨_,get?_update_seq ho fun _=>#[]⟩;rw [list_sort_plain];refine BK (listItems_at ho rfl (BK (listUpdate_at ho rfl ?_ (zN (rs.size▸hz)) (Ca _))));generalize s.heap.update a (Cy fun _=>(#[]:Array Value))=h1 at z1 ho1 ⊢;refine BK (seqEpoch_at ho1 rfl (BK (wpAny_newTuple ?_ (zN (by rw [CF]; exact rs.size▸hz)))));have z2:=z1.1.extra {cls:= .type "tuple",data:= .seq items.toList.toArray 0} s.toks;have ho2:=By {cls:= .type "tuple",data:= .seq items.toList.toArray 0} ho1;generalize h1.push {cls:= .type "tuple",data:= .seq items.toList.toArray 0}=h2 at z2 ho2 ⊢;refine BK (wpAny_newList ?_ (Ca _));have z3:=z2.1.extra {cls:= .type "list",data:= .seq #[]} s.toks;have ho3:=By {cls:= .type "list",data:= .seq #[]} ho2;have X3:=(z1.2.then z1.1 z2.2).then z2.1 z3.2;have I3:=z3.1;clear z1 z2 z3 ho1 ho2;refine CT ?_;show wpAny (model prog w) A.in1 (uJ a items e1) _ E {s with heap:=h2.push {cls:= .type "list",data:= .seq #[]}};generalize h2.push {cls:= .type "list",data:= .seq #[]}=h3 at I3 X3 ho3 ⊢;have fin:∀out:Array Value,VRs ρ h3 l' out.toList->Q .none {s with heap:=h3.update a (Cy fun _=>out)}:=fun out ro=>by
  have z4:=I3.updList (f:=fun _=>out) (l':=l') ha ho3 ro;rw [Ct] at z4;exact q _ _ _ z4.1 (X3.then I3 z4.2) qA
 unfold zDH at hs;split at hs
 ·rename_i hlt
  cases hs;exact zND (s:={s with heap:=h3}) ho3 (rs.size▸hlt) ⟨_,rfl,fin items (rs.ext X3)⟩
 ·rename_i hlt
  split at hs
  ·rename_i hc
   refine zF hc fun h64 hty=>?_;obtain ⟨T,hT⟩:=CW.mp hty;refine yJ hs fun p hp e__=>?_;cases e__;exact zMV (s:={s with heap:=h3}) ho3 (rs.ext X3) (rs.size▸hlt) (of_decide_eq_true h64) hT hp fun out ro=>⟨_,rfl,fin out ro⟩
  ·exact noS hs
end
section
open Builtin Builtin.Str
noncomputable def zBq(v:V):Option Str:=match v with
 | .str x=>some x
 | _=>none
noncomputable abbrev zAN:List V->Option (List Str):=qI zBq
noncomputable def vJ(sep:Str)(l:List Str):Str:=match l with
 | []=>glued sep []
 | x::r=>(match r with
  | []=>x
  | _::_=>glued sep l)
noncomputable def zLA(sep:Str)(u:V)(σ:Sto)(k:V->Sto->Sy):Sy:=liO (zR u σ) fun l=>liO (zAN l) fun xs=>need (!tooLong (xs.toArray.foldl (· + ·.length + sep.length) 0) && decide ((vJ sep xs).length<=sizeLine)) (pickV (some (.str (vJ sep xs))) fun v=>k v σ)
noncomputable def zXx(u v:V)(σ:Sto):Option (V×Sto):=match u with
 | .str sep=>(match v with
  | .str y=>if (!(y.length==0)) && decide (sep.length<=900) then some (.trk σ.length,σ ++ [.list ((Dl sep y).map .str)]) else none
  | _=>none)
 | _=>none
section
variable{prog:Program}{w:World}{A:Around}{K:Frag}{ρ:List Addr}{σ:Sto}{s:Shared}{x y:Value}
theorem zMI{h:Heap}{β:Type}{f:V->Option β}{g:β×Tok->Value}(hf:∀v d x,f v=some d->VR ρ h v x->∃t,x=g (d,t)){l:List V}{vs:List Value}{xs:List β}(e:qI f l=some xs)(r:VRs ρ h l vs):∃ps:List (β×Tok),vs=ps.map g/\ps.map (·.1)=xs:=by
 induction l generalizing vs xs with
 | nil=>cases e; exact ⟨[],zW r,rfl⟩
 | cons v l ih=>
  obtain ⟨y,ys,e0,ry,r⟩:=r;refine zJ e fun d h1 e=>?_;refine yJ e fun ds h2 e=>?_;obtain ⟨t,e1⟩:=hf v d y h1 ry;obtain ⟨ps,e2,e3⟩:=ih h2 r;exact ⟨(d,t)::ps,by rw [e0,e1,e2]; rfl,by rw [<-e,<-e3]; rfl⟩
theorem kY{h:Heap}(v:V)(d:Str)(x:Value)(e:zBq v=some d)(r:VR ρ h v x):∃t,x= .str d t:=by
 cases v with
 | str=>cases e; exact r
 | _=>exact noS e
theorem zH9{h:Heap}{l:List V}{vs:List Value}{xs:List Str}(e:zAN l=some xs)(r:VRs ρ h l vs):∃ps:List (Str×Tok),vs=strValues ps/\ps.map (·.1)=xs:=zMI (g:=fun p=> .str p.1 p.2) kY e r
theorem zIy{h:Heap}(ps:List (Str×Tok)):VRs ρ h ((ps.map (·.1)).map .str) (strValues ps):=by
 induction ps with
 | nil=>exact vrs_nil'
 | cons p ps ih=>exact ⟨_,_,rfl,yL,ih⟩
theorem zH2{sep:Str}{t:Tok}{u:V}(I:Inv K ρ σ s)(r:VR ρ s.heap u x):zC K ρ s (zLA sep u σ) (yU prog w A s "str.join" [.str sep t,x]) VRr:= .li fun l hl=> .li fun zs hz=> .need (m:=fun k=>pickV (some (.str (vJ sep zs))) fun v=>k v σ) fun hc=> .pv (f:=fun v k=>k v σ) <| by
 refine zF hc fun c1 c2=>?_;refine wG I hl r fun a items n e__ ho r2=>?_;cases e__;obtain ⟨ps,hp,rfl⟩:=zH9 hz r2;have c1:tooLong ((ps.map (·.1)).toArray.foldl (· + ·.length + sep.length) 0)=false:=(Bx _).mp c1;have c2:=of_decide_eq_true c2;have go:∀Q E,(joinMade sep ps).post Q s->yU prog w A s "str.join" [.str sep t,.ref a] Q E:=fun Q E q=>
  DN F.slot_str_join (DP s sep t) F.entry_str_join (F.args_str_join_2 _ _) (meets_str_join_list sep t a ps c1) ⟨⟨_,ho,rfl,n,by rw [<-hp]⟩,q⟩
 cases ps with
 | nil=>exact .str I c2 go
 | cons p ps=>cases ps with
  | nil=>exact .ret I yL go
  | cons p' ps=>exact .str I c2 go
theorem zL3{u v:V}(I:Inv K ρ σ s)(rx:VR ρ s.heap u x)(ry:VR ρ s.heap v y):Out K ρ s (zXx u v σ) (yU prog w A s "str.split" [x,y]):=by
 cases u with
 | str sep=>cases v with
  | str z=>
   obtain ⟨t,rfl⟩:=vrS rx; obtain ⟨u',rfl⟩:=vrS ry;refine .only fun hc=>?_;refine zF hc fun hy hx=>?_;have hy:(z.length==0)=false:=(Bx _).mp hy;have hx:=of_decide_eq_true hx;have hn:(partsBetween sep (occurrences sep z 0 sep.length (sep.length + 1)) z.length).length<=sizeLine:=by
    rw [length_partsBetween];exact zN (Bn (Dd (StrLaws.occ_length_le sep z 0 sep.length (sep.length + 1))) (Bn (Nat.add_le_add_right hx 2) (by decide)))
   have one:Dl sep z=[sep]->(∀Q E,Q (.ref s.heap.objs.size) {s with heap:=s.heap.push {cls:= .type "list",data:= .seq #[.str sep t]}}->yU prog w A s "str.split" [.str sep t,.str z u'] Q E)->Out K ρ s (some (.trk σ.length,σ ++ [.list ((Dl sep z).map .str)])) (yU prog w A s "str.split" [.str sep t,.str z u']):=fun e h=>
    e▸.list (xs:=#[.str sep t]) I s.toks (zIy [(sep,t)]) h
   cases h1:(decide (sep.length < z.length) || decide (strKind sep < strKind z)) with
   | true=>exact one (if_pos h1) fun Q E q=>DN F.slot_str_split (DP _ _ _) F.entry_str_split (F.args_str_split_2 _ _) (meets_str_split_cannot_occur sep z t u' h1) q
   | false=>cases hf:(occurrences sep z 0 sep.length (sep.length + 1)).isEmpty with
    | true=>exact one ((if_neg (ne_true_of_eq_false h1)).trans (if_pos hf)) fun Q E q=>DN F.slot_str_split (DP _ _ _) F.entry_str_split (F.args_str_split_2 _ _) (meets_str_split_not_found sep z t u' h1 hy hf) q
    | false=>
     refine .list I _ ?_ fun Q E q=>DN F.slot_str_split (DP _ _ _) F.entry_str_split (F.args_str_split_2 _ _) (meets_str_split_sep sep z t u' h1 hy hf (zN (Bn hx (by decide))) hn) q;have e:Dl sep z=(numbered s.toks (partsBetween sep (occurrences sep z 0 sep.length (sep.length + 1)) z.length)).map (·.1):=((if_neg (ne_true_of_eq_false h1)).trans (if_neg (ne_true_of_eq_false hf))).trans (numbered_texts _ _).symm;rw [e,strsFrom_eq];exact zIy _
  | _=>exact .none
 | _=>exact .none
end
open Builtin.Re
noncomputable abbrev zAf(code:Array Nat)(bad:Nat->Bool):Prop:=∀c seen,bad c=false->∃seen',EW code c code.size 5 true seen= .ok (false,seen')
set_option backward.match.sparseCases true in
noncomputable def zFN(code:Array Nat):Bool:=(match Sre.ops[code.getD 0 0]? with | some .INFO=>true | _=>false) && code.getD 2 0==4
theorem zEi{m:Sre.M}{bad:Nat->Bool}(hb:zAf m.code bad)(h:m.text.toList.all (fun c=>!bad c)=true)(hl:m.lim<=m.text.size)(fuel s:Nat)(seen:Sre.Seen):∃seen',m.admitted fuel s seen= .ok (none,seen'):=by
 induction fuel generalizing s seen with
 | zero=>exact ⟨seen,rfl⟩
 | succ fuel ih=>
  unfold Sre.M.admitted;split
  ·exact ⟨_,rfl⟩
  ·rename_i hs
   have hs':s < m.text.size:=CV (Nat.not_le.mp hs) hl;have hm:m.text.getD s 0∈m.text.toList:=by rw [show m.text.getD s 0=m.text[s] from dif_pos hs']; exact Array.getElem_mem_toList hs'
   obtain ⟨seen',q⟩:=hb _ seen ((Bx _).mp (BV.mp h _ hm));rw [q];exact ih (s + 1) seen'
theorem zJO{m:Sre.M}{bad:Nat->Bool}(hb:zAf m.code bad)(h1:m.hasFirstSet=true)(h:m.text.toList.all (fun c=>!bad c)=true)(hl:m.lim<=m.text.size):∃seen',m.attemptFrom 0 true=Sre.M.say {m with seen:=seen'} false:=by
 obtain ⟨seen',e⟩:=zEi hb h hl (m.lim + 1 - 0) 0 m.seen;refine ⟨seen',?_⟩;unfold Sre.M.attemptFrom;rw [h1,e];rfl
theorem zI7{code text:Array Nat}{groups:Nat}{bad:Nat->Bool}(hb:zAf code bad)(hh:zFN code=true)(h:text.toList.all (fun c=>!bad c)=true):∃m:Sre.M,Sre.forSearch code text groups 0 text.size false=m.say false/\m.frames=[]/\m.outcome=none:=by
 unfold Sre.forSearch;dsimp only;split
 ·exact ⟨_,rfl,rfl,rfl⟩
 ·refine ⟨_,Exists.choose_spec (zJO (bad:=bad) ?h0 ?h1 ?h2 ?h3),?_,?_⟩
  case h0=>exact hb
  case h1=>exact hh
  case h2=>exact h
  case h3=>exact CD _
  all_goals rfl
section
variable{prog:Program}{w:World}{A:Around}{K:Frag}{ρ:List Addr}{σ:Sto}{s:Shared}{E:Value->Shared->Prop}
theorem zM6{m:Sre.M}(h1:m.frames=[])(h2:m.outcome=none):(m.say false).step={m.say false with outcome:=some .failed}:=by
 cases m with | mk=>dsimp only at h1 h2; subst h1 h2; rfl
theorem zKa{m:Sre.M}(h1:m.frames=[])(h2:m.outcome=none){n:Nat}{Q:Sre.M->Shared->Prop}(q:Q {m.say false with outcome:=some .failed} s):wpAny (model prog w) A (reDrive (n + 1) (m.say false)) Q E s:=by
 have e:(m.say false).runFor reTurnSteps={m.say false with outcome:=some .failed}:=by
  unfold reTurnSteps;unfold Sre.M.runFor;rw [show (m.say false).outcome.isSome=false from (congrArg Option.isSome h2:m.outcome.isSome=_),zM6 h1 h2];rfl
 unfold reDrive;dsimp only;rw [e];exact BM q
theorem zNr{Q:PUnit->Shared->Prop}{b:Nat->Bool}{nm:Nat->String}(q:Q ⟨⟩ s)(l:List Nat):wpAny (model prog w) A (forIn l PUnit.unit fun i _=>(do
  if b i then rule (nm i)
  pure (.yield ⟨⟩):Sem (ForInStep PUnit))) Q E s:=by
 induction l with
 | nil=>rw [DI]; exact BM q
 | cons i l ih=>
  rw [CM];refine BK ?_;cases b i with
  | true=>exact BK (D6 (BM ih))
  | false=>exact BM ih
theorem zOv{code text:Array Nat}{groups:Nat}{bad:Nat->Bool}(hb:zAf code bad)(hh:zFN code=true)(h:text.toList.all (fun c=>!bad c)=true){Q:Option Sre.M->Shared->Prop}(q:Q none s):wpAny (model prog w) A (reRunToEnd (Sre.forSearch code text groups 0 text.size false)) Q E s:=by
 obtain ⟨m,e,h1,h2⟩:=zI7 (groups:=groups) hb hh h;rw [e];unfold reRunToEnd;refine BK (zKa h1 h2 (BK ?_));refine C7 (zNr (b:=fun i=>Sre.Seen.has _ i) (nm:=fun i=>Sre.names.getD i "") (Q:=fun _ s'=>s'=s) rfl _) (fun _ s' e=>?_) fun _ _ h=>h;subst e;exact BM q
theorem zCc:Slot "re.Pattern" "search" "re.Pattern.search":=
 .of (owner:="re.Pattern") (n:="search") (by rw [DT,Cv]; kernel_rfl) (by decide +kernel) (by decide +kernel) (by decide +kernel)
  (.inr (by decide +kernel)) (by rw [isSubtype_type]; kernel_rfl)
theorem zGY:entryFor table "re.Pattern.search"=some Builtin.«re.Pattern.search» :=entryFor_of_tree (by kernel_rfl)
theorem zIm(a b:Value):argsOk "re.Pattern.search" ⟨[a,b],[]⟩:=by unfold argsOk; kernel_rfl
theorem zHu:typeOf (.builtin "re.Pattern.search")=pure (.type "method_descriptor"):=by show builtinType _=_; rw [builtinType_eq_fast]; kernel_rfl
theorem zAM:PlainAttrs "re.Pattern":=
 ⟨⟨"object.__getattribute__",by rw [DT,Cv]; kernel_rfl,by decide +kernel⟩,by rw [DT,Cv]; kernel_rfl⟩
noncomputable def zRz(K:Frag)(a:Addr)(bad:Nat->Bool):Prop:=∃fs T ws n,K.lookup a=some ⟨.type "re.Pattern",none,.fields fs,#[]⟩/\reRawNat (fs.getD 6 .none)=0/\fs.getD 5 .none= .ref T/\K.lookup T=some ⟨.type "tuple",none,.seq ws n,#[]⟩/\zFN ((ws.map reRawOf).map (·.toNat))=true/\zAf ((ws.map reRawOf).map (·.toNat)) bad
noncomputable def zK7(pat:Addr->Option (Nat->Bool))(a:Addr)(x:Str)(σ:Sto)(k:V->Sto->Sy):Sy:=liO (pat a) fun bad=>need (x.cps.toList.all (fun c=>!bad c) && decide (x.cps.size < 2 ^ 62)) (k .none σ)
theorem zM9(v:Value):reNamed "re.Pattern.search" "search" ["string","pos","endpos"] 1 [v] []=pure [some v,none,none]:=rfl
theorem yC2{n:Nat}(h:n < 2 ^ 62):min (2 ^ 63 - 1:Int).toNat n=n:=by
 rw [Nat.min_eq_right];have:(2 ^ 63 - 1:Int).toNat=2 ^ 63 - 1:=by decide
 lia
theorem zJy{pat:Addr->Option (Nat->Bool)}(PO:∀a c,pat a=some c->zRz K a c){a:Addr}{x:Str}{t:Tok}(I:Inv K ρ σ s):zC K ρ s (zK7 pat a x σ) (yU prog w A s "re.Pattern.search" [.ref a,.str x t]) VRr:= .li fun code hp=> .need fun hc=> .ret I qA fun Q E q=>by
 refine zF hc fun c2 c3=>?_;obtain ⟨fs,T,ws,n,h1,h2,h3,h4,c1,hb⟩:=PO _ _ hp;have o1:=I.stat _ _ h1;refine Cj zCc ⟨_,o1,rfl⟩ zGY ?_ (zIm _ _);unfold Builtin.«re.Pattern.search» reTarget;dsimp only;refine BK (BK (D3 (zM9 _) ?_));dsimp only;refine BK (BM (BK (BM ?_)));unfold fieldsOf;refine BK (BK (wpAny_load o1 (BM ?_)));refine BK (D3 (show reTextOf (.str x t)=pure (x.cps,0) from rfl) ?_);dsimp only;rw [h2,h3,if_neg (by decide),if_neg (by decide)];refine BK (D3 (show reNoCollectionInside (.str x t) 0=pure () from rfl) (BK ?_));unfold reRawItems;refine BK (EI (I.stat _ _ h4) rfl (BM (BM ?_)));dsimp only;unfold reAnswer;refine BK ?_;rw [show min (Int.toNat 0) x.cps.size=0 from Nat.zero_min _,yC2 (of_decide_eq_true c3)];exact zOv hb c1 c2 (BM ⟨_,rfl,q⟩)
end
end
theorem zIk{k name:Str}{t:Tok}(h:¬k=name):Value.isStr (.str k t) name=false:=beq_eq_false_iff_ne.mpr h
theorem zN6{name:Str}{t:Tok}:Value.isStr (.str name t) name=true:=beq_self_eq_true name
theorem zFk{kv:List (Str×Value)}{es:List DictEntry}(r:zBg kv es):es.any (·.refKey)=false:=by
 induction kv generalizing es with
 | nil=>cases (show es=[] from r); rfl
 | cons p kv ih=>
  obtain ⟨e,es',rfl,⟨t,hk⟩,b,c⟩:=r;rw [List.any_cons,ih c,Bool.or_false];unfold DictEntry.refKey;rw [hk]
theorem zIu{name:Str}{kv:List (Str×Value)}{es:List DictEntry}(r:zBg kv es):getL name es=some (kv.lookup name):=by
 have z:(es.find? (·.key.isStr name)).map (·.val)=kv.lookup name:=by
  induction kv generalizing es with
  | nil=>cases (show es=[] from r); rfl
  | cons p kv ih=>
   obtain ⟨e,es',rfl,⟨t,hk⟩,b,c⟩:=r;show _=Co name ((p.1,p.2)::kv);rw [E9,CX,hk]
   by_cases hn:p.1=name
   ·rw [hn,zN6,beq_self_eq_true]; exact congrArg some b
   ·rw [zIk hn,beq_eq_false_iff_ne.mpr fun z=>hn z.symm]; exact ih c
 unfold getL;rw [zFk r,<-z];cases es.find? (·.key.isStr name) <;>rfl
theorem zRP{name:Str}{hsh:Int}{t:Tok}{x:Value}{kv:List (Str×Value)}{es:List DictEntry}(r:zBg kv es):zBg (xC name x kv) (putL name hsh (.str name t) x es):=by
 induction kv generalizing es with
 | nil=>cases (show es=[] from r); exact ⟨_,_,rfl,⟨t,rfl⟩,rfl,rfl⟩
 | cons p kv ih=>
  obtain ⟨e,es',rfl,⟨t',hk⟩,b,c⟩:=r;show zBg (if eqS p.1 name then (p.1,x)::kv else p::xC name x kv) (if e.key.isStr name then {e with val:=x}::es' else e::putL name hsh (.str name t) x es');rw [hk]
  by_cases hn:p.1=name
  ·rw [(yI p.1 name).mpr hn,show Value.isStr (.str p.1 t') name=true from beq_iff_eq.mpr hn,if_pos rfl,if_pos rfl]
   exact ⟨_,_,rfl,⟨t',rfl⟩,rfl,c⟩
  ·rw [zIk hn,if_neg (fun h=>hn ((yI _ _).mp h)),if_neg Bk]
   exact ⟨e,_,rfl,⟨t',hk⟩,b,ih c⟩
theorem zJp{kv:List (Str×Value)}{es:List DictEntry}(r:zBg kv es):kv.length=es.length:=by
 induction kv generalizing es with
 | nil=>cases (show es=[] from r); rfl
 | cons p kv ih=>obtain ⟨e,es',rfl,_,_,c⟩:=r; exact congrArg (· + 1) (ih c)
theorem zIJ{name:Str}{hsh:Int}{key v:Value}(es:List DictEntry):(putL name hsh key v es).length<=es.length + 1:=by
 induction es with
 | nil=>exact CD _
 | cons e r ih=>
  unfold putL;split
  ·exact EL _
  ·exact Dd ih
noncomputable abbrev zCu:=Addr->Str->Option (Option Addr)
noncomputable def zGW(K:Frag)(C:Addr):Bool:=plainGet K C "" && hasDictIn K C && findIn K (.ref C) "__setattr__"==some (some (.builtin "object.__setattr__")) && plainOver K C
noncomputable def zLY(K:Frag)(C:Addr)(name:Str):Bool:=zGW K C && findIn K (.ref C) name==some none
noncomputable def zUu(K:Frag)(C:Addr)(name:Str)(f:Addr):Bool:=
 zGW K C && findIn K (.ref C) name==some (some (.ref f)) && isFn K (.ref f) && specialIn K (.ref f) "__get__"==some (some (.builtin "function.__get__")) && takesIn K (.ref f)==some false && !copiedNames.contains name
structure ClsOK(K:Frag)(T:zCu):Prop where
 non:∀C name,T C name=some none->zLY K C name=true
 fn:∀C name f,T C name=some (some f)->zUu K C name f=true
structure Inst where
 C:Addr
 d:Nat
 kv:List (Str×V)
noncomputable def zVW(σ:Sto)(i:Nat):Option (List (Str×V)):=match σ[i]? with
 | some ob=>(match ob with | .dict kv=>some kv | _=>none)
 | none=>none
noncomputable def zZL(σ:Sto)(i:Nat):Option (Addr×Nat):=match σ[i]? with
 | some ob=>(match ob with | .inst C d=>some (C,d) | _=>none)
 | none=>none
noncomputable def zBr(u:V)(σ:Sto):Option Inst:=match u with
 | .trk i=>(zZL σ i).bind fun p=>(zVW σ p.2).map fun kv=>⟨p.1,p.2,kv⟩
 | _=>none
noncomputable def zR3(v:V):Option V:=match v with
 | .val _=>none
 | v=>some v
noncomputable def zQH{α β:Type}(o:Option α)(a:β):Option β:=match o with
 | none=>some a
 | some _=>none
noncomputable def zIh(T:zCu)(o:V)(name:Str)(σ:Sto):Option (V×Sto):=(zBr o σ).bind fun z=>(T z.C name).bind fun f=>match f with
 | none=>((lkS z.kv name).bind zR3).map (·,σ)
 | some f=>zQH (lkS z.kv name) (.trk σ.length,σ ++ [.meth f o])
noncomputable def zZR(j:Nat)(σ:Sto)(ob:Ob):Sto:=match ob with
 | .list l=>(match l with | []=>σ.set j (.pls []) | _::_=>σ)
 | _=>σ
noncomputable def plz(v:V)(σ:Sto):Sto:=match v with
 | .trk j=>(match (σ[j]? :Option Ob) with | some ob=>zZR j σ ob | none=>σ)
 | _=>σ
theorem zSG{K:Frag}{ρ:List Addr}{σ:Sto}{s:Shared}(I:Inv K ρ σ s)(v:V):Inv K ρ (plz v σ) s:=by
 cases v with
 | trk j=>
  show Inv K ρ (match (σ[j]? :Option Ob) with | some ob=>zZR j σ ob | none=>σ) s;cases h:(σ[j]? :Option Ob) with
  | none=>exact I
  | some ob=>cases ob with
   | list l=>cases l with
    | nil=>exact kR I h
    | cons=>exact I
   | _=>exact I
 | _=>exact I
noncomputable def zFP(T:zCu)(o:V)(name:Str)(v:V)(σ:Sto):Option Sto:=(zBr o σ).bind fun z=>(T z.C name).bind fun f=>match f with
 | none=>if z.kv.length < 900 then some (plz v (σ.set z.d (.dict (xC name v z.kv)))) else none
 | some _=>none
noncomputable abbrev Mth:=V->Str->Sto->Option (V×List V)
noncomputable def yA6(T:zCu):Mth:=fun o name σ=>(zBr o σ).bind fun z=>(T z.C name).bind fun f=>match f with
 | none=>((lkS z.kv name).bind zR3).map (·,[])
 | some f=>zQH (lkS z.kv name) (.val (.ref f),[o])
structure MthOK(prog:Program)(w:World)(K:Frag)(m:Mth):Prop where
 get:∀u name σ f first,m u name σ=some (f,first)->∀A ρ s x pl,A.units + 65 < cLine->Inv K ρ σ s->VR ρ s.heap u x->∀(Q:Value×List Value->Shared->Prop) (E:Value->Shared->Prop),
  (∀s' y ys,Inv K ρ σ s'->Ext ρ s ρ s'->VR ρ s'.heap f y->VRs ρ s'.heap first ys->Q (y,ys) s')->wpAny (model prog w) A (getMethod x name pl) Q E s
section
variable{prog:Program}{w:World}{A:Around}{K:Frag}{T:zCu}{ρ:List Addr}{σ:Sto}{s:Shared}
theorem zMi{i:Nat}{kv:List (Str×V)}(h:zVW σ i=some kv):σ[i]? =some (.dict kv):=by
 refine obC h fun ob e h=>e.trans (congrArg some ?_);clear e;cases ob with
 | dict kv=>cases h; rfl
 | _=>exact noS h
theorem zTN{i:Nat}{p:Addr×Nat}(h:zZL σ i=some p):σ[i]? =some (.inst p.1 p.2):=by
 refine obC h fun ob e h=>e.trans (congrArg some ?_);clear e;cases ob with
 | inst=>cases h; rfl
 | _=>exact noS h
structure InstR(K:Frag)(ρ:List Addr)(s:Shared)(z:Inst)(x:Value)(a dx:Addr)(es:List DictEntry)(n:Nat)(xs:List Value):Prop where
 x:x= .ref a
 d:ρ[z.d]? =some dx
 o:InstAt s.heap a (instObj z.C dx) z.C (some (dictOf es n))
 e:zBg ((zG z.kv).zip xs) es
 r:VRs ρ s.heap (zU z.kv) xs
theorem zSy(I:Inv K ρ σ s){u:V}{z:Inst}(h:zBr u σ=some z){x:Value}(rx:VR ρ s.heap u x):∃a dx es n xs,InstR K ρ s z x a dx es n xs:=by
 cases u with
 | trk i=>
  refine zJ h fun p h1 h=>?_;refine yJ h fun kv h2 e__=>?_;cases e__;refine kM rx fun a ha e__=>?_;cases e__;obtain ⟨o,ys,ho,rs,dx,rfl,rfl⟩:=I.obs _ a _ ha (zTN h1);refine zNi rs fun _ e rd=>?_;cases e;refine kM rd fun _ hd e=>?_;cases e;obtain ⟨o,xs,ho',rs,es,n,hes,rfl⟩:=I.obs _ dx _ hd (zMi h2);exact ⟨a,dx,es,n,xs,rfl,hd,⟨ho,rfl,rfl,ho'⟩,hes,rs⟩
 | _=>exact noS h
theorem zKU(I:Inv K ρ σ s){u:V}{z:Inst}(h:zBr u σ=some z){x:Value}(rx:VR ρ s.heap u x){G:Prop}(g:∀a dx es n xs,InstR K ρ s z x a dx es n xs->G):G:=by
 obtain ⟨a,b,c,d,e,f⟩:=zSy I h rx;exact g a b c d e f
theorem zMj{h:Heap}{v u:V}(e:zR3 v=some u){x:Value}(r:VR ρ h v x):v=u/\handedIn x=true:=by
 cases v with
 | none=>cases e; cases vrN r; exact ⟨rfl,rfl⟩
 | bool=>cases e; cases vrB r; exact ⟨rfl,rfl⟩
 | int=>cases e; obtain ⟨t,rfl⟩:=vrI r; exact ⟨rfl,rfl⟩
 | str=>cases e; obtain ⟨t,rfl⟩:=vrS r; exact ⟨rfl,rfl⟩
 | tup=>cases e; obtain ⟨a,_,_,rfl,_⟩:=zK1 r; exact ⟨rfl,rfl⟩
 | lst=>cases e; obtain ⟨a,_,_,rfl,_⟩:=zIT r; exact ⟨rfl,rfl⟩
 | trk=>cases e; obtain ⟨a,_,rfl⟩:=vrT r; exact ⟨rfl,rfl⟩
 | val=>exact noS e
 | rng=>cases e; obtain ⟨a,_,_,_,rfl,_⟩:=r; exact ⟨rfl,rfl⟩
 | il=>cases e; obtain ⟨a,_,_,rfl,_⟩:=zQv r; exact ⟨rfl,rfl⟩
theorem zDO{α β:Type}{o:Option α}{a b:β}(h:zQH o a=some b):o=none/\a=b:=by
 cases o with
 | none=>cases h; exact ⟨rfl,rfl⟩
 | some=>exact noS h
structure NoneOf(K:Frag)(C:Addr)(name:Str):Prop where
 get:findIn K (.ref C) "__getattribute__"=some (some (.builtin "object.__getattribute__"))
 get2:findIn K (.ref C) "__getattr__"=some none
 dict:hasDictIn K C=true
 set:findIn K (.ref C) "__setattr__"=some (some (.builtin "object.__setattr__"))
 over:plainOver K C=true
theorem base_of'{C:Addr}{name:Str}(h:zGW K C=true):NoneOf K C name:=by
 refine zF h fun h h4=>?_;refine zF h fun h h3=>?_;refine zF h fun h1 h2=>?_;exact ⟨(plainGet_of h1).1,(plainGet_of h1).2,h2,Bo h3,h4⟩
theorem zGH(TO:ClsOK K T){C:Addr}{name:Str}(h:T C name=some none):NoneOf K C name/\findIn K (.ref C) name=some none:=by
 refine zF (TO.non _ _ h) fun h1 h2=>?_;exact ⟨base_of' h1,Bo h2⟩
structure FnOf(K:Frag)(C:Addr)(name:Str)(f:Addr):Prop extends NoneOf K C name where
 find:findIn K (.ref C) name=some (some (.ref f))
 ty:typeIn K (.ref f)=some (.type "function")
 sp:specialIn K (.ref f) "__get__"=some (some (.builtin "function.__get__"))
 tk:takesIn K (.ref f)=some false
 cp:copiedNames.contains name=false
theorem zUv(TO:ClsOK K T){C f:Addr}{name:Str}(h:T C name=some (some f)):FnOf K C name f:=by
 refine zF (TO.fn _ _ _ h) fun h h6=>?_;refine zF h fun h h5=>?_;refine zF h fun h h4=>?_;refine zF h fun h h3=>?_;refine zF h fun h1 h2=>?_;exact ⟨base_of' h1,Bo h2,Bo h3,Bo h4,Bo h5,(Bx _).mp h6⟩
theorem zTM{kv:List (Str×V)}{xs:List Value}{es:List DictEntry}{name:Str}{v:V}{h:Heap}(hv:lkS kv name=some v)(e:zBg ((zG kv).zip xs) es)(r:VRs ρ h (zU kv) xs):∃y,getL name es=some (some y)/\VR ρ h v y:=by
 have z:=zCL r name;rw [<-wM,hv] at z;rw [zIu e];cases hq:((zG kv).zip xs).lookup name with
 | none=>rw [hq] at z; exact z.elim
 | some y=>rw [hq] at z; exact ⟨y,rfl,z⟩
theorem zHN{kv:List (Str×V)}{xs:List Value}{es:List DictEntry}{name:Str}{h:Heap}(hv:lkS kv name=none)(e:zBg ((zG kv).zip xs) es)(r:VRs ρ h (zU kv) xs):getL name es=some none:=by
 have z:=zCL r name;rw [<-wM,hv] at z;rw [zIu e];cases hq:((zG kv).zip xs).lookup name with
 | none=>rfl
 | some y=>rw [hq] at z; exact z.elim
theorem zKV(TO:ClsOK K T)(I:Inv K ρ σ s){z:Inst}{x:Value}{a dx:Addr}{es:List DictEntry}{n:Nat}{xs:List Value}(R:InstR K ρ s z x a dx es n xs){name:Str}(ht:T z.C name=some none){v:V}(hv:(lkS z.kv name).bind zR3=some v){expr:Bool}{Q:Value->Shared->Prop}{E:Value->Shared->Prop}
  (k:∀y,VR ρ s.heap v y->Q y {s with toks:=s.toks + 1}):wpAny (model prog w) A (getAttr (.ref a) name expr) Q E s:=by
 obtain ⟨N,hn⟩:=zGH TO ht;refine zJ hv fun u hu hv=>?_;obtain ⟨y,l2,ry⟩:=zTM hu R.e R.r;obtain ⟨e1,e2⟩:=zMj hv ry;exact get_value I.kin R.o N.get (findObj_own N.dict hn rfl (by rw [lookIn_dict,l2])) e2 (k y (e1▸ry))
theorem zD6(TO:ClsOK K T){o:V}{name:Str}(I:Inv K ρ σ s){x:Value}(rx:VR ρ s.heap o x){expr:Bool}:Out K ρ s (zIh T o name σ) (W prog w A s (getAttr x name expr)):= .bind fun z hz=> .bind fun f ht=>by
 refine zKU I hz rx fun a dx es n xs R=>?_;cases R.x;intro v AA h Q E q;cases f with
 | none=>
  refine yJ h fun u hu h=>?_;cases h;exact zKV TO I R ht hu fun y ry=>q _ _ _ (I.toks _) ((Ext.refl _ _).toks _) ry
 | some f=>
  obtain ⟨hu,h⟩:=zDO h;cases h;have N:=zUv TO ht;refine get_bind I.kin R.o N.get (findObj_fn N.dict N.find N.sp N.tk N.cp (by rw [lookIn_dict,zHN hu R.e R.r])) N.get2 ?_;refine wpAny_call (fn_get (s:={s with toks:=s.toks + 1}) I.kin N.ty (handed_on rfl ?_));have kp:Kp true ρ (ρ ++ [s.heap.objs.size]) s.heap (s.heap.push (methodObj (.ref f) (.ref a))):=fun b o nb e _=>⟨By _ e,fun m=>(BR.mp m).elim nb fun m=>by cases BP.mp m; exact noS ((qK s.heap).symm.trans e)⟩;have x:=I.alloc (o:=methodObj (.ref f) (.ref a)) (ob:= .meth f o) (s.toks + 1) ⟨_,[.ref a],Bf _ rfl,VRs.one (rx.mono (xF _ _) kp),_,rfl,rfl⟩;exact q _ _ _ x.1 x.2 ⟨_,I.last _,rfl⟩
theorem zTI(TO:ClsOK K T):MthOK prog w K (yA6 T):=⟨fun o name σ f first h A ρ s x pl hu I rx Q E q=>by
 refine zJ h fun z hz h=>?_;refine zJ h fun g ht h=>?_;refine zKU I hz rx fun a dx es n xs R=>?_;cases R.x;cases g with
 | none=>
  refine yJ h fun u hu h=>?_;cases h;obtain ⟨N,hn⟩:=zGH TO ht;exact method_usual I.kin R.o N.get N.get2 hn rfl (zKV TO I R ht hu fun y ry=>q _ _ _ (I.toks _) ((Ext.refl _ _).toks _) ry vrs_nil')
 | some g=>
  obtain ⟨hu,h⟩:=zDO h;cases h;have N:=zUv TO ht;exact method_fn I.kin R.o N.get N.get2 N.find N.ty (by show (lookIn name (dictOf es n)).map _=_; rw [lookIn_dict,zHN hu R.e R.r]; rfl) (q _ _ _ I (.refl _ _) kG (VRs.one rx))⟩
theorem zAq(TO:ClsOK K T){o v:V}{name:Str}(I:Inv K ρ σ s){x y:Value}(rx:VR ρ s.heap o x)(ry:VR ρ s.heap v y):Upd K ρ s (zFP T o name v σ) (W prog w A s (setAttr x name y)):=fun AA h Q E q=>by
 refine zJ h fun z hz h=>?_;refine zJ h fun f ht h=>?_;refine zKU I hz rx fun a dx es n xs R=>?_;cases R.x;cases f with
 | some f=>exact noS h
 | none=>
  obtain ⟨N,hn⟩:=zGH TO ht;have h:(if z.kv.length < 900 then some (plz v (σ.set z.d (.dict (xC name v z.kv)))) else none)=some AA:=h;split at h
  ·rename_i hlt
   cases h;refine set_plain I.kin R.o N.set ?_;refine osa_open (s:={s with toks:=s.toks + 1}) I.kin R.o N.over (show takerIn K z.C name=some none by unfold takerIn; rw [hn]; rfl) fun b=>?_;obtain ⟨cd,hc,hd'⟩:=any_some N.dict;refine BK (BM (BK (BK (wpAny_loadPart (s:={s with toks:=s.toks + 1}) R.o.1 (BK ((looks_clsIn (I.toks (s.toks + 1)).kin hc).here (s:={s with toks:=s.toks + 1}) ?_))))));rw [hd'];refine BM (a:=some dx) (BK (BM (BK ?_)));unfold nsSet;refine BK (BK (wpAny_askSetting (BM (BK (wpAny_mkText (BK (wpAny_loadPart (s:={s with toks:=s.toks + 1 + 1}) R.o.4 ?_)))))));dsimp only;have c:(!es.toArray.any (·.key.isStr name) && es.toArray.any (·.refKey))=false:=by rw [<-Array.any_toList,<-Array.any_toList,zFk R.e,Bool.and_false]
   rw [aRefKeyMayBeTheName_at,c];have hb:=(DF s.heap dx (Obj.putName name (DH w.params name) (.str name (s.toks + 1)) y)).extBut;have hg:(s.heap.update dx (Obj.putName name (DH w.params name) (.str name (s.toks + 1)) y)).get? dx=some (dictOf (putL name (DH w.params name) (.str name (s.toks + 1)) y es) (putN name es n)):=
    (CZ _ R.o.4 (by rw [putName_dict]; rfl)).trans (by rw [putName_dict])
   have e1:=zJp R.e;have e2:=zIJ (name:=name) (hsh:=DH w.params name) (key:= .str name (s.toks + 1)) (v:=y) es;have kp:Kp true ρ ρ s.heap (s.heap.update dx (Obj.putName name (DH w.params name) (.str name (s.toks + 1)) y)):=fun b o nb e _=>⟨hb b o (fun z=>nb (z▸BZ R.d)) e,nb⟩;obtain ⟨xs',h1,h2⟩:=zKQ (R.r.mono (fun _ _ e=>e) kp) name (ry.mono (fun _ _ e=>e) kp);have u:=I.upd (ob:= .dict (xC name v z.kv)) R.d hb (s.toks + 1 + 1) ⟨_,xs',hg,h1,_,_,by rw [h2]; exact zRP R.e,rfl⟩;refine wpAny_updatePart (s:={s with toks:=s.toks + 1 + 1}) R.o.4 (BK (wpAny_lookBehind hg (pastItsLine_dict ?_) (BM (q _ (zSG u.1 v) u.2))));rw [List.length_zip] at e1;have e3:(zG z.kv).length=z.kv.length:=by induction z.kv with | nil=>rfl | cons p l ih=>exact congrArg (· + 1) ih
   have e4:xs.length=z.kv.length:=by
    rw [<-R.r.length]; induction z.kv with | nil=>rfl | cons p l ih=>exact congrArg (· + 1) ih
   rw [DW,sizeLine_eq]; lia
  ·exact noS h
end
section
open Builtin Builtin.Str
noncomputable def zTq(T:String):List (Str×String)->Prop
 | []=>True
 | p::r=>(Slot T p.1 p.2/\typeOf (.builtin p.2)=pure (.type "method_descriptor"))/\zTq T r
theorem zLK{T:String}{l:List (Str×String)}(h:zTq T l){x:Str}{id:String}(e:lkS l x=some id):Slot T x id/\typeOf (.builtin id)=pure (.type "method_descriptor"):=by
 induction l with
 | nil=>exact noS e
 | cons p l ih=>
  have e:(match eqS x p.1 with | true=>some p.2 | false=>lkS l x)=some id:=e;cases hq:eqS x p.1 with
  | true=>rw [hq] at e; cases e; rw [(yI _ _).mp hq]; exact h.1
  | false=>rw [hq] at e; exact ih h.2 e
noncomputable def zPB:List (Str×String):=[(BN "lower","str.lower"),(BN "upper","str.upper"),(BN "join","str.join"),(BN "split","str.split"),(BN "count","str.count"),(BN "index","str.index")]
noncomputable def zQp:List (Str×String):=[(BN "append","list.append"),(BN "pop","list.pop"),(BN "sort","list.sort"),(BN "reverse","list.reverse")]
theorem zMT:zTq "str" zPB:=⟨⟨F.slot_str_lower,F.type_str_lower⟩,⟨F.slot_str_upper,F.type_str_upper⟩,⟨F.slot_str_join,F.type_str_join⟩,⟨F.slot_str_split,F.type_str_split⟩,⟨F.slot_str_count,F.type_str_count⟩,⟨F.slot_str_index,F.type_str_index⟩,trivial⟩
theorem zNw:zTq "list" zQp:=⟨⟨F.slot_list_append,F.type_list_append⟩,⟨F.slot_list_pop,F.type_list_pop⟩,⟨F.slot_list_sort,F.type_list_sort⟩,⟨F.slot_list_reverse,F.type_list_reverse⟩,trivial⟩
noncomputable def yCf(u:V)(name:Str)(σ:Sto):Option (V×List V):=(zR u σ).bind fun _=>(lkS zQp name).map fun id=>(.val (.builtin id),[u])
noncomputable def zZl:Mth:=fun u name σ=>match u with
 | .str x=>(lkS zPB name).map fun id=>(.val (.builtin id),[.str x])
 | u=>yCf u name σ
theorem zTF{prog:Program}{w:World}{K:Frag}:MthOK prog w K zZl:=⟨fun u name σ f first h A ρ s x pl hu I rx Q E q=>by
 have gen:yCf u name σ=some (f,first)->wpAny (model prog w) A (getMethod x name pl) Q E s:=fun h=>by
  refine zJ h fun l hl h=>?_;refine yJ h fun id hid e=>?_;cases e;obtain ⟨h1,h2⟩:=zLK zNw hid;refine wG I hl rx fun a items n e__ ho rs=>?_;cases e__;exact Dq ⟨_,ho,rfl⟩ F.plainAttrs_list h1 h2 (fun b e=>by cases e; exact ⟨_,ho,rfl⟩) (q s _ _ I (.refl _ _) kG (VRs.one rx))
 cases u with
 | str y=>
  refine yJ h fun id hid e=>?_;cases e;obtain ⟨h1,h2⟩:=zLK zMT hid;obtain ⟨t,rfl⟩:=vrS rx;exact Dq (DP s y t) F.plainAttrs_str h1 h2 (fun a e=>nomatch e) (q s _ _ I (.refl _ _) kG (VRs.one yL))
 | _=>exact gen h⟩
structure Tabs where
 sget:Addr->Str->Option (Option V)
 iget:Addr->Int->Option (Option V)
 sset:Addr->Int->Option Bool
 isD:Addr->Bool
 pat:Addr->Option (Nat->Bool)
structure TabsOK(prog:Program)(w:World)(K:Frag)(D:Tabs):Prop where
 sg:∀a k r,D.sget a k=some r->(a==sysModules)=false/\∀h,K.In h->∃f,h.MapOf (strKind prog w) a f/\∀ρ h',OR ρ h' r (f k)
 ig:∀a k r,D.iget a k=some r->(a==sysModules)=false/\∀h,K.In h->∃f,h.MapOf (intKind prog w) a f/\∀ρ h',OR ρ h' r (f k)
 ss:∀a k b,D.sset a k=some b->∀h,K.In h->∃S n,h.SetOf (intKind prog w) a S n/\S k=b
 dd:∀a,D.isD a=true->∃es n,K.lookup a=some ⟨.type "dict",none,.dict es n,#[]⟩
 pp:∀a c,D.pat a=some c->zRz K a c
noncomputable def zTB(u:V):Option Addr:=match u with
 | .val v=>(match v with | .ref a=>some a | _=>none)
 | _=>none
noncomputable def zUK(D:Tabs)(u k d:V):Option V:=(zTB u).bind fun a=>match k with
 | .str k=>(D.sget a k).map fun r=>r.getD d
 | .int k=>(D.iget a k).map fun r=>r.getD d
 | _=>none
noncomputable def zW9(D:Tabs)(a b:V):Option Bool:=(zTB b).bind fun d=>match a with
 | .str k=>(D.sget d k).map (·.isSome)
 | .int k=>D.sset d k
 | _=>none
noncomputable def emD(σ:Sto)(i:Nat):Option Unit:=(zVW σ i).bind fun kv=>match kv with
 | []=>some ()
 | _::_=>none
noncomputable def zQj(i:Nat)(σ:Sto):Option (V×Sto):=(emD σ i).map fun _=>(.trk σ.length,σ ++ [.itms i])
noncomputable def yBu(D:Tabs):Mth:=fun o name σ=>match o with
 | .val v=>(match v with
  | .ref a=>if D.isD a && eqS name ("get":Str) then some (.val (.builtin "dict.get"),[.val (.ref a)]) else if (D.pat a).isSome && eqS name ("search":Str) then some (.val (.builtin "re.Pattern.search"),[.val (.ref a)]) else none
  | _=>none)
 | .trk i=>if eqS name ("items":Str) then (emD σ i).map fun _=>(.val (.builtin "dict.items"),[.trk i]) else none
 | _=>none
section
variable{prog:Program}{w:World}{A:Around}{K:Frag}{D:Tabs}{ρ:List Addr}{σ:Sto}{s:Shared}{x y z:Value}
theorem zDB{h:Heap}{u:V}{a:Addr}(e:zTB u=some a)(r:VR ρ h u x):x= .ref a:=by
 cases u with
 | val v=>cases v with
  | ref=>cases e; exact r
  | _=>exact noS e
 | _=>exact noS e
theorem zQZ{i:Nat}{u:Unit}(h:emD σ i=some u):σ[i]? =some (.dict []):=by
 refine zJ h fun kv h1 h=>?_;cases kv with
 | nil=>exact zMi h1
 | cons=>exact noS h
theorem zCX(k:Str)(t:Tok):(strKind prog w).is k (.str k t)=true:=by
 show Value.isStrOf k (.str k t)=true;exact beq_self_eq_true k
theorem zLv{h:Heap}{r:Option V}{o:Option Value}(z:OR ρ h r o){d:V}{y:Value}(rd:VR ρ h d y):VR ρ h (r.getD d) (o.getD y):=by
 cases r with
 | none=>cases o with
  | none=>exact rd
  | some=>exact z.elim
 | some=>cases o with
  | none=>exact z.elim
  | some=>exact z
theorem zTE{h:Heap}{r:Option V}{o:Option Value}(z:OR ρ h r o):r.isSome=o.isSome:=by
 cases r with
 | none=>cases o with
  | none=>rfl
  | some=>exact z.elim
 | some=>cases o with
  | none=>exact z.elim
  | some=>rfl
theorem zMo(DO:TabsOK prog w K D){u v:V}(I:Inv K ρ σ s)(r:VR ρ s.heap u x)(r':VR ρ s.heap v y):Out K ρ s ((zUK D u v .none).map (·,σ)) (yU prog w A s "dict.get" [x,y]):=by
 intro v' AA hh Q E q;refine yJ hh fun u' h e=>?_;cases e;refine zJ h fun a ha h=>?_;cases zDB ha r;cases v with
 | str k=>
  obtain ⟨t,rfl⟩:=vrS r';refine yJ h fun p hr e__=>?_;cases e__;obtain ⟨h1,h2⟩:=DO.sg _ _ _ hr;obtain ⟨f,hm,ho⟩:=h2 _ I.kin;exact call_meetsIn F.slot_dict_get hm.typeIs F.entry_dict_get (F.args_dict_get_2 _ _) (meets_dict_get (strKind prog w) a (zCX k t) h1) ⟨f,hm,q _ _ _ (I.toks _) ((Ext.refl _ _).toks _) (zLv (ho ρ s.heap) qA)⟩
 | int k=>
  obtain ⟨t,rfl⟩:=vrI r';refine yJ h fun p hr e__=>?_;cases e__;obtain ⟨h1,h2⟩:=DO.ig _ _ _ hr;obtain ⟨f,hm,ho⟩:=h2 _ I.kin;exact call_meetsIn F.slot_dict_get hm.typeIs F.entry_dict_get (F.args_dict_get_2 _ _) (meets_dict_get (intKind prog w) a (intKind_is prog w k t) h1) ⟨f,hm,q _ _ _ (I.toks _) ((Ext.refl _ _).toks _) (zLv (ho ρ s.heap) qA)⟩
 | _=>exact noS h
theorem yCt(DO:TabsOK prog w K D):OpsOK prog w K ⟨zW9 D,fun _ _=>none⟩ where
 inn:=fun a b c h A ρ σ s x y hu I ra rb=>by
  refine zJ h fun d hd h=>?_;cases zDB hd rb;cases a with
  | str k=>
   refine yJ h fun r hr e=>?_;obtain ⟨t,rfl⟩:=vrS ra;obtain ⟨h1,h2⟩:=DO.sg _ _ _ hr;obtain ⟨f,hm,ho⟩:=h2 _ I.kin;have e':(f k).isSome=c:=(zTE (ho ρ s.heap)).symm.trans e;subst e';exact ⟨fun Q E q=>wpAny_in_of (zCX k t) h1 hm (q _),fun Q E q=>wpAny_notIn_of (zCX k t) h1 hm (q _)⟩
  | int k=>
   obtain ⟨t,rfl⟩:=vrI ra;obtain ⟨S,n,hS,e⟩:=DO.ss _ _ _ h _ I.kin;subst e;exact ⟨fun Q E q=>wpAny_inSet_of (intKind_is prog w k t) rfl hS (q _),fun Q E q=>wpAny_notInSet_of (intKind_is prog w k t) rfl hS (q _)⟩
  | _=>exact noS h
 lt:=fun a b c h=>noS h
theorem zTj(DO:TabsOK prog w K D):MthOK prog w K (yBu D):=⟨fun o name σ f first h A ρ s x pl hu I rx Q E q=>by
 cases o with
 | val v=>cases v with
  | ref a=>
   cases vrV rx;have h:(if D.isD a && eqS name ("get":Str) then some (V.val (.builtin "dict.get"),[V.val (.ref a)]) else if (D.pat a).isSome && eqS name ("search":Str) then some (.val (.builtin "re.Pattern.search"),[.val (.ref a)]) else none)=some (f,first):=h;cases hc:D.isD a && eqS name ("get":Str) with
   | true=>
    rw [hc] at h; cases h;refine zF hc fun hd hn=>?_;obtain rfl:=(yI _ _).mp hn;obtain ⟨es,n,ho⟩:=DO.dd _ hd;have ho:=I.stat _ _ ho;exact Dq ⟨_,ho,rfl⟩ F.plainAttrs_dict F.slot_dict_get F.type_dict_get (fun b e=>by cases e; exact ⟨_,ho,rfl⟩) (q s _ _ I (.refl _ _) kG (VRs.one kG))
   | false=>
    rw [hc] at h;cases hc:(D.pat a).isSome && eqS name ("search":Str) with
    | true=>
     rw [hc] at h; cases h;refine zF hc fun hd hn=>?_;obtain rfl:=(yI _ _).mp hn;obtain ⟨c,hc⟩:=CW.mp hd;obtain ⟨fs,T,ws,n,h1,_⟩:=DO.pp _ _ hc;have ho:=I.stat _ _ h1;exact Dq ⟨_,ho,rfl⟩ zAM zCc zHu (fun b e=>by cases e; exact ⟨_,ho,rfl⟩) (q s _ _ I (.refl _ _) kG (VRs.one kG))
    | false=>rw [hc] at h; exact noS h
  | _=>exact noS h
 | trk i=>
  have h:(if eqS name ("items":Str) then (emD σ i).map fun _=>(V.val (.builtin "dict.items"),[V.trk i]) else none)=some (f,first):=h;cases hc:eqS name ("items":Str) with
  | true=>
   rw [hc] at h;refine yJ h fun u hi e=>?_;cases e;obtain rfl:=(yI _ _).mp hc;refine kM rx fun a ha e__=>?_;cases e__;obtain ⟨o,xs,ho,rs,es,n,he,rfl⟩:=I.obs _ a _ ha (zQZ hi);exact Dq ⟨_,ho,rfl⟩ F.plainAttrs_dict F.slot_dict_items F.type_dict_items (fun b e=>by cases e; exact ⟨_,ho,rfl⟩) (q s _ _ I (.refl _ _) kG (VRs.one rx))
  | false=>rw [hc] at h; exact noS h
 | _=>exact noS h⟩
noncomputable def zPo(a b:Mth):Mth:=fun u n σ=>match a u n σ with
 | some r=>some r
 | none=>b u n σ
theorem zIZ{a b:Mth}(ha:MthOK prog w K a)(hb:MthOK prog w K b):MthOK prog w K (zPo a b):=⟨fun u name σ f first h=>by
 have h:(match a u name σ with | some r=>some r | none=>b u name σ)=some (f,first):=h;cases hr:a u name σ with
 | some r=>rw [hr] at h; cases h; exact ha.get _ _ _ _ _ hr
 | none=>rw [hr] at h; exact hb.get _ _ _ _ _ h⟩
end
theorem qY:Slot "callable_iterator" "__next__" "callable_iterator.__next__":=
 .of (owner:="callable_iterator") (n:="__next__") (by rw [DT,Cv]; kernel_rfl) (by decide +kernel) (by decide +kernel) (by decide +kernel)
  (.inl (by decide +kernel)) (by rw [isSubtype_type]; kernel_rfl)
theorem zAx:entryFor table "callable_iterator.__next__"=some Builtin.«callable_iterator.__next__» :=entryFor_of_tree (by kernel_rfl)
theorem zAX(a:Value):argsOk "callable_iterator.__next__" ⟨[a],[]⟩:=by unfold argsOk; kernel_rfl
theorem zA6:Slot "callable_iterator" "__iter__" "callable_iterator.__iter__":=
 .of (owner:="callable_iterator") (n:="__iter__") (by rw [DT,Cv]; kernel_rfl) (by decide +kernel) (by decide +kernel) (by decide +kernel)
  (.inl (by decide +kernel)) (by rw [isSubtype_type]; kernel_rfl)
theorem zEj:entryFor table "callable_iterator.__iter__"=some Builtin.«dict_keyiterator.__iter__» :=
 entryFor_alias (id':="dict_keyiterator.__iter__") (by kernel_rfl) (by first | rfl | decide +kernel | (unfold String.splitOn; simp +decide [String.splitOnAux])) (by decide +kernel) (by kernel_rfl)
theorem zGS(a:Value):argsOk "callable_iterator.__iter__" ⟨[a],[]⟩:=by unfold argsOk; kernel_rfl
theorem zMZ:builtinKind "iter"=none:=by decide +kernel
theorem zJD:plainId "iter"=true:=by decide +kernel
theorem zKo(a b:Value):argsOk "iter" ⟨[a,b],[]⟩:=by unfold argsOk; kernel_rfl
theorem zBE:∃v,typeLookup (.type "method") "__call__"=pure (some v):=⟨.builtin "method.__call__",by rw [DT,Cv]; kernel_rfl⟩
noncomputable def zNj(σ:Sto)(i:Nat):Option (Addr×V):=match σ[i]? with
 | some ob=>(match ob with | .meth g u=>some (g,u) | _=>none)
 | none=>none
theorem zLT{σ:Sto}{i:Nat}{p:Addr×V}(h:zNj σ i=some p):σ[i]? =some (.meth p.1 p.2):=by
 refine obC h fun ob e h=>e.trans (congrArg some ?_);clear e;cases ob with
 | meth=>cases h; rfl
 | _=>exact noS h
noncomputable def zUV(kf:Addr->Bool)(u v:V)(σ:Sto):Option (V×Sto):=match u with
 | .trk i=>(match v with
  | .str q=>(zNj σ i).bind fun p=>if kf p.1 then some (.trk σ.length,σ ++ [.citer (.trk i) (.str q) true]) else none
  | _=>none)
 | _=>none
noncomputable def zUJ(u:V)(σ:Sto):Option (V×Sto):=(zR u σ).map fun _=>(.trk (σ.length + 1),σ ++ [.liter u 0,.enum σ.length 0])
section
variable{prog:Program}{w:World}{A:Around}{K:Frag}{ρ:List Addr}{σ:Sto}{s:Shared}{x y:Value}
theorem zSP{o:Obj}:Kp true ρ (ρ ++ [s.heap.objs.size]) s.heap (s.heap.push o):=fun b o nb e _=>⟨By _ e,fun m=>(BR.mp m).elim nb fun m=>by cases BP.mp m; exact noS ((qK s.heap).symm.trans e)⟩
theorem zQi{kf:Addr->Bool}{u v:V}(I:Inv K ρ σ s)(ru:VR ρ s.heap u x)(rv:VR ρ s.heap v y):Out K ρ s (zUV kf u v σ) (yU prog w A s "iter" [x,y]):=by
 cases u with
 | trk i=>cases v with
  | str q=>
   refine .bind fun p hp=> .only fun _=>?_;refine kM ru fun a ha e__=>?_;cases e__;obtain ⟨t,rfl⟩:=vrS rv;obtain ⟨o,xs,ho,rs,z,rfl,rfl⟩:=I.obs _ a _ ha (zLT hp);obtain ⟨vv,hv⟩:=zBE;have y:=I.alloc (o:={cls:= .type "callable_iterator",data:= .fields #[.ref a,.str q t,.bool false]}) (ob:= .citer (.trk i) (.str q) true) s.toks ⟨_,[.ref a,.str q t],Bf _ rfl,⟨_,_,rfl,ru.mono (xF _ _) zSP,VRs.one yL⟩,_,_,rfl,rfl⟩;refine .some y ⟨_,I.last _,rfl⟩ fun Q E q=>call_function_entry zMZ zJD kdk_entry_iter (zKo _ _) ?_;unfold Builtin.«iter»;refine BK (m:=someArgs "iter" 1 2 _) (D3 (a:=[Value.ref a,_]) (by first | rfl | kernel_rfl!) ?_);dsimp only;refine BK (wpAny_specialOf (T:="method") ⟨_,ho,rfl⟩ hv ?_);rw [if_neg (show ¬(some vv).isNone=true from Bk)];exact BK (D6 (BK (EK (BM ⟨_,rfl,q⟩) (by size_fits))))
  | _=>exact .none
 | _=>exact .none
theorem zMn{α:Type}{l:List α}{x y b:α}{i:Nat}(e:(l ++ [x,y])[i]? =some b):l[i]? =some b\/(i=l.length/\x=b)\/i=l.length + 1/\y=b:=by
 rcases Dc i l.length with h | h
 ·exact .inl ((Bz h).symm.trans e)
 ·rw [CC h] at e
  obtain ⟨k,rfl⟩:=Nat.exists_eq_add_of_le h;rw [Nat.add_sub_cancel_left] at e;cases k with
  | zero=>exact .inr (.inl ⟨rfl,CR e⟩)
  | succ k=>cases k with
   | zero=>exact .inr (.inr ⟨rfl,CR e⟩)
   | succ k=>exact noS e
theorem zGD{α:Type}(l:List α)(x y:α):(l ++ [x,y])[l.length]? =some x:=by rw [CC (CD _),DC]; rfl
theorem zGE{α:Type}(l:List α)(x y:α):(l ++ [x,y])[l.length + 1]? =some y:=by rw [CC (C6 _ 1),Nat.add_sub_cancel_left]; rfl
theorem Inv.two{s':Shared}{o1 o2:Ob}{a1 a2:Addr}{AA:Sto}(I:Inv K ρ σ s)(hl:AA.length=σ.length)(hne:a1≠a2)(n1:s.heap.get? a1=none)(n2:s.heap.get? a2=none)(keep:∀b o,b ∉ ρ->s.heap.get? b=some o->s'.heap.get? b=some o)
  (old:∀(i:Nat) (a:Addr) (ob:Ob),ρ[i]? =some a->AA[i]? =some ob->(σ[i]? =some ob/\∀o,s.heap.get? a=some o->s'.heap.get? a=some o)\/ObR (ρ ++ [a1,a2]) s'.heap a ob) (r1:ObR (ρ ++ [a1,a2]) s'.heap a1 o1) (r2:ObR (ρ ++ [a1,a2]) s'.heap a2 o2) (hg:s'.gens=s.gens) (ho:s'.os=s.os):
  Inv K (ρ ++ [a1,a2]) (AA ++ [o1,o2]) s'/\Ext ρ s (ρ ++ [a1,a2]) s':=by
 have e:=I.len.trans hl.symm;refine I.gen (by rw [BY,<-e]; rfl) (CG.mpr ⟨fun m=>hne (BP.mp m),Dg _ _⟩) (fun b hb=>(Bl.mp hb).elim (fun e=>e▸n1) fun m=>BP.mp m▸n2) keep (fun i a ob e1 e2=>?_) hg ho;rcases zMn e2 with h | ⟨rfl,rfl⟩ | ⟨rfl,rfl⟩
 ·have hi:i < ρ.length:=e▸zQ h
  rw [Bz hi] at e1;exact old i a ob e1 h
 ·rw [<-e,zGD] at e1; cases e1; exact .inr r1
 ·rw [<-e,zGE] at e1; cases e1; exact .inr r2
theorem zRm{u:V}(I:Inv K ρ σ s)(r:VR ρ s.heap u x):Out K ρ s (zUJ u σ) (W prog w A s (call (.type "enumerate") [x])):=by
 intro v AA h Q E q;refine yJ h fun l hl e=>?_;cases e;refine wG I hl r fun a items n e__ ho r2=>?_;cases e__;refine call_enumerate_list ⟨_,ho,rfl,n,rfl⟩ fun h' he hit hsz hk=>?_;have kp:Kp true ρ (ρ ++ [s.heap.objs.size,s.heap.objs.size + 1]) s.heap h':=fun b o nb e _=>⟨hk b o e,fun m=>(BR.mp m).elim nb fun m=>(Bl.mp m).elim (fun z=>Dz _ (z▸Dt e)) fun m=>absurd (Dt e) (Dj.mpr (BP.mp m▸EL _))⟩;have rp:=r.mono (xF ρ [s.heap.objs.size,s.heap.objs.size + 1]) kp;obtain ⟨oi,hoi,hc,hd⟩:=hit;have z:=I.two (s':={s with heap:=h'}) (o1:= .liter u 0) (o2:= .enum σ.length 0) rfl (DQ (Cg s.heap.objs.size)) (qK _) (Heap.get?_none_of_le (EL _)) (fun b o _ e=>hk b o e) (fun i a ob _ e2=> .inl ⟨e2,fun o=>hk a o⟩)
  ⟨oi,[.ref a],hoi,VRs.one rp,a,rfl,hc,hd⟩ ⟨_,[.ref s.heap.objs.size],he,VRs.one ⟨_,I.len▸zGD ..,rfl⟩,_,.none,rfl,rfl⟩ rfl rfl
 exact q _ _ _ z.1 z.2 ⟨_,I.len▸zGE ..,rfl⟩
theorem zM3(hsm:(K.lookup sysModules).isSome=true)(I:Inv K ρ σ s){i:Nat}{a:Addr}(ha:ρ[i]? =some a):(a==sysModules)=false:=by
 rw [beq_eq_false_iff_ne];rintro rfl;rw [I.sep _ (BZ ha)] at hsm; exact noB hsm
theorem zDY{h:Heap}{a:Addr}{n:Nat}(ho:h.get? a=some (dictOf [] n)):h.DictAt (strKind prog w) a [] n:=⟨_,#[],ho,⟨rfl,rfl,rfl⟩,rfl,(fun e he=>absurd he (Array.not_mem_empty _)),.nil,CH⟩
theorem zUj{h:Heap}{a:Addr}{n:Nat}(ho:h.get? a=some (dictOf [] n)):h.DictOf (strKind prog w) a []:=⟨_,#[],n,ho,⟨rfl,rfl,rfl⟩,rfl,(fun e he=>absurd he (Array.not_mem_empty _)),.nil,CH⟩
theorem zLD(I:Inv K ρ σ s){i:Nat}{a:Addr}{u:Unit}(ha:ρ[i]? =some a)(h:emD σ i=some u):∃n,s.heap.get? a=some (dictOf [] n):=by
 obtain ⟨o,xs,ho,rs,es,n,he,rfl⟩:=I.obs _ a _ ha (zQZ h);cases (show es=[] from he);exact ⟨n,ho⟩
theorem zNu(hsm:(K.lookup sysModules).isSome=true){i:Nat}(I:Inv K ρ σ s)(r:VR ρ s.heap (.trk i) x):Out K ρ s (zQj i σ) (yU prog w A s "dict.items" [x]):=by
 intro v AA h Q E q;refine yJ h fun u hi e=>?_;cases e;refine kM r fun a ha e__=>?_;cases e__;obtain ⟨n,ho⟩:=zLD I ha hi;have z:=I.alloc (o:={cls:= .type "dict_items",data:= .fields #[.ref a]}) (ob:= .itms i) s.toks ⟨_,[.ref a],Bf _ rfl,VRs.one ⟨a,xF _ _ _ _ ha,rfl⟩,a,rfl,rfl⟩;exact call_meetsIn PySem.F.slot_dict_items ⟨_,ho,rfl⟩ PySem.F.entry_dict_items (PySem.F.args_dict_items_1 _) (meets_dict_items (strKind prog w) a (zM3 hsm I ha)) ⟨⟨[],zUj ho⟩,q _ _ _ z.1 z.2 ⟨_,I.last _,rfl⟩⟩
end
end
noncomputable abbrev VsR:List Addr->Heap->List V->List Value->Prop:=fun ρ h v x=>VRs ρ h v x
section
variable{K:Frag}{α β γ δ:Type}{ρ:List Addr}{s:Shared}{m:(α->Sto->Sy)->Sy}{R:List Addr->Heap->α->β->Prop}{R':List Addr->Heap->γ->δ->Prop}{T:(β->Shared->Prop)->(Value->Shared->Prop)->Prop}{U:(δ->Shared->Prop)->(Value->Shared->Prop)->Prop}
theorem zC.map(h:zC K ρ s m T R)(f:α->γ)(f':β->δ)(hu:∀Q E,T (fun b A6=>Q (f' b) A6) E->U Q E)(hr:∀a b A7 A6,Ext ρ s A7 A6->R A7 A6.heap a b->R' A7 A6.heap (f a) (f' b)):zC K ρ s (fun k=>m fun a A4=>k (f a) A4) U R':=
 h.then (g:=fun a A4 k=>k (f a) A4) (fun b A6 Q _=>Q (f' b) A6) hu fun a A4 A7 A6 b I X r=> .ret I (hr a b A7 A6 X r) fun _ _ h=>h
theorem zWV{o:Option α}{f:α->Sy}{z:V×Sto}(h:run (liO o f)=some z):∃a,o=some a/\run (f a)=some z:=by
 cases o with
 | none=>exact noS h
 | some a=>exact ⟨a,rfl,h⟩
theorem uA{α:Type}{o:Option α}{f:α->Sy}{z:V×Sto}(h:run (liO o f)=some z){G:Prop}(g:∀x,o=some x->run (f x)=some z->G):G:=(zWV h).elim fun x h=>g x h.1 h.2
theorem zID{b:Bool}{k:Sy}{z:V×Sto}(h:run (need b k)=some z):b=true/\run k=some z:=by
 cases b with
 | true=>exact ⟨rfl,h⟩
 | false=>exact noS h
theorem zC.tst{m:(Bool->Sy)->Sy}{P:Bool->Prop}(h:Tst m P){T:(β->Shared->Prop)->(Value->Shared->Prop)->Prop}{g:Bool->(α->Sto->Sy)->Sy}(hg:∀c,P c->zC K ρ s (g c) T R):zC K ρ s (fun k=>m fun c=>g c k) T R:=fun hp k z hz Q E q=>by
 obtain ⟨c,h1,h2⟩:=h _ z hz;exact hg c h2 hp k z h1 Q E q
end
structure At(prog:Program)(w:World)(K:Frag)(n:Nat)(q:RecK)(A:Around)(ae:AE)(env:Env)(ρ:List Addr)(σ:Sto)(s:Shared):Prop where
 hr:SndK prog w K n q
 hA:Rm A n
 X:EnvR ρ ae env
 I:Inv K ρ σ s
section
variable{prog:Program}{w:World}{A:Around}{K:Frag}{n:Nat}{q:RecK}{ae:AE}{env:Env}{ρ A7:List Addr}{σ A4:Sto}{s A6:Shared}{pos:Pos}
theorem At.mv(a:At prog w K n q A ae env ρ σ s)(I:Inv K A7 A4 A6)(Y:Ext ρ s A7 A6):At prog w K n q A ae env A7 A4 A6:=⟨a.hr,a.hA,a.X.ext Y,I⟩
theorem At.e(a:At prog w K n q A ae env ρ σ s)(e:Expr):zC K ρ s (q.e e ae σ) (W prog w A s (eval e env)) VRr:=a.hr.e _ _ _ _ _ _ _ a.hA a.X a.I
theorem At.t(a:At prog w K n q A ae env ρ σ s)(e:Expr):zC K ρ s (q.t e ae σ) (W prog w A s (EP e env (eval e env))) BRr:=a.hr.t _ _ _ _ _ _ _ a.hA a.X a.I
theorem At.x(a:At prog w K n q A ae env ρ σ s)(e:Stmt):zC K ρ s (q.x e ae σ) (W prog w A s (exec e env)) FlR:=a.hr.x _ _ _ _ _ _ _ a.hA a.X a.I
noncomputable def zNc:Expr->Nat
 | .Starred .. =>1
 | .Set .. =>2
 | .ListComp .. =>3
 | .SetComp .. =>3
 | .DictComp .. =>3
 | .Tuple .. =>4
 | .Attribute .. =>5
 | .Name .. =>6
 | .Subscript .. =>7
 | _=>0
noncomputable def tgt(t:Expr):Bool:=CL 4 (zNc t)
theorem zBD{P:Expr->Prop}(t:Expr)(h1:∀x p,P (.Name x p))(h2:∀o a p,P (.Attribute o a p))(h3:∀es k p,P (.Tuple es k p))(h4:∀o i p,P (.Subscript o i p))(h5:∀t,tgt t=false->P t):P t:=by
 cases t with
 | Name=>exact h1 _ _
 | Attribute=>exact h2 _ _ _
 | Tuple=>exact h3 _ _ _
 | Subscript=>exact h4 _ _ _
 | _=>exact h5 _ rfl
noncomputable def xX(e:Expr):Bool:=BQ (zNc e) 1
noncomputable def kL0(q:RecK):List Expr->AE->Sto->(List V->Sto->Sy)->Sy
 | [],_,σ,k=>k [] σ
 | e::es,ae,σ,k=>match xX e with
  | true=> .fail
  | false=>q.e e ae σ fun v A4=>kL0 q es ae A4 fun vs A5=>k (v::vs) A5
noncomputable def yCE:Expr->Option (List Expr)
 | .List es _=>some es
 | _=>none
noncomputable def yCC(q:RecK)(es:List Expr)(ae:AE)(σ:Sto)(k:V->Sto->Sy):Sy:=kL0 q es ae σ fun vs AA=>need (decide (vs.length<=1000)) (liO (qI zEo vs) fun ns=>k (.il ns) AA)
noncomputable def kEl(q:RecK)(e:Expr)(ae:AE)(σ:Sto)(k:V->Sto->Sy):Sy:=match yCE e with
 | some es=>yCC q es ae σ k
 | none=>q.e e ae σ k
noncomputable def kL(q:RecK):List Expr->AE->Sto->(List V->Sto->Sy)->Sy
 | [],_,σ,k=>k [] σ
 | e::es,ae,σ,k=>match xX e with
  | true=> .fail
  | false=>kEl q e ae σ fun v A4=>kL q es ae A4 fun vs A5=>k (v::vs) A5
theorem yW{e:Expr}{es:List Expr}(h:xX e=false):starEach (e::es) env=(false,eval e env)::starEach es env:=by
 cases e with
 | Starred=>exact noB h.symm
 | _=>rfl
theorem At.l0(a:At prog w K n q A ae env ρ σ s)(es:List Expr):zC K ρ s (kL0 q es ae σ) (W prog w A s (spliced (backTo pos (starEach es env)))) VsR:=by
 induction es generalizing ρ σ s with
 | nil=>exact .ret a.I vrs_nil' fun _ _=>wpAny_items_nil
 | cons e es ih=>
  show zC K ρ s (fun k=>match xX e with
   | true=> .fail
   | false=>q.e e ae σ fun v A4=>kL0 q es ae A4 fun vs A5=>k (v::vs) A5) _ _
  cases hs:xX e with
  | true=>exact .fail
  | false=>
   exact (a.e e).then (g:=fun v A4 k=>kL0 q es ae A4 fun vs A5=>k (v::vs) A5) (fun x A6 Q E=>wpAny (model prog w) A (spliced (backTo pos (starEach es env))) (fun xs A9=>Q (x::xs) A9) E A6) (fun _ _ h=>wpAny_items_cons h (yW hs)) fun v A4 A7 A6 x I Y r=>
    (ih (a.mv I Y)).map (v::·) (x::·) (fun _ _ h=>h) fun vs xs AJ A9 Z rs=>⟨x,xs,rfl,r.ext Z,rs⟩
theorem At.el(a:At prog w K n q A ae env ρ σ s){e:Expr}:zC K ρ s (kEl q e ae σ) (W prog w A s (eval e env)) VRr:=by
 cases e with
 | List es pos=>
  exact (a.l0 es).then (g:=fun vs AA k=>need (decide (vs.length<=1000)) (liO (qI zEo vs) fun ns=>k (V.il ns) AA)) _ (fun _ _=>wpAny_List) fun vs A4 A7 A6 xs I Y r=> .need fun hz=> .li fun ns hns=>by
   have xx:=I.extra {cls:= .type "list",data:= .seq xs.toArray} A6.toks;refine .done (b:= .ref A6.heap.objs.size) xx ⟨_,xs.toArray,0,rfl,I.fresh,Bf _ rfl,?_⟩ fun Q E h=>⟨zN (r.length▸of_decide_eq_true hz),h⟩;exact zHT (ρ:=A7) (h:=A6.heap) (by rw [zEV hns]; exact r)
 | _=>exact a.e _
theorem At.l(a:At prog w K n q A ae env ρ σ s)(es:List Expr):zC K ρ s (kL q es ae σ) (W prog w A s (spliced (backTo pos (starEach es env)))) VsR:=by
 induction es generalizing ρ σ s with
 | nil=>exact .ret a.I vrs_nil' fun _ _=>wpAny_items_nil
 | cons e es ih=>
  show zC K ρ s (fun k=>match xX e with
   | true=> .fail
   | false=>kEl q e ae σ fun v A4=>kL q es ae A4 fun vs A5=>k (v::vs) A5) _ _
  cases hs:xX e with
  | true=>exact .fail
  | false=>
   exact (a.el (e:=e)).then (g:=fun v A4 k=>kL q es ae A4 fun vs A5=>k (v::vs) A5) (fun x A6 Q E=>wpAny (model prog w) A (spliced (backTo pos (starEach es env))) (fun xs A9=>Q (x::xs) A9) E A6) (fun _ _ h=>wpAny_items_cons h (yW hs)) fun v A4 A7 A6 x I Y r=>
    (ih (a.mv I Y)).map (v::·) (x::·) (fun _ _ h=>h) fun vs xs AJ A9 Z rs=>⟨x,xs,rfl,r.ext Z,rs⟩
noncomputable def zOb(q:RecK)(es:List Expr)(ae:AE)(σ:Sto)(k:V->Sto->Sy):Sy:=kL q es ae σ fun vs AA=>need (decide (vs.length<=1000)) (k (.tup vs) AA)
noncomputable def zQr(q:RecK)(es:List Expr)(ae:AE)(σ:Sto)(k:V->Sto->Sy):Sy:=kL q es ae σ fun vs AA=>need (decide (vs.length<=1000)) (k (.trk AA.length) (AA ++ [.list vs]))
theorem zNg(a:At prog w K n q A ae env ρ σ s){es:List Expr}{k:Nat}:zC K ρ s (zOb q es ae σ) (W prog w A s (eval (.Tuple es k pos) env)) VRr:=
 (a.l es).then (g:=fun vs AA k=>need (decide (vs.length<=1000)) (k (V.tup vs) AA)) _ (fun _ _=>wpAny_Tuple) fun vs A4 A7 A6 xs I Y r=> .need fun hz=>
  .tup I (xs:=xs.toArray) r fun Q E h=>⟨zN (r.length▸of_decide_eq_true hz),h⟩
theorem zMF(a:At prog w K n q A ae env ρ σ s){es:List Expr}:zC K ρ s (zQr q es ae σ) (W prog w A s (eval (.List es pos) env)) VRr:=
 (a.l es).then (g:=fun vs AA k=>need (decide (vs.length<=1000)) (k (V.trk AA.length) (AA ++ [Ob.list vs]))) _ (fun _ _=>wpAny_List) fun vs A4 A7 A6 xs I Y r=> .need fun hz=>
  .list I (xs:=xs.toArray) A6.toks r fun Q E h=>⟨zN (r.length▸of_decide_eq_true hz),h⟩
noncomputable def zRx(q:RecK)(t a b:Expr)(ae:AE)(σ:Sto)(k:V->Sto->Sy):Sy:=q.t t ae σ fun c AA=>xG c (q.e a ae AA k) (q.e b ae AA k)
theorem zNk(a:At prog w K n q A ae env ρ σ s){t x y:Expr}:zC K ρ s (zRx q t x y ae σ) (W prog w A s (eval (.IfExp t x y pos) env)) VRr:=
 (a.t t).then (g:=fun c AA k=>xG c (q.e x ae AA k) (q.e y ae AA k)) _ (fun _ _=>wpAny_IfExp) fun c A4 A7 A6 b I Y r=>by
  cases r;exact .ask (fun e=>by subst e; exact (a.mv I Y).e x) fun e=>by subst e; exact (a.mv I Y).e y
noncomputable def zK4:Const->Option V
 | .none=>some .none
 | .bool b=>some (.bool b)
 | .int i=>some (.int i)
 | .str x=>some (.str x)
 | _=>none
theorem zM4{c:Const}{k:Nat}(I:Inv K ρ σ s):zC K ρ s (fun k=>liO (zK4 c) fun v=>k v σ) (W prog w A s (eval (.Constant c k pos) env)) VRr:= .li fun v h=>by
 cases c with
 | none=>cases h; exact .ret I qA fun _ _ h=>wpAny_Constant_none h
 | bool=>cases h; exact .ret I zCN fun _ _ h=>wpAny_Constant_bool h
 | int=>cases h; exact .tok I _ vZ fun _ _ h=>wpAny_Constant_int h
 | str=>cases h; exact .tok I _ yL fun _ _ h=>wpAny_Constant_str h
 | _=>exact noS h
noncomputable def zQu(q:RecK)(f:V->V->Sto->(V->Sto->Sy)->Sy)(a b:Expr)(ae:AE)(σ:Sto)(k:V->Sto->Sy):Sy:=q.e a ae σ fun x A4=>q.e b ae A4 fun y A5=>f x y A5 k
theorem zHs(a:At prog w K n q A ae env ρ σ s){f:V->V->Sto->(V->Sto->Sy)->Sy}{T:Value->Value->Shared->(Value->Shared->Prop)->(Value->Shared->Prop)->Prop}(hf:∀u v σ ρ s x y,Inv K ρ σ s->VR ρ s.heap u x->VR ρ s.heap v y->zC K ρ s (f u v σ) (T x y s) VRr){c d:Expr}:
  zC K ρ s (zQu q f c d ae σ) (fun Q E=>wpAny (model prog w) A (eval c env) (fun x A6=>wpAny (model prog w) A (eval d env) (fun y A9=>T x y A9 Q E) E A6) E s) VRr:=
 (a.e c).then (g:=fun x A4 k=>q.e d ae A4 fun y A5=>f x y A5 k) (fun x A6 Q E=>wpAny (model prog w) A (eval d env) (fun y A9=>T x y A9 Q E) E A6) (fun _ _ h=>h) fun u A4 A7 A6 x I Y ru=>
  ((a.mv I Y).e d).then (g:=fun y A5 k=>f u y A5 k) (fun y A9 Q E=>T x y A9 Q E) (fun _ _ h=>h) fun v A5 AJ A9 y I' Z rv=>hf _ _ _ _ _ _ _ I' (ru.ext Z) rv
noncomputable def kS(q:RecK):List Stmt->AE->Sto->(Fl->Sto->Sy)->Sy
 | [],_,σ,k=>k .next σ
 | st::rest,ae,σ,k=>q.x st ae σ fun f A4=>match f with
  | .next=>kS q rest ae A4 k
  | f=>k f A4
theorem At.st(a:At prog w K n q A ae env ρ σ s)(l:List Stmt):zC K ρ s (kS q l ae σ) (W prog w A s (execs l env)) FlR:=by
 induction l generalizing ρ σ s with
 | nil=>exact .ret a.I .next fun _ _=>EA
 | cons st rest ih=>
  exact (a.x st).then (g:=fun f A4 k=>match f with | .next=>kS q rest ae A4 k | f=>k f A4) _ (fun _ _=>wpAny_execs_cons) fun f A4 A7 A6 b I Y r=>by
   cases r with
   | next=>exact ih (a.mv I Y)
   | brk=>exact .ret I .brk fun _ _ h=>h
   | cont=>exact .ret I .cont fun _ _ h=>h
   | ret r=>exact .ret I (.ret r) fun _ _ h=>h
noncomputable def kIf(q:RecK)(t:Expr)(a b:List Stmt)(ae:AE)(σ:Sto)(k:Fl->Sto->Sy):Sy:=q.t t ae σ fun c AA=>xG c (kS q a ae AA k) (kS q b ae AA k)
theorem zWR(a:At prog w K n q A ae env ρ σ s){t:Expr}{x y:List Stmt}:zC K ρ s (kIf q t x y ae σ) (W prog w A s (exec (.If t x y pos) env)) FlR:=
 (a.t t).then (g:=fun c AA k=>xG c (kS q x ae AA k) (kS q y ae AA k)) _ (fun _ _=>wpAny_If) fun c A4 A7 A6 b I Y r=>by
  cases r;exact .ask (fun e=>by subst e; exact (a.mv I Y).st x) fun e=>by subst e; exact (a.mv I Y).st y
noncomputable def zZM(q:RecK)(e:Option Expr)(ae:AE)(σ:Sto)(k:Fl->Sto->Sy):Sy:=match e with
 | none=>k (.ret .none) σ
 | some e=>q.e e ae σ fun v AA=>k (.ret v) AA
theorem zUb(a:At prog w K n q A ae env ρ σ s){e:Option Expr}:zC K ρ s (zZM q e ae σ) (W prog w A s (exec (.Return e pos) env)) FlR:=by
 cases e with
 | none=>exact .ret a.I (.ret qA) fun _ _=>wpAny_Return_none
 | some e=>exact (a.e e).map Fl.ret Flow.ret (fun _ _=>wpAny_Return_some) fun v x A7 A6 Y r=> .ret r
noncomputable def uW(e:Expr):Bool:=BQ (zNc e) 2
noncomputable def zAa(e:Expr):Bool:=BQ (zNc e) 3
noncomputable def zPN(q:RecK)(e:Expr)(ae:AE)(σ:Sto)(k:Fl->Sto->Sy):Sy:=if zAa e then .fail else q.e e ae σ fun _ A4=>k .next A4
theorem zEd(X:EnvR ρ ae env):interactive env=false:=by
 unfold interactive;rw [X.kind]; rfl
theorem zD2{e:Expr}{t:Option Expr}{l:Nat}(h:zAa e=false):swapsWith e t l env=pure false:=by
 cases e with
 | ListComp=>exact noB h.symm
 | SetComp=>exact noB h.symm
 | DictComp=>exact noB h.symm
 | _=>rfl
theorem zMM(a:At prog w K n q A ae env ρ σ s){e:Expr}:zC K ρ s (zPN q e ae σ) (W prog w A s (exec (.Expr e pos) env)) FlR:= .not fun hc=>
 (a.e e).map (fun _=>Fl.next) (fun _=>Flow.next) (fun Q E h=>wpAny_Expr_any h (zEd a.X) (zD2 hc)) fun v x A7 A6 Y r=> .next
theorem zJm(a:At prog w K n q A ae env ρ σ s){t:Expr}{body:List Stmt}{m fu:Nat}(hm:m=σ.length){kw:(Fl->Sto->Sy)->Nat->Sto->Sy}(h0:∀k σ,kw k 0 σ= .fail)
  (hs:∀k f σ,kw k (f + 1) σ=q.t t ae σ fun b A4=>xG b (kS q body ae A4 fun fl A5=>match fl with
   | .next=>kw k f (gc m A5)
   | .cont=>kw k f (gc m A5)
   | .brk=>k .next A5
   | .ret v=>k (.ret v) A5) (k .next A4)):zC K ρ s (fun k=>kw k fu σ) (W prog w A s (exec (.While t body [] pos) env)) FlR:=fun hp k z hz Q E qq=>by
 refine wpAny_While (codeAny_whileLoop (fun fu s'=>∃A4 A7,run (kw k fu A4)=some z/\Inv K A7 A4 s'/\Ext ρ s A7 s'/\0 < s'.toks) ?_ fu ⟨σ,ρ,hz,a.I,.refl _ _,hp⟩);rintro fu A6 ⟨A4,A7,h,AG,AK,AV⟩;cases fu with
 | zero=>rw [h0] at h; exact noS h
 | succ fu=>
  rw [hs] at h;refine (a.mv AG AK).t t AV _ _ h _ _ fun c A5 AJ A9 b h AH AP Af r=>?_;cases r;have Ak:=a.mv AH (AK.then AG AP);cases c with
  | false=>exact EA (qq _ _ _ _ _ h AH (AK.then AG AP) Af .next)
  | true=>
   refine Ak.st _ Af _ _ h _ _ fun fl A8 AL AF y h AN AO Ar ry=>?_;have AX:=(AK.then AG AP).then AH AO;have go:run (kw k fu (gc m A8))=some z->∃f',f' < fu + 1/\∃A4 A7,run (kw k f' A4)=some z/\Inv K A7 A4 AF/\Ext ρ s A7 AF/\0 < AF.toks:=fun h=>by
    obtain ⟨Ab,Ae,Aa,_⟩:=zHQ AN AX (a.I.len.trans hm.symm);exact ⟨fu,Cg _,gc m A8,Ab,h,Ae,Aa,Ar⟩
   cases ry with
   | next=>exact go h
   | cont=>exact go h
   | brk=>exact qq _ _ _ _ _ h AN AX Ar .next
   | ret rv=>exact qq _ _ _ _ _ h AN AX Ar (.ret rv)
noncomputable def wQ(q:RecK)(t:Expr)(body:List Stmt)(ae:AE)(m:Nat)(k:Fl->Sto->Sy):Nat->Sto->Sy
 | 0,_=> .fail
 | f + 1,σ=>q.t t ae σ fun b A4=>xG b (kS q body ae A4 fun fl A5=>match fl with
  | .next=>wQ q t body ae m k f (gc m A5)
  | .cont=>wQ q t body ae m k f (gc m A5)
  | .brk=>k .next A5
  | .ret v=>k (.ret v) A5) (k .next A4)
theorem zMB(a:At prog w K n q A ae env ρ σ s){t:Expr}{body:List Stmt}{fu:Nat}:zC K ρ s (fun k=>wQ q t body ae σ.length k fu σ) (W prog w A s (exec (.While t body [] pos) env)) FlR:=zJm a rfl (fun _ _=>rfl) fun _ _ _=>rfl
noncomputable def zUE:Expr->Option Str
 | .Name x _=>some x
 | _=>none
noncomputable def zSO:List Expr->List V->AE->Sto->Option Sto
 | [],vs,_,σ=>(match vs with | []=>some σ | _::_=>none)
 | e::es,vs,ae,σ=>(match vs with
  | []=>none
  | v::vs=>(zUE e).bind fun x=>(qM x v ae σ).bind fun A4=>zSO es vs ae A4)
noncomputable def yC6(v:V):Option (List V):=match v with
 | .tup l=>some l
 | _=>none
noncomputable def wO(t:Expr)(v:V)(ae:AE)(σ:Sto):Option Sto:=match t with
 | .Name x _=>qM x v ae σ
 | .Tuple es _ _=>(yC6 v).bind fun l=>zSO es l ae σ
 | _=>none
theorem zDP{e:Expr}{x:Str}(h:zUE e=some x):∃p,e= .Name x p:=by
 cases e with
 | Name y p=>cases h; exact ⟨p,rfl⟩
 | _=>exact noS h
theorem zKC{es:List Expr}{vs:List V}{σ AA:Sto}(h:zSO es vs ae σ=some AA):(assignEach es env).length=vs.length/\(assignEach es env).findIdx? (·.1)=none:=by
 induction es generalizing vs σ with
 | nil=>cases vs with
  | nil=>exact ⟨rfl,rfl⟩
  | cons=>exact noS h
 | cons e es ih=>cases vs with
  | nil=>exact noS h
  | cons v vs=>
   refine zJ h fun x h1 hb=>?_;refine zJ hb fun A4 h2 hc=>?_;obtain ⟨p,rfl⟩:=zDP h1;obtain ⟨a,b⟩:=ih hc;refine ⟨congrArg (· + 1) a,?_⟩;show List.findIdx? _ ((false,_)::assignEach es env)=none;rw [List.findIdx?_cons,b];rfl
theorem zAp{x:Str}{p:Pos}{v:V}{y:Value}(X:EnvR ρ ae env)(I:Inv K ρ σ s)(ry:VR ρ s.heap v y):Upd K ρ s (qM x v ae σ) (W prog w A s (assign (.Name x p) env y)):=
 fun AA h Q E q=>wpAny_assign_Name (kQ X I ry AA h Q E q)
theorem zKm{es:List Expr}{vs:List V}{ys:List Value}(X:EnvR ρ ae env)(I:Inv K ρ σ s)(rs:VRs ρ s.heap vs ys):Upd K ρ s (zSO es vs ae σ) (W prog w A s (assignInOrder ((assignEach es env).map (·.2)) ys)):=by
 induction es generalizing vs σ s ys with
 | nil=>cases vs with
  | nil=>cases zW rs; exact .some ⟨I,.refl _ _⟩ fun Q E q=>wpAny_assignInOrder_none q
  | cons=>exact .none
 | cons e es ih=>cases vs with
  | nil=>exact .none
  | cons v vs=>
   intro AA h Q E q;refine zJ h fun x h1 hb=>?_;refine zJ hb fun A4 h2 hc=>?_;obtain ⟨p,rfl⟩:=zDP h1;obtain ⟨y,ys',rfl,ry,rys⟩:=zO2 rs;exact wpAny_assignInOrder_more (zAp X I ry _ h2 _ _ fun A6 AG AK=>ih AG (rys.ext AK) _ hc _ _ fun A9 AH AP=>q _ AH (AK.then AG AP))
theorem vC(hh:A.handled=none){t:Expr}{v:V}{y:Value}(X:EnvR ρ ae env)(I:Inv K ρ σ s)(ry:VR ρ s.heap v y):Upd K ρ s (wO t v ae σ) (W prog w A s (assign t env y)):=by
 cases t with
 | Name=>exact zAp X I ry
 | Tuple es k p=>
  intro AA h Q E q;refine zJ h fun l hl h=>?_;cases v with
  | tup=>
   cases hl;refine zCw ry fun a items k e__ _ ho rs=>?_;cases e__;obtain ⟨h2,h3⟩:=zKC (env:=env) h;refine wpAny_assign_Tuple hh ⟨_,ho,rfl,k,rfl⟩ (h2.trans rs.size) h3 fun h' hb=>?_;have z:=I.keeps (h':=h') (tk:=s.toks) fun b o q=>hb b o (DQ (Dt q)) q;exact zKm (X.ext z.2) z.1 (rs.ext z.2) _ h _ _ fun A9 AH AP=>q _ AH (z.2.then z.1 AP)
  | _=>exact noS hl
 | _=>exact .none
noncomputable def zHz(gl:Str->Option Value)(q:RecK)(x:Str)(op:Operator)(e:Expr)(ae:AE)(σ:Sto)(k:Fl->Sto->Sy):Sy:=liO (zJT gl x ae σ) fun a=>q.e e ae σ fun b A4=>zAK op a b A4 fun v A5=>liO (qM x v ae A5) fun A8=>k .next A8
theorem zAh{o:Option Sto}{t:Sem Unit}(h:Upd K ρ s o (W prog w A s t)):zC K ρ s (fun k=>liO o fun A8=>k Fl.next A8) (fun Q E=>wpAny (model prog w) A t (fun _=>Q Flow.next) E s) FlR:=
 .upd h (g:=fun A8 k=>k Fl.next A8) (fun AF Q _=>Q Flow.next AF) (fun _ _ h=>h) fun A8 AF I X=> .ret I .next fun _ _ h=>h
theorem zHt{gl:Str->Option Value}(GO:GlOK K gl)(a:At prog w K n q A ae env ρ σ s){x:Str}{op:Operator}{e:Expr}{p:Pos}:zC K ρ s (zHz gl q x op e ae σ) (W prog w A s (exec (.AugAssign (.Name x p) op e pos) env)) FlR:= .li fun u hu=>by
 have st:∀y,VR ρ s.heap u y->zC K ρ s (fun k=>q.e e ae σ fun b A4=>zAK op u b A4 fun v A5=>liO (qM x v ae A5) fun A8=>k Fl.next A8) (fun Q E=>wpAny (model prog w) A (eval e env) (fun v A9=>wpAny (model prog w) A (inplaceOp op y v) (fun r AF=>wpAny (model prog w) A (storeName env x r) (fun _=>Q Flow.next) E AF) E A9) E s) FlR:=fun y ry=>
  (a.e e).then (g:=fun b A4 k=>zAK op u b A4 fun v A5=>liO (qM x v ae A5) fun A8=>k Fl.next A8) _ (fun _ _ h=>h) fun b A4 A7 A6 c I Y r=>
   (zGU I (ry.ext Y) r).then (g:=fun v A5 k=>liO (qM x v ae A5) fun A8=>k Fl.next A8) _ (fun _ _ h=>h) fun v A5 AJ A9 d I' Z rv=>zAh (kQ ((a.X.ext Y).ext Z) I' rv)
 exact fun hp k z hz Q E qq=>wpAny_AugAssign_Name (zC2 GO a.X a.I hu fun y ry=>st y ry hp k z hz Q E qq)
noncomputable def zDv(q:RecK)(op:BoolOp):List Expr->AE->Sto->(V->Sto->Sy)->Sy
 | [],_,_,_=> .fail
 | x::rest,ae,σ,k=>match rest.isEmpty with
  | true=>q.e x ae σ k
  | false=>q.e x ae σ fun v A4=>zBJ v A4 fun b=> .ask b fun d=>match op with
   | .And=>(match d with | false=>k v A4 | true=>zDv q op rest ae A4 k)
   | .Or=>(match d with | true=>k v A4 | false=>zDv q op rest ae A4 k)
set_option backward.match.sparseCases true in
theorem zHF{op:BoolOp}{x:Sem Value}{rest:List (Sem Value)}(hne:rest≠[]){Q:Value->Shared->Prop}{E:Value->Shared->Prop}
  (h:wpAny (model prog w) A x (fun v A6=>wpAny (model prog w) A (truthy v) (fun t A9=>match op with
   | .And=>(match t with | false=>Q v A9 | true=>wpAny (model prog w) A (boolOp pos op rest) Q E A9)
   | .Or=>(match t with | true=>Q v A9 | false=>wpAny (model prog w) A (boolOp pos op rest) Q E A9)) E A6) E s):wpAny (model prog w) A (boolOp pos op (x::rest)) Q E s:=by
 cases rest with
 | nil=>exact absurd rfl hne
 | cons y rest=>
  show wpAny (model prog w) A (do
   let v <-x
   standAt pos
   let t <-holding [v] (truthy v)
   match op,t with
   | .And,false | .Or,true=>pure v
   | _,_=>boolOp pos op (y::rest)) Q E s
  refine BK (C7 h (fun v A6 AR=>BK (Cb (BK (CT (C7 AR (fun t A9 AW=>?_) fun _ _ x=>x))))) fun _ _ x=>x);cases op with
  | And=>cases t with
   | false=>exact BM AW
   | true=>exact AW
  | Or=>cases t with
   | true=>exact BM AW
   | false=>exact AW
theorem zOQ(a:At prog w K n q A ae env ρ σ s){op:BoolOp}{xs:List Expr}:zC K ρ s (zDv q op xs ae σ) (W prog w A s (boolOp pos op (evalEach xs env))) VRr:=by
 induction xs generalizing ρ σ s with
 | nil=>exact .fail
 | cons x rest ih=>cases rest with
  | nil=>exact a.e x
  | cons y rest=>
   exact (a.e x).then (g:=fun v A4 k=>zBJ v A4 fun b=> .ask b fun d=>match op with
    | .And=>(match d with | false=>k v A4 | true=>zDv q op (y::rest) ae A4 k)
    | .Or=>(match d with | true=>k v A4 | false=>zDv q op (y::rest) ae A4 k)) _ (fun _ _ h=>zHF (List.cons_ne_nil _ _) h) fun v A4 A7 A6 z I Y r=> .tst (zBB I r) fun c hc=>by
     have go:zC K A7 A6 (zDv q op (y::rest) ae A4) (fun Q E=>∀tk,0 < tk->wpAny (model prog w) A (boolOp pos op (evalEach (y::rest) env)) Q E {A6 with toks:=tk}) VRr:=fun hp k z hz Q E qq tk ht=>
      ih (a.mv (I.toks tk) (Y.toks tk)) ht k z hz Q E fun a A5 AJ A9 b h I' X' hp' r'=>qq a A5 AJ A9 b h I' (((Ext.refl _ _).toks tk).then (I.toks tk) X') hp' r'
     have st:zC K A7 A6 (fun k=>k v A4) (fun Q E=>∀tk,0 < tk->Q z {A6 with toks:=tk}) VRr:=fun hp k z' hz Q E qq tk ht=>qq _ _ _ _ _ hz (I.toks tk) ((Ext.refl _ _).toks tk) ht r;intro hp;cases op with
     | And=>cases c with
      | false=>exact (st.rule fun Q E h=>yY hp _ _ (hc _ _ fun tk ht=>h tk ht)) hp
      | true=>exact (go.rule fun Q E h=>yY hp _ _ (hc _ _ fun tk ht=>h tk ht)) hp
     | Or=>cases c with
      | true=>exact (st.rule fun Q E h=>yY hp _ _ (hc _ _ fun tk ht=>h tk ht)) hp
      | false=>exact (go.rule fun Q E h=>yY hp _ _ (hc _ _ fun tk ht=>h tk ht)) hp
noncomputable def zMO(q:RecK)(op:BoolOp):List Expr->AE->Sto->(Bool->Sto->Sy)->Sy
 | [],_,σ,k=>k (op== .And) σ
 | x::rest,ae,σ,k=>q.t x ae σ fun b A4=> .ask b fun d=>match op with
  | .And=>(match d with | false=>k false A4 | true=>zMO q op rest ae A4 k)
  | .Or=>(match d with | true=>k true A4 | false=>zMO q op rest ae A4 k)
theorem zRK(a:At prog w K n q A ae env ρ σ s){op:BoolOp}{xs:List Expr}:zC K ρ s (zMO q op xs ae σ) (W prog w A s (allTrue op xs env)) BRr:=by
 induction xs generalizing ρ σ s with
 | nil=>cases op with
  | And=>exact .ret a.I rfl fun _ _=>wpAny_allTrue_And_nil
  | Or=>exact .ret a.I rfl fun _ _=>wpAny_allTrue_Or_nil
 | cons x rest ih=>cases op with
  | And=>
   exact (a.t x).then (g:=fun b A4 k=> .ask b fun d=>(match d with | false=>k false A4 | true=>zMO q .And rest ae A4 k)) _ (fun _ _=>wpAny_allTrue_And_cons) fun b A4 A7 A6 c I Y r=>by
    cases r;cases b with
    | true=>exact ih (a.mv I Y)
    | false=>exact .ret I rfl fun _ _ h=>h
  | Or=>
   exact (a.t x).then (g:=fun b A4 k=> .ask b fun d=>(match d with | true=>k true A4 | false=>zMO q .Or rest ae A4 k)) _ (fun _ _=>wpAny_allTrue_Or_cons) fun b A4 A7 A6 c I Y r=>by
    cases r;cases b with
    | true=>exact .ret I rfl fun _ _ h=>h
    | false=>exact ih (a.mv I Y)
end
section
variable{K:Frag}{α β:Type}{ρ:List Addr}{σ:Sto}{s:Shared}{m:(α->Sto->Sy)->Sy}{R:List Addr->Heap->α->β->Prop}{U:(β->Shared->Prop)->(Value->Shared->Prop)->Prop}
theorem zC.anyTok{T:Tok->(β->Shared->Prop)->(Value->Shared->Prop)->Prop}(h:∀tk,zC K ρ {s with toks:=tk} m (T tk) R)(hu:0 < s.toks->∀Q E,(∀tk,0 < tk->T tk Q E)->U Q E):zC K ρ s m U R:=fun hp k z hz Q E qq=>
 hu hp Q E fun tk ht=>h tk ht k z hz Q E fun a A4 A7 A6 b hk I X AV r=>qq a A4 A7 A6 b hk I ⟨X.pre,X.new,X.keep,X.os⟩ AV r
theorem zC.retTok(I:Inv K ρ σ s){a:α}{b:β}(r:R ρ s.heap a b)(hu:∀Q E,(∀tk,Q b {s with toks:=tk})->U Q E)(g:Gr s U:=by exact yY):zC K ρ s (fun k=>k a σ) U R:=fun hp k z hz Q E qq=>g hp _ _ (hu _ _ fun tk ht=>qq _ _ _ _ _ hz (I.toks tk) ((Ext.refl _ _).toks tk) ht r)
end
section
variable{prog:Program}{w:World}{A:Around}{K:Frag}{n:Nat}{q:RecK}{ae:AE}{env:Env}{ρ A7:List Addr}{σ A4:Sto}{s A6:Shared}{pos:Pos}{O:Ops}
noncomputable def zUA(O:Ops)(op:CmpOp)(a b:V)(σ:Sto)(k:V->Sto->Sy):Sy:=zQ2 O op a b σ fun c=>k (.bool c) σ
theorem zQY(OO:OpsOK prog w K O)(hA:A.units + 65 < cLine)(I:Inv K ρ σ s){op:CmpOp}{a b:V}{x y:Value}(ra:VR ρ s.heap a x)(rb:VR ρ s.heap b y):zC K ρ s (zUA O op a b σ) (W prog w A s (compareOp op x y)) VRr:=
 .tst (g:=fun c k=>k (V.bool c) σ) (zLz OO hA I ra rb) fun c hc=> .retTok I (b:=BX c) zCN hc
noncomputable def zIw(O:Ops)(q:RecK)(l:Expr)(ops:List CmpOp)(rs:List Expr)(ae:AE)(σ:Sto)(k:V->Sto->Sy):Sy:=match ops with
 | []=> .fail
 | op::ops=>(match rs with
  | []=> .fail
  | x::xs=>(match ops.isEmpty with
   | true=>(match xs.isEmpty with
    | true=>if uW x then .fail else zQu q (zUA O op) l x ae σ k
    | false=> .fail)
   | false=> .fail))
theorem zLs{op:CmpOp}{x:Expr}(h:uW x=false):behindInMarks op x=false:=by
 cases x with
 | Set=>exact noB h.symm
 | _=>rfl
theorem zIW(OO:OpsOK prog w K O)(hu:A.units + 65 < cLine)(a:At prog w K n q A ae env ρ σ s){l:Expr}{ops:List CmpOp}{rs:List Expr}:zC K ρ s (zIw O q l ops rs ae σ) (W prog w A s (eval (.Compare l ops rs pos) env)) VRr:=by
 cases ops with
 | nil=>exact .fail
 | cons op ops=>cases rs with
  | nil=>exact .fail
  | cons x xs=>cases ops with
   | nil=>cases xs with
    | cons=>exact .fail
    | nil=>exact .not fun hs=>(zHs a (T:=fun x y s=>W prog w A s (compareOp op x y)) fun u v σ ρ s x y I ru rv=>zQY OO hu I ru rv).rule fun Q E h=>wpAny_Compare1 h (zLs hs)
   | cons op' ops=>exact .fail
noncomputable def zRg(O:Ops)(q:RecK)(l:Expr)(op:CmpOp)(x:Expr)(ae:AE)(σ:Sto)(k:Bool->Sto->Sy):Sy:=if uW x then .fail else q.e l ae σ fun u A4=>q.e x ae A4 fun v A5=>zQ2 O op u v A5 fun c=>k c A5
theorem zNf(OO:OpsOK prog w K O)(hu:A.units + 65 < cLine)(a:At prog w K n q A ae env ρ σ s){l x:Expr}{op:CmpOp}{whole:Sem Value}:zC K ρ s (zRg O q l op x ae σ) (W prog w A s (EP (.Compare l [op] [x] pos) env whole)) BRr:= .not fun hs=>
 (a.e l).then (g:=fun u A4 k=>q.e x ae A4 fun v A5=>zQ2 O op u v A5 fun c=>k c A5) _ (fun _ _ h=>wpAny_isTrue_Compare1 h (zLs hs)) fun u A4 A7 A6 y I Y ru=>
  ((a.mv I Y).e x).then (g:=fun v A5 k=>zQ2 O op u v A5 fun c=>k c A5) _ (fun _ _ h=>h) fun v A5 AJ A9 z I' Z rv=>
   .tst (g:=fun c k=>k c A5) (zLz OO hu I' (ru.ext Z) rv) fun c hc=> .anyTok (T:=fun tk Q _=>Q c {A9 with toks:=tk}) (fun tk=> .ret (I'.toks tk) rfl fun _ _ h=>h) fun hp Q E h=>yY hp _ _ (hc _ _ fun tk ht=>EX (h tk ht))
noncomputable def unK(op:UnaryOp)(v:V)(A4:Sto)(k:V->Sto->Sy):Sy:=match op with
 | .Not=>zBJ v A4 fun b=>k (.bool (!b)) A4
 | _=> .fail
noncomputable def kUn(q:RecK)(op:UnaryOp)(x:Expr)(ae:AE)(σ:Sto)(k:V->Sto->Sy):Sy:=q.e x ae σ fun v A4=>unK op v A4 k
theorem zYL(a:At prog w K n q A ae env ρ σ s){op:UnaryOp}{x:Expr}:zC K ρ s (kUn q op x ae σ) (W prog w A s (eval (.UnaryOp op x pos) env)) VRr:=
 (a.e x).then (g:=fun v A4 k=>unK op v A4 k) (fun y A6=>W prog w A A6 (unaryOp op y)) (fun _ _=>wpAny_UnaryOp) fun v A4 A7 A6 y I Y r=>by
   cases op with
   | Not=>exact .tst (g:=fun b k=>k (V.bool (!b)) A4) (zBB I r) fun c hc=> .retTok I (b:=BX (!c)) zCN fun Q E h=>not_of (hc _ _ h)
   | _=>exact .fail
set_option genCtorIdx true in
inductive SlK where
 | no | bad | sl (lo up:Option Expr)
noncomputable def slK:Expr->SlK
 | .Slice lo up st _=>(match st with | none=> .sl lo up | some _=> .bad)
 | _=> .no
noncomputable def zEx(q:RecK)(e:Option Expr)(ae:AE)(σ:Sto)(k:V->Sto->Sy):Sy:=match e with
 | none=>k .none σ
 | some e=>q.e e ae σ k
noncomputable def zUn(i:Nat)(pl pu:Option Int)(σ:Sto)(k:V->Sto->Sy)(ob:Ob):Sy:=match ob with
 | .pls l=>(match pl with
  | none=>(match pu with
   | none=>need (decide (l.length<=1000)) (k (.trk σ.length) (σ ++ [.pls l]))
   | some _=> .pick (wN (.trk i) pl pu σ) k)
  | some _=> .pick (wN (.trk i) pl pu σ) k)
 | _=> .pick (wN (.trk i) pl pu σ) k
noncomputable def zD8(o:V)(pl pu:Option Int)(σ:Sto)(k:V->Sto->Sy):Sy:=match o with
 | .str x=>pickV ((wN (.str x) pl pu []).map (·.1)) fun v=>k v σ
 | .trk i=>liO (σ[i]? :Option Ob) (zUn i pl pu σ k)
 | o=> .pick (wN o pl pu σ) k
noncomputable def zVq(hs:Str->Int)(i:Nat)(x:V)(σ:Sto)(k:V->Sto->Sy)(ob:Ob):Sy:=match ob with
 | .kd H kv=>liO (zBq x) fun s=>need (@decide (H=hs) (Dh _)) (liO (lkS kv s) fun v=>k v σ)
 | _=>zY2 (.trk i) x σ fun v=>k v σ
noncomputable def zHL(hs:Str->Int)(o x:V)(σ:Sto)(k:V->Sto->Sy):Sy:=match o with
 | .trk i=>liO (σ[i]? :Option Ob) (zVq hs i x σ k)
 | o=>zY2 o x σ fun v=>k v σ
noncomputable def zXK(hs:Str->Int)(q:RecK)(value slice:Expr)(ae:AE)(σ:Sto)(k:V->Sto->Sy):Sy:=match slK slice with
 | .sl lo up=>q.e value ae σ fun o A4=>zEx q lo ae A4 fun a A5=>zEx q up ae A5 fun b A8=>liO (wB a) fun pl=>liO (wB b) fun pu=>zD8 o pl pu A8 k
 | .bad=> .fail
 | .no=>q.e value ae σ fun o A4=>q.e slice ae A4 fun x A5=>zHL hs o x A5 k
theorem zPq{e:Expr}(h:slK e= .no)(a b c:Option Expr)(p:Pos):e≠.Slice a b c p:=fun z=>by
 subst z;cases c <;>exact nomatch h
theorem zPF{e:Expr}{lo up:Option Expr}(h:slK e= .sl lo up):∃p,e= .Slice lo up none p:=by
 cases e with
 | Slice a b c p=>cases c with
  | none=>cases h; exact ⟨p,rfl⟩
  | some=>exact nomatch h
 | _=>exact nomatch h
theorem xA{value slice:Expr}{Q:Value->Shared->Prop}{E:Value->Shared->Prop}(hns:∀a b c p,slice≠.Slice a b c p\/c=none)
  (h:wpAny (model prog w) A (eval value env) (fun o A6=>wpAny (model prog w) A (eval slice env) (fun i A9=>SubscriptOn (model prog w) A o i Q E A9) E A6) E s):
  wpAny (model prog w) A (eval (.Subscript value slice pos) env) Q E s:=by
 rw [eval_Subscript];refine BK (C7 h (fun o A6 AR=>BK (CT (C7 AR (fun i A9 AW=>BK (Cb ?_)) fun _ _ x=>x)))
  fun _ _ x=>x)
 clear h AR;obtain ⟨T,id,hl,hT,hg⟩:=AW;refine BK ?_;rw [getitemInPython_of_ne hT.not_modules];refine BK (wpAny_specialOf hT hl ?_);have fin:∀vs,wpAny (model prog w) A (operate vs (getItem o i) >>=fun r=>letTemporaryGo value o r >>=fun _=>pure r) Q E A9:=fun vs=>
  BK (wpAny_operate' (C7 hg (fun r AF Ap=>BK (wpAny_letTemporaryGo (BM Ap))) fun _ _ x=>x))
 cases slice with
 | Slice a b c p=>cases c with
  | none=>exact BM (fin _)
  | some c=>exact ((hns _ _ _ _).elim (fun z=>absurd rfl z) fun z=>nomatch z)
 | _=>first | exact BM (fin _) | exact BK (BM (fin _))
theorem zIt(a:At prog w K n q A ae env ρ σ s){e:Option Expr}:zC K ρ s (zEx q e ae σ) (W prog w A s (evalPart e env)) VRr:=by
 cases e with
 | none=>exact .ret a.I qA fun _ _=>De
 | some e=>exact (a.e e).rule fun _ _=>wpAny_evalPart_some
theorem zPD(l:List V):zKb l none none=l:=by
 have e:sliceBounds none none none l.length=(((0:Nat):Int),(l.length:Int),1):=by simp [sliceBounds]
 unfold zKb;rw [e];simp only [sliceRange_one];unfold zDg;have z:=pick_run l.toArray 0 (l.length - 0)
 simpa using z
theorem zMN{T:(Value->Shared->Prop)->(Value->Shared->Prop)->Prop}{o:V}{pl pu:Option Int}(h:Out K ρ s (wN o pl pu σ) T)(g:Gr s T):zC K ρ s (zD8 o pl pu σ) T VRr:=by
 cases o with
 | str x=>
  have e:((wN (.str x) pl pu []).map (·.1)).map (·,σ)=wN (.str x) pl pu σ:=by
   show Dy _ (Dy _ (if _ then _ else _))=if (vK x pl pu).length<=sizeLine then _ else _;split <;>rfl
  exact .pickV (e.symm▸h) g
 | trk i=>
  refine .li fun ob hob=>?_;cases ob with
  | pls l=>cases pl with
   | some=>exact .pick h g
   | none=>cases pu with
    | some=>exact .pick h g
    | none=>
     refine .need fun hz=> .up (g:=g) fun k z hk Q E q=>?_;have e:wN (.trk i) none none σ=some (.trk σ.length,σ ++ [.list (plL l)]):=by
      have e1:lsA σ i=some (plL l):=by
       show (match σ[i]? with | some ob=>(match ob with | .list l=>some l | .stk _ l=>some (qW l) | .pls l=>some (plL l) | .wls l=>some (wlL l) | _=>none) | none=>none)=_;rw [hob]
      show (lsA σ i).bind _=_;rw [e1];show (if (plL l).length<=1000 then some (V.trk σ.length,σ ++ [.list (zKb (plL l) none none)]) else none)=_;rw [if_pos (by rw [BW]; exact of_decide_eq_true hz),zPD]
     refine h _ _ e Q E fun A7 A6 x I X r=>q _ _ A7 A6 x hk ?_ X r;have y:=kR I (l:=l) (zCS σ _);rw [D8 _ _ (CD _),DC] at y;exact y
  | _=>exact .pick h g
 | _=>exact .pick h g
theorem zWc{H:Str->Int}{kv:List (Str×V)}{i:Nat}{a:Addr}(I:Inv K ρ σ s)(ha:ρ[i]? =some a)(ob:σ[i]? =some (.kd H kv))(hw:H=hashStr w):∃xs,VRs ρ s.heap (zU kv) xs/\s.heap.MapOf (strKind prog w) a (fun k=>((zG kv).zip xs).lookup k):=by
 obtain ⟨o,xs,ho,rs,es,n,he,hk,hn,rfl⟩:=I.obs i a _ ha ob;refine ⟨xs,rs,_,es.toArray,n,ho,⟨rfl,rfl,rfl⟩,rfl,fun e hm=>?_,fun k=>?_⟩
 ·obtain ⟨k,t,h1,h2⟩:=hk e (by simpa using hm)
  exact ⟨k,by rw [h1]; exact beq_self_eq_true k,by rw [h2,hw]; rfl⟩
 ·have z1:(es.find? (·.key.isStr k)).map (·.val)=((zG kv).zip xs).lookup k:=by
   clear hk hn ho rs;generalize (zG kv).zip xs=l at he ⊢
   induction l generalizing es with
   | nil=>cases (show es=[] from he); rfl
   | cons p l ih=>
    obtain ⟨e,es',rfl,⟨t,hk⟩,b,c⟩:=he;show _=Co k ((p.1,p.2)::l);rw [E9,CX,hk];show Dy _ (match (p.1==k) with | true=>some e | false=>List.find? _ es')=match k==p.1 with | true=>some p.2 | false=>Co k l
    rw [show (p.1==k)=(k==p.1) from Bool.beq_comm];cases h:k==p.1 with
    | true=>exact congrArg some b
    | false=>exact ih es' c
  show findBy (strKind prog w).is es.toArray k=((zG kv).zip xs).lookup k;rw [<-z1];have e1:∀e∈es,(strKind prog w).is k e.key=e.key.isStr k:=fun e hm=>by
   obtain ⟨k',t,h1,_⟩:=hk e hm;rw [h1];show (k'==k)=(k'==k);rfl
  have e2:∀l:List DictEntry,(∀e∈l,(strKind prog w).is k e.key=e.key.isStr k)->l.find? (fun e=>(strKind prog w).is k e.key)=l.find? (·.key.isStr k):=fun l hl=>by
   induction l with
   | nil=>rfl
   | cons e l ih=>
    rw [E9,E9,hl e (CB ..),ih fun x hx=>hl x (Bq _ hx)]
  have e3:=e2 es e1;unfold findBy
  simpa using congrArg (Dy (·.val)) e3
theorem zN5{hs:Str->Int}(hw:hs=hashStr w){o i:V}{x y:Value}(I:Inv K ρ σ s)(ro:VR ρ s.heap o x)(ri:VR ρ s.heap i y):zC K ρ s (zHL hs o i σ) (zEm prog w A s x y) VRr:=by
 have gen:=zR4 (prog:=prog) (w:=w) (A:=A) I ro ri;cases o with
 | trk n=>
  refine .li fun ob hob=>?_;cases ob with
  | kd H kv=>
   refine .li fun u hu=> .need fun hq=> .li fun v hv=>?_;have hq:H=hs:=@of_decide_eq_true _ (Dh _) hq;obtain ⟨t,rfl⟩:=kY _ _ _ hu ri;refine kM ro fun a ha e__=>?_;cases e__;obtain ⟨xs,rs,hm⟩:=zWc (prog:=prog) I ha hob (hq.trans hw);have z:=zCL rs u;rw [<-wM,hv] at z;refine .ofOut (fun v' AA hh Q E q=>?_) zAk;cases hh;cases hl:((zG kv).zip xs).lookup u with
   | none=>rw [hl] at z; exact z.elim
   | some b=>
    rw [hl] at z;exact ⟨"dict",_,slot_dict_getitem.lookup,hm.typeIs,wpAny_getItem_of (zCX u t) hm hl (q _ _ _ (I.toks _) ((Ext.refl _ _).toks _) z)⟩
  | _=>exact gen
 | _=>exact gen
theorem zTP{hh:Str->Int}(hw:hh=hashStr w)(a:At prog w K n q A ae env ρ σ s){value slice:Expr}:zC K ρ s (zXK hh q value slice ae σ) (W prog w A s (eval (.Subscript value slice pos) env)) VRr:=by
 unfold zXK;cases hs:slK slice with
 | bad=>exact .fail
 | no=>
  exact (a.e value).then (g:=fun o A4 k=>q.e slice ae A4 fun x A5=>zHL hh o x A5 k) _ (fun _ _=>xA fun a b c p=> .inl (zPq hs a b c p)) fun o A4 A7 A6 x I Y ro=>
   ((a.mv I Y).e slice).then (g:=fun x A5 k=>zHL hh o x A5 k) _ (fun _ _ h=>h) fun i A5 AJ A9 y I' Z ri=>zN5 hw I' (ro.ext Z) ri
 | sl lo up=>
  obtain ⟨p,rfl⟩:=zPF hs;exact (a.e value).then (g:=fun o A4 k=>zEx q lo ae A4 fun a A5=>zEx q up ae A5 fun b A8=>liO (wB a) fun pl=>liO (wB b) fun pu=>zD8 o pl pu A8 k) _ (fun _ _=>xA fun a b c p=>by
    cases c with
    | none=>exact .inr rfl
    | some c=>exact .inl fun z=>nomatch z) fun o A4 A7 A6 x I Y ro=>
   (zIt (a.mv I Y)).then (g:=fun a A5 k=>zEx q up ae A5 fun b A8=>liO (wB a) fun pl=>liO (wB b) fun pu=>zD8 o pl pu A8 k) _ (fun _ _=>wpAny_Slice) fun i A5 AJ A9 y I' Z ri=>
    (zIt ((a.mv I Y).mv I' Z)).then (g:=fun b A8 k=>liO (wB i) fun pl=>liO (wB b) fun pu=>zD8 o pl pu A8 k) _ (fun _ _ h=>h) fun j A8 AL AF z I3 Z3 rj=> .li fun pl hl=> .li fun pu hu=>
     (zMN (zIb (prog:=prog) (w:=w) (A:=A) hl hu I3 ((ro.ext Z).ext Z3) (ri.ext Z3) rj) fun hp Q E h=>zAk (s:={AF with heap:=AF.heap.push (vX y z)}) hp Q E h).rule fun Q E h=>De (by exact h)
end
noncomputable abbrev Nx:=Sto->Nat->Option (Option V)
structure Itr(prog:Program)(w:World)(K:Frag)(it:Addr)(nx:Nx)(St:Nat->Heap->Prop)(Pr:List Addr->Heap->Prop):Prop where
 own:∀k h,St k h->∃o,h.get? it=some o/\kpt true o=false
 frame:∀k h h',St k h->(∀o,h.get? it=some o->h'.get? it=some o)->St k h'
 prExt:∀ρ s AC s',Pr ρ s.heap->Ext ρ s AC s'->Pr AC s'.heap
 item:∀k σ ρ s v A (Q:Option Value->Shared->Prop) E,A.handled=none->nx σ k=some (some v)->Inv K ρ σ s->St k s.heap->Pr ρ s.heap->
  (∀h' tk x,DB it s.heap h'->St (k + 1) h'->VR ρ h' v x->Q (some x) {s with heap:=h',toks:=tk})->wpAny (model prog w) A (pyNext (.ref it)) Q E s
 done:∀k σ ρ s A (Q:Option Value->Shared->Prop) E,A.handled=none->nx σ k=some none->Inv K ρ σ s->St k s.heap->Pr ρ s.heap->
  (∀h' tk,DB it s.heap h'->Q none {s with heap:=h',toks:=tk})->wpAny (model prog w) A (pyNext (.ref it)) Q E s
 lets:∀k (s:Shared) t x A (Q:Unit->Shared->Prop) E,St k s.heap->Q () s->wpAny (model prog w) A (letOwnedTupleGo t (.ref it) x) Q E s
 self:∀k (s:Shared) A (Q:Value->Shared->Prop) E,St k s.heap->Q (.ref it) s->wpAny (model prog w) A (pyIter (.ref it)) Q E s
structure ItAt(AB:List Addr)(AD:Shared)(it:Addr)(St:Nat->Heap->Prop)(k:Nat)(ρ:List Addr)(s:Shared):Prop where
 X:Ext AB AD ρ s
 n:it ∉ ρ
 st:St k s.heap
noncomputable def zDG(k:Fl->Sto->Sy)(go:Sto->Sy)(fl:Fl)(σ:Sto):Sy:=match fl with
 | .next=>go σ
 | .cont=>go σ
 | .brk=>k .next σ
 | .ret v=>k (.ret v) σ
noncomputable def vP(q:RecK)(t:Expr)(body:List Stmt)(ae:AE)(m:Nat)(nx:Nx)(k:Fl->Sto->Sy):Nat->Nat->Sto->Sy
 | 0,_,_=> .fail
 | f + 1,i,σ=>liO (nx σ i) fun o=>match o with
  | none=>k .next σ
  | some v=>liO (wO t v ae σ) fun A4=>kS q body ae A4 fun fl A5=>zDG k (fun A5=>vP q t body ae m nx k f (i + 1) (gc m A5)) fl A5
section
variable{prog:Program}{w:World}{A:Around}{K:Frag}{n:Nat}{q:RecK}{ae:AE}{env:Env}{ρ AB:List Addr}{σ:Sto}{s AD:Shared}{it:Addr}{nx:Nx}{St:Nat->Heap->Prop}{Pr:List Addr->Heap->Prop}
theorem ItAt.mv{k:Nat}{AC:List Addr}{s':Shared}(W:Itr prog w K it nx St Pr)(a:ItAt AB AD it St k ρ s)(I:Inv K ρ σ s)(X:Ext ρ s AC s'):ItAt AB AD it St k AC s':=by
 obtain ⟨o,ho,_⟩:=W.own _ _ a.st;exact ⟨a.X.then I X,X.notin a.n ho,W.frame _ _ _ a.st fun o e=>X.keep it o a.n e⟩
theorem ItAt.step{k:Nat}{h':Heap}{tk:Tok}(W:Itr prog w K it nx St Pr)(a:ItAt AB AD it St k ρ s)(n0:AD.heap.get? it=none)(nk:K.lookup it=none)(I:Inv K ρ σ s)(hb:DB it s.heap h'):Inv K ρ σ {s with heap:=h',toks:=tk}/\Ext AB AD ρ {s with heap:=h',toks:=tk}:=by
 obtain ⟨o,ho,hk⟩:=W.own _ _ a.st;exact ⟨I.but a.n nk ho hk hb tk,a.X.itr n0 hb tk⟩
theorem zPe(hr:SndK prog w K n q)(hA:Rm A n)(W:Itr prog w K it nx St Pr){t:Expr}{body:List Stmt}{m:Nat}(hm:AB.length=m)(n0:AD.heap.get? it=none)(nk:K.lookup it=none)(Au:EnvR AB ae env)(hp0:Pr AB AD.heap){kk:Fl->Sto->Sy}{z:V×Sto}{fu i:Nat}
  (h:run (vP q t body ae m nx kk fu i σ)=some z) (I:Inv K ρ σ s) (a:ItAt AB AD it St i ρ s) (hs:0 < s.toks) {R:Result->Shared->Prop} (qq:∀f AA AC s' x,run (kk f AA)=some z->Inv K AC AA s'->Ext AB AD AC s'->0 < s'.toks->FlR AC s'.heap f x->R (.ok x) s'):codeAny (model prog w) A (.forLoop t (.ref it) body [] env) R s:=by
 refine codeAny_forLoop_any (fun fu s=>∃i σ ρ,run (vP q t body ae m nx kk fu i σ)=some z/\Inv K ρ σ s/\ItAt AB AD it St i ρ s/\0 < s.toks) ?_ fu ⟨i,σ,ρ,h,I,a,hs⟩;clear h I a hs;rintro fu s ⟨i,σ,ρ,h,I,a,hs⟩;have hp:=W.prExt _ _ _ _ hp0 a.X;cases fu with
 | zero=>exact noS h
 | succ fu=>
  refine uA h fun o hx h=>?_;cases o with
  | none=>
   refine yY hs _ _ (W.done _ _ _ _ _ _ _ hA.1 hx I a.st hp fun h' tk hb ht=>?_);have I':=a.step (tk:=tk) W n0 nk I hb;exact EA (qq _ _ _ _ _ h I'.1 I'.2 ht .next)
  | some v=>
   refine yY hs _ _ (W.item _ _ _ _ _ _ _ _ hA.1 hx I a.st hp fun h' tk x hb hs' rx ht=>?_);have I':=a.step (tk:=tk) W n0 nk I hb;refine W.lets (i + 1) _ _ _ _ _ _ hs' ?_;refine uA h fun A4 h1 h=>?_;have a':ItAt AB AD it St (i + 1) ρ {s with heap:=h',toks:=tk}:=⟨I'.2,a.n,hs'⟩;refine yY ht _ _ (vC hA.1 (Au.ext I'.2) I'.1 rx _ h1 _ _ fun A6 AG AK Ah=>?_);have BA:=a'.mv W I'.1 AK;refine (At.mk hr hA (Au.ext BA.X) AG).st _ Ah _ _ h _ _ fun fl A5 AJ A9 y h AH AP AY ry=>?_;have Ak:=BA.mv W AG AP;have go:run (vP q t body ae m nx kk fu (i + 1) (gc m A5))=some z->∃f',f' < fu + 1/\∃i σ ρ,run (vP q t body ae m nx kk f' i σ)=some z/\Inv K ρ σ A9/\ItAt AB AD it St i ρ A9/\0 < A9.toks:=fun h=>by
    obtain ⟨AL,AN,AO,h3⟩:=zHQ AH Ak.X hm;exact ⟨fu,Cg _,i + 1,gc m A5,AL,h,AN,⟨AO,fun z=>Ak.n (h3 _ z),Ak.st⟩,AY⟩
   cases ry with
   | next=>exact go h
   | cont=>exact go h
   | brk=>exact qq _ _ _ _ _ h AH Ak.X AY .next
   | ret rv=>exact qq _ _ _ _ _ h AH Ak.X AY (.ret rv)
end
section
variable{prog:Program}{w:World}{A:Around}{K:Frag}{ρ:List Addr}{σ:Sto}{s:Shared}
set_option backward.match.sparseCases true in
theorem zBc{it:Addr}{o:Obj}{T:String}{t:Expr}{x:Value}{Q:Unit->Shared->Prop}{E:Value->Shared->Prop}(ho:s.heap.get? it=some o)(hc:o.cls= .type T)
  (hT:["enumerate","zip","dict_itemiterator","dict_reverseitemiterator","odict_iterator","itertools.zip_longest","itertools.pairwise"].contains T=false) (q:Q () s):wpAny (model prog w) A (letOwnedTupleGo t (.ref it) x) Q E s:=by
 have core:∀a:Addr,wpAny (model prog w) A (do
   let o <-load it
   match o.cls,o.data with
   | .type n,.fields vs=>
    if ["enumerate","zip","dict_itemiterator","dict_reverseitemiterator","odict_iterator","itertools.zip_longest","itertools.pairwise"].contains n && vs[0]? ==some (rawInt a) then
     rule "for.unpacks-the-owned-tuple"
     updateField it 0 .none
   | _,_=>pure ():Sem Unit) Q E s:=by
  intro a;refine BK (wpAny_load ho ?_);rw [hc];cases o.data with
  | fields=>
   dsimp only;rw [hT,Bool.false_and,if_neg Bk];exact BM q
  | _=>exact BM q
 unfold letOwnedTupleGo;cases t with
 | Tuple=>cases x with
  | ref=>exact core _
  | _=>exact BM q
 | List=>cases x with
  | ref=>exact core _
  | _=>exact BM q
 | _=>exact BM q
noncomputable def nxL(src:V)(σ:Sto)(k:Nat):Option (Option V):=(zR src σ).map (·[k]?)
theorem zBN{cls:String}{o:Obj}{a b:Value}(hc:o.cls= .type cls)(hd:o.data= .fields #[a,b])(h:(cls=="range")=false):kpt true o=false:=by
 unfold kpt;rw [hd,hc];dsimp only;split
 ·exact h
 ·rfl
theorem zDM{src:V}{a it:Addr}:Itr prog w K it (nxL src) (fun k h=>h.IsListIter it a k) (fun ρ h=>VR ρ h src (.ref a)) where
 own:=fun k h ⟨o,ho,hc,hd⟩=>⟨o,ho,zBN hc hd (by decide)⟩
 frame:=fun k h h' ⟨o,ho,r⟩ f=>⟨o,f _ ho,r⟩
 prExt:=fun ρ s AC s' r x=>r.ext x
 item:=fun k σ ρ s v A Q E hh hx I hs hp q=>by
  refine yJ hx fun l hl hv=>?_;refine wG I hl hp fun b items m e ho rs=>?_;cases e;obtain ⟨x,hx',rx⟩:=rs.get hv;obtain ⟨o,h1,h2,h3⟩:=id hs;exact wpAny_pyNext_list_item hs ⟨_,ho,rfl,m,rfl⟩ (x:=x) (CU▸hx') fun h' hi hb=>q h' s.toks x hb.extBut hi (rx.but h1 (zBN h2 h3 (by decide)) hb.extBut)
 done:=fun k σ ρ s A Q E hh hx I hs hp q=>by
  refine yJ hx fun l hl hv=>?_;refine wG I hl hp fun b items m e ho rs=>?_;cases e;exact wpAny_pyNext_list_end hh hs ⟨_,ho,rfl,m,rfl⟩ (Array.getElem?_eq_none_iff.mpr (rs.size▸Cu.mp hv)) fun h' hb=>q h' s.toks hb
 lets:=fun k s t x A Q E ⟨o,ho,hc,_⟩ q=>zBc ho hc (by decide) q
 self:=fun k s A Q E h q=>wpAny_pyIter_listiter h q
noncomputable def nxT(l:List V)(_:Sto)(k:Nat):Option (Option V):=some l[k]?
theorem zMX{l:List V}{a it:Addr}:Itr prog w K it (nxT l) (fun k h=>h.IsTupleIter it a k) (fun ρ h=>VR ρ h (.tup l) (.ref a)) where
 own:=fun k h ⟨o,ho,hc,hd⟩=>⟨o,ho,zBN hc hd (by decide)⟩
 frame:=fun k h h' ⟨o,ho,r⟩ f=>⟨o,f _ ho,r⟩
 prExt:=fun ρ s AC s' r x=>r.ext x
 item:=fun k σ ρ s v A Q E hh hx I hs hp q=>by
  refine zCw hp fun b items m e _ ho rs=>?_;cases e;obtain ⟨x,hx',rx⟩:=rs.get (CR hx);obtain ⟨o,h1,h2,h3⟩:=id hs;exact wpAny_pyNext_tuple_item hs ⟨_,ho,rfl,m,rfl⟩ (x:=x) (CU▸hx') fun h' hi hb=>q h' s.toks x hb.extBut hi (rx.but h1 (zBN h2 h3 (by decide)) hb.extBut)
 done:=fun k σ ρ s A Q E hh hx I hs hp q=>by
  refine zCw hp fun b items m e _ ho rs=>?_;cases e;exact wpAny_pyNext_tuple_end hh hs ⟨_,ho,rfl,m,rfl⟩ (Array.getElem?_eq_none_iff.mpr (rs.size▸Cu.mp (CR hx))) fun h' hb=>q h' s.toks hb
 lets:=fun k s t x A Q E ⟨o,ho,hc,_⟩ q=>zBc ho hc (by decide) q
 self:=fun k s A Q E h q=>wpAny_pyIter_tupleiter h q
noncomputable def nxS(x:Str)(_:Sto)(k:Nat):Option (Option V):=some (x.cps[k]?.map fun c=> .str ⟨#[c]⟩)
theorem zMa{x:Str}{t:Tok}{it:Addr}{ty:String}(hty:ty="str_ascii_iterator"\/ty="str_iterator"):Itr prog w K it (nxS x) (fun k h=>h.IsStrIter it ty x t k) (fun _ _=>True) where
 own:=fun k h ⟨o,ho,hc,hd⟩=>⟨o,ho,zBN hc hd (by rcases hty with rfl | rfl <;>decide)⟩
 frame:=fun k h h' ⟨o,ho,r⟩ f=>⟨o,f _ ho,r⟩
 prExt:=fun _ _ _ _ _ _=>trivial
 item:=fun k σ ρ s v A Q E hh hx I hs hp q=>by
  refine yJ (CR hx) fun c hc e__=>?_;cases e__;rcases hty with rfl | rfl
  ·exact wpAny_pyNext_ascii_item hs hc fun h' hi hb=>q h' _ _ hb.extBut hi yL
  ·exact wpAny_pyNext_wide_item hs hc fun h' hi hb=>q h' _ _ hb.extBut hi yL
 done:=fun k σ ρ s A Q E hh hx I hs hp q=>by
  have hc:x.cps[k]? =none:=Option.map_eq_none_iff.mp (CR hx);rcases hty with rfl | rfl
  ·exact wpAny_pyNext_ascii_end hh hs hc fun h' hb=>q h' s.toks hb
  ·exact wpAny_pyNext_wide_end hh hs hc fun h' hb=>q h' s.toks hb
 lets:=fun k s t x A Q E ⟨o,ho,hc,_⟩ q=>zBc ho hc (by rcases hty with rfl | rfl <;>decide) q
 self:=fun k s A Q E h q=>by
  rcases hty with rfl | rfl
  ·exact wpAny_pyIter_striter_ascii h q
  ·exact wpAny_pyIter_striter_wide h q
noncomputable def nxR(a b c:Int)(_:Sto)(k:Nat):Option (Option V):=some (if (k:Int) < Builtin.Range.rangeSize a b c then some (.int (a + k * c)) else none)
theorem zMP{a b c:Int}{it:Addr}:Itr prog w K it (nxR a b c) (fun k h=>IsRangeIter h it (a + k * c) (Builtin.Range.rangeSize a b c - k) c) (fun _ _=>True) where
 own:=fun k h ho=>⟨_,ho,rfl⟩
 frame:=fun k h h' ho f=>f _ ho
 prExt:=fun _ _ _ _ _ _=>trivial
 item:=fun k σ ρ s v A Q E hh hx I hs hp q=>by
  have hx:=CR hx;split at hx
  ·rename_i hk
   cases hx;refine wpAny_pyNext_range_item hs (by lia) fun h' hi hb=>q h' _ _ hb.extBut ?_ vZ;rw [Int.natCast_succ,Int.add_mul,Int.one_mul,<-Int.add_assoc,<-Int.sub_sub];exact hi
  ·exact noS hx
 done:=fun k σ ρ s A Q E hh hx I hs hp q=>by
  have hx:=CR hx;split at hx
  ·exact noS hx.symm
  ·rename_i hk
   exact wpAny_pyNext_range_end hh hs (by lia) fun h' hb=>q h' s.toks hb
 lets:=fun k s t x A Q E ho q=>zBc ho rfl (by decide) q
 self:=fun k s A Q E h q=>wpAny_pyIter_rangeiter h q
noncomputable def zJ5(v:V)(σ:Sto):Option Nx:=match v with
 | .str x=>some (nxS x)
 | .tup l=>some (nxT l)
 | .rng a b c=>if Builtin.Range.small a b c then some (nxR a b c) else none
 | v=>(zR v σ).map fun _=>nxL v
theorem zAJ{v:V}{nx:Nx}(h:zJ5 v σ=some nx){x:Value}(I:Inv K ρ σ s)(rx:VR ρ s.heap v x){Q:Value->Shared->Prop}{E:Value->Shared->Prop}
  (q:∀it s' St Pr,s.heap.get? it=none->Itr prog w K it nx St Pr->Inv K ρ σ s'->ItAt ρ s it St 0 ρ s'->Pr ρ s'.heap->Pr ρ s.heap->Q (.ref it) s'):wpAny (model prog w) A (pyIter x) Q E s:=by
 have mk:∀(o:Obj) (St:Nat->Heap->Prop) (Pr:List Addr->Heap->Prop),Itr prog w K s.heap.objs.size nx St Pr->St 0 (s.heap.push o)->Pr ρ s.heap->Q (.ref s.heap.objs.size) {s with heap:=s.heap.push o}:=fun o St Pr W h0 hp0=>
  have xx:=I.extra o s.toks
  q _ _ St Pr (qK _) W xx.1 ⟨xx.2,I.fresh,h0⟩ (W.prExt _ _ _ _ hp0 xx.2) hp0
 have lst:((zR v σ).map fun _=>nxL v)=some nx->wpAny (model prog w) A (pyIter x) Q E s:=fun h=>by
  refine yJ h fun l hl e__=>?_;cases e__;refine wG I hl rx fun a items m e__ ho rs=>?_;cases e__;exact wpAny_pyIter_list ⟨_,ho,rfl,m,rfl⟩ (mk _ _ _ (zDM (a:=a)) ⟨_,Bf _ rfl,rfl,rfl⟩ rx)
 cases v with
 | str u=>
  cases h;obtain ⟨t,rfl⟩:=vrS rx;cases hc:u.cps.all (· < 128) with
  | true=>exact wpAny_pyIter_ascii hc (mk _ _ _ (zMa (t:=t) (.inl rfl)) ⟨_,Bf _ rfl,rfl,rfl⟩ trivial)
  | false=>exact wpAny_pyIter_wide hc (mk _ _ _ (zMa (t:=t) (.inr rfl)) ⟨_,Bf _ rfl,rfl,rfl⟩ trivial)
 | tup l=>
  cases h;refine zCw rx fun a items m e__ hn ho rs=>?_;cases e__;exact wpAny_pyIter_tuple ⟨_,ho,rfl,m,rfl⟩ (mk _ _ _ (zMX (a:=a)) ⟨_,Bf _ rfl,rfl,rfl⟩ rx)
 | rng a b c=>
  have h:(if Builtin.Range.small a b c then some (nxR a b c) else none)=some nx:=h;split at h
  ·rename_i hs
   cases h;obtain ⟨p,t,u,v,rfl,_,ho⟩:=rx;refine wpAny_pyIter_range ho hs (mk _ _ _ zMP ?_ trivial);rw [Int.natCast_zero,Int.zero_mul,Int.add_zero,Int.sub_zero];exact Bf _ rfl
  ·exact noS h
 | _=>exact lst h
end
noncomputable def zA9:List (Str×NameKind)->List (Str×Nat)->Sto->List (Str×Nat)×Sto
 | [],acc,σ=>(acc,σ)
 | p::r,acc,σ=>(match p.2==E0 with
  | true=>zA9 r ((p.1,σ.length)::acc) (σ ++ [.cell none])
  | false=>zA9 r acc σ)
noncomputable def zBI:List (Str×V)->AE->Sto->Option Sto
 | [],_,σ=>some σ
 | p::r,ae,σ=>(qM p.1 p.2 ae σ).bind fun A4=>zBI r ae A4
noncomputable def zO7(scope:Scope)(cl:List (Str×Nat))(qual:Str)(code:Value)(σ:Sto):AE:={scope,loc:=σ.length,cells:=(zA9 scope.names cl (σ ++ [.ns []])).1,qual,code}
noncomputable def zF0(scope:Scope)(cl:List (Str×Nat))(binds:List (Str×V))(qual:Str)(code:Value)(σ:Sto):Option (AE×Sto):=(zBI binds (zO7 scope cl qual code σ) (zA9 scope.names cl (σ ++ [.ns []])).2).map fun AA=>(zO7 scope cl qual code σ,AA)
section
variable{prog:Program}{w:World}{A:Around}{K:Frag}{n:Nat}{q:RecK}{ae:AE}{env:Env}{ρ A7:List Addr}{σ A4:Sto}{s A6:Shared}{pos:Pos}{M:Model}
theorem zLr{names:List (Str×NameKind)}{acc:List (Str×Addr)}{accA:List (Str×Nat)}(I:Inv K ρ σ s)(c:qC ρ accA acc):
  ∃AC,Inv K AC (zA9 names accA σ).2 {s with heap:=pushCells s.heap names}/\Ext ρ s AC {s with heap:=pushCells s.heap names}/\qC AC (zA9 names accA σ).1 (cellsFrom s.heap.objs.size names acc):=by
 induction names generalizing ρ σ s acc accA with
 | nil=>exact ⟨ρ,I,.refl _ _,c⟩
 | cons p r ih=>
  unfold pushCells cellsFrom;show ∃AC,Inv K AC (match p.2==E0 with
   | true=>zA9 r ((p.1,σ.length)::accA) (σ ++ [Ob.cell none])
   | false=>zA9 r accA σ).2 _/\Ext ρ s AC _/\qC AC (match p.2==E0 with
   | true=>zA9 r ((p.1,σ.length)::accA) (σ ++ [Ob.cell none])
   | false=>zA9 r accA σ).1 _
  cases hk:p.2==E0 with
  | true=>
   have x:=I.alloc (o:={cls:= .type "cell",data:= .cell none}) (ob:= .cell none) s.toks ⟨_,[],Bf _ rfl,vrs_nil',rfl⟩;obtain ⟨AC,I',X',c'⟩:=ih (acc:=(p.1,s.heap.objs.size)::acc) (accA:=(p.1,σ.length)::accA) x.1 ⟨s.heap.objs.size,acc,rfl,I.last _,c.mono x.2.preP⟩;rw [show ({s with heap:=s.heap.push {cls:= .type "cell",data:= .cell none}}:Shared).heap.objs.size=s.heap.objs.size + 1 from Heap.size_push ..] at c';exact ⟨AC,I',x.2.then x.1 X',c'⟩
  | false=>exact ih I c
theorem zC1(f:Str×Value->PUnit->Sem (ForInStep PUnit))(hf:∀n v u,f (n,v) u=(do storeName env n v; pure (.yield ⟨⟩))){b:List (Str×V)}{l:List (Str×Value)}(X:EnvR ρ ae env)(I:Inv K ρ σ s)(R:yB ρ s.heap b l):Upd K ρ s (zBI b ae σ) (fun Q E=>wpAny (model prog w) A (forIn l (⟨⟩:PUnit) f) Q E s):=by
 induction b generalizing l σ s with
 | nil=>
  cases kH R;exact .some ⟨I,.refl _ _⟩ fun Q E q=>by rw [DI]; exact BM q
 | cons p r ih=>cases l with
  | nil=>exact nomatch R.1
  | cons p' l=>
   intro AA h Q E q;refine zJ h fun A4 h1 h=>?_;obtain ⟨y,ys,e,ry,rys⟩:=R.2;obtain ⟨e1,e2⟩:=Cc e;obtain ⟨k1,k2⟩:=Cc R.1;obtain ⟨x',y'⟩:=p';subst e1 e2;have k1:x'=p.1:=k1;subst k1;rw [CM,hf];exact BK (BK (kQ X I ry _ h1 _ _ fun A6 AG AK=>BM (ih AG ⟨k2,rys.ext AK⟩ _ h _ _ fun A9 AH AP=>q _ AH (AK.then AG AP))))
theorem zNJ{T:Value}(I:Inv K ρ σ s):Inv K (ρ ++ [s.heap.objs.size]) (σ ++ [.ns []]) {s with heap:=s.heap.push {cls:=T,data:= .dict #[]}}/\Ext ρ s (ρ ++ [s.heap.objs.size]) {s with heap:=s.heap.push {cls:=T,data:= .dict #[]}}:=by
 obtain ⟨o,es,ep,ho,hd,hk,hm⟩:=Heap.Ns.new s.heap T;exact I.alloc (o:={cls:=T,data:= .dict #[]}) (ob:= .ns []) s.toks ⟨o,[],ho,vrs_nil',es,ep,hd,hk,hm⟩
theorem zAR{scope:Scope}{cl:List (Str×Nat)}{closure:List (Str×Addr)}{b:List (Str×V)}{l:List (Str×Value)}{qual:Str}{codeA code:Value}{func:Option Addr}{e:AE×Sto}
  (h:zF0 scope cl b qual codeA σ=some e) (hca:codeA= .none\/code=codeA) (I:Inv K ρ σ s) (hc:qC ρ cl closure) (hb:yB ρ s.heap b l) (hk:scope.kind= .function)
  {Q:Env->Shared->Prop} {E:Value->Shared->Prop} (qq:∀AC s' env',Inv K AC e.2 s'->Ext ρ s AC s'->EnvR AC e.1 env'->Q env' s'):wpAny (model prog w) A (newFunctionEnv scope mainGlobals closure l qual func code none builtinsNs) Q E s:=by
 refine yJ h fun AA h1 e__=>?_;cases e__;unfold newFunctionEnv;rw [if_neg (show ¬(Option.isSome (none:Option Env))=true from Bk)];refine BK (wpAny_alloc ?_);have x:=zNJ (T:= .type "frame") I;refine BK (wpAny_layCells _ (fun name kind cells=>by cases hkc:kind==E0 <;>simp [hkc]) _ _ _ _ ?_);obtain ⟨AC,I',X',c'⟩:=zLr (names:=scope.names) (acc:=closure) (accA:=cl) x.1 (hc.mono x.2.preP);have XX:=x.2.then x.1 X';have EE:EnvR AC (zO7 scope cl qual codeA σ) {scope,locals:=s.heap.objs.size,globals:=mainGlobals,cells:=cellsFrom (s.heap.push {cls:= .type "frame",data:= .dict #[]}).objs.size scope.names closure,qual,func,code,frame:=some s.heap.objs.size,builtins:=builtinsNs}:=
  ⟨rfl,X'.preP _ _ (I.last _),c',rfl,rfl,rfl,hca,hk⟩
 refine BK ?_;refine zC1 _ (fun _ _ _=>rfl) EE I' (hb.ext XX) _ h1 _ _ fun A9 AH AP=>?_;exact BM (qq _ _ _ AH (XX.then I' AP) (EE.ext AP))
end
noncomputable abbrev Bnd:=Addr->List V->List (Str×V)->Sto->Option (List (Str×V)×Sto)
structure FnAt(K:Frag)(a:Addr)(fd:FuncData):Prop where
 o:∃o,K.lookup a=some o/\o.data= .func fd
 code:codeIn K fd.code fd.qualname=true
 co:fd.scope.isCoroutine=false
 gen:fd.scope.isGenerator=false
 kind:fd.scope.kind= .function
 glob:fd.globals=mainGlobals
 bi:fd.builtins=builtinsNs
 cl:fd.closure=[]
structure FnOK(prog:Program)(w:World)(K:Frag)(fn:Addr->Option FuncData)(B:Bnd):Prop where
 at':∀a fd,fn a=some fd->FnAt K a fd
 lim:∀h,K.In h->h.NoLimit
 bind:∀a fd args kw b σ A4,fn a=some fd->B a args kw σ=some (b,A4)->∀A ρ s xs xk,Inv K ρ σ s->VRs ρ s.heap args xs->yB ρ s.heap kw xk->
  ∀(Q:List (Str×Value)->Shared->Prop) (E:Value->Shared->Prop),(∀AC s' l,Inv K AC A4 s'->Ext ρ s AC s'->yB AC s'.heap b l->Q l s')->wpAny (model prog w) A (bindArgs fd ⟨xs,xk⟩) Q E s
noncomputable def zDc:FuncBody->Option (List Stmt)
 | .stmts b=>some b
 | _=>none
noncomputable def zOg:FuncBody->Option Expr
 | .expr b=>some b
 | _=>none
noncomputable def zQV(m:Nat)(v:V)(σ:Sto)(k:V->Sto->Sy):Sy:=match gcv m v σ with
 | (u,A8)=>k u A8
noncomputable def kU(q:RecK)(m:Nat)(body:List Stmt)(ae:AE)(σ:Sto)(k:V->Sto->Sy):Sy:=kS q body ae σ fun f A5=>match f with
 | .ret v=>zQV m v A5 k
 | .next=>zQV m .none A5 k
 | _=> .fail
noncomputable def zAc(fn:Addr->Option FuncData)(B:Bnd)(q:RecK)(a:Addr)(args:List V)(kw:List (Str×V))(σ:Sto)(k:V->Sto->Sy):Sy:=
 liO (fn a) fun fd=>liO (zDc fd.body) fun body=>liO (B a args kw σ) fun p=>liO (zF0 fd.scope [] p.1 (fd.qualname ++ ".<locals>.") fd.code p.2) fun e=>kU q σ.length body e.1 e.2 k
noncomputable def Ret(prog:Program)(w:World)(A:Around)(c:Code)(s:Shared):(Value->Shared->Prop)->(Value->Shared->Prop)->Prop:=fun Q _=>∀R:Result->Shared->Prop,(∀x s',Q x s'->R (.ok (.ret x)) s')->codeAny (model prog w) A c R s
section
variable{prog:Program}{w:World}{A:Around}{K:Frag}{fn:Addr->Option FuncData}{B:Bnd}{n:Nat}{q:RecK}{ae:AE}{env:Env}{ρ AB:List Addr}{σ:Sto}{s AD:Shared}{pos:Pos}{kp kf:Addr->Bool}
theorem Rm.deeper(h:Rm A (n + 1))(env:Env):Rm (A.deeper env) n:=⟨h.1,by show A.depth + 1 + 4 * n < _; have:=h.2.1; lia,by show A.units + 3 + 16 * n < _; have:=h.2.2; lia⟩
theorem Rm.room(h:Rm A n):A.depth < recursionLimit:=C4 (C6 _ _) h.2.1
theorem zR2{b:FuncBody}{l:List Stmt}(h:zDc b=some l):b= .stmts l:=by
 cases b with
 | stmts=>cases h; rfl
 | expr=>exact noS h
theorem zSU{b:FuncBody}{l:Expr}(h:zOg b=some l):b= .expr l:=by
 cases b with
 | expr=>cases h; rfl
 | stmts=>exact noS h
theorem zE3{m:Nat}{v:V}{x:Value}{k:V->Sto->Sy}{z:V×Sto}(hk:run (zQV m v σ k)=some z)(I:Inv K ρ σ s)(X:Ext AB AD ρ s)(hm:AB.length<=m)(r:VR ρ s.heap v x):∃u AA AC,run (k u AA)=some z/\Inv K AC AA s/\Ext AB AD AC s/\VR AC s.heap u x:=by
 obtain ⟨AC,I',X',r'⟩:=zMY I X hm r;exact ⟨_,_,AC,hk,I',X',r'⟩
theorem zAG(FO:FnOK prog w K fn B)(hr:SndK prog w K n q)(hA:Rm A (n + 1)){a:Addr}{args:List V}{kw:List (Str×V)}(I:Inv K ρ σ s){xs:List Value}{xk:List (Str×Value)}(rs:VRs ρ s.heap args xs)(rk:yB ρ s.heap kw xk):
  zC K ρ s (zAc fn B q a args kw σ) (Ret prog w A (.call (.ref a) ⟨xs,xk⟩) s) VRr:= .li fun fd hf=> .li fun body hb=> .li fun p hB=> .li fun e he=>fun hs k z hz Q E qq R hR=>by
 have F:=FO.at' a fd hf;obtain ⟨o,ho,hd⟩:=F.o;refine codeAny_call_function hA.room (I.stat _ _ ho) hd F.co F.gen (zR2 hb) (codeRec_of I.kin F.code) ?_;refine yY hs _ _ (FO.bind a fd args kw p.1 _ _ hf hB _ _ _ _ _ I rs rk _ _ fun A7 A6 l AG AK rl AS=>?_);rw [F.glob,F.bi,F.cl];refine yY AS _ _ (zAR he (.inr rfl) AG (cl:=[]) rfl rl F.kind fun AJ A9 env AH AP Av AU=>⟨FO.lim _ AH.kin,?_⟩);refine codeAny_func ((At.mk hr (hA.deeper env) Av AH).st _ AU _ _ hz _ _ fun f A5 AL AF y hk AN AO AQ rf=>?_);have go:∀{v:V} {x:Value},run (zQV σ.length v A5 k)=some z->VR AL AF.heap v x->R (.ok (.ret x)) AF:=fun hk r=>by
  obtain ⟨u,AA,AC,hk,I',X',r'⟩:=zE3 hk AN ((AK.then AG AP).then AH AO) (D2 I.len) r;exact hR _ _ (qq _ _ _ _ _ hk I' X' AQ r')
 cases rf with
 | ret rv=>exact go hk rv
 | next=>exact go hk qA
 | _=>exact noS hk
noncomputable def kKw(q:RecK):List Keyword->AE->Sto->(List (Str×V)->Sto->Sy)->Sy
 | [],_,σ,k=>k [] σ
 | kw::rest,ae,σ,k=>liO kw.arg fun x=>q.e kw.value ae σ fun v A4=>kKw q rest ae A4 fun l A5=>k ((x,v)::l) A5
noncomputable def zUO(q:RecK)(args:List Expr)(kws:List Keyword)(ae:AE)(σ:Sto)(k:List V×List (Str×V)->Sto->Sy):Sy:=kL q args ae σ fun vs A4=>kKw q kws ae A4 fun l A5=>k (vs,l) A5
noncomputable def zBH(args:List Expr)(kws:List Keyword):Bool:=args.all (fun e=>!xX e) && kws.all (·.arg.isSome)
structure KwSh(pos:Pos)(kws:List Keyword)(env:Env):Prop where
 all:(backToKw pos (keywordEach kws env)).all (·.1.isSome)=true
 any:((backToKw pos (keywordEach kws env)).any (·.1.isNone))=false
 len:(backToKw pos (keywordEach kws env)).length=kws.length
theorem zQc{kws:List Keyword}(h:kws.all (·.arg.isSome)=true):KwSh pos kws env:=by
 induction kws with
 | nil=>exact ⟨rfl,rfl,rfl⟩
 | cons kw r ih=>
  obtain ⟨o,e,p⟩:=kw;refine zF ((D7).symm.trans h) fun h1 h2=>?_;obtain ⟨x,hx⟩:=CW.mp h1;have hx:o=some x:=hx;subst hx;obtain ⟨a,b,c⟩:=ih h2;exact ⟨a,b,congrArg (· + 1) c⟩
theorem zQz(a:At prog w K n q A ae env ρ σ s){kws:List Keyword}:zC K ρ s (kKw q kws ae σ) (W prog w A s (evalAll ((backToKw pos (keywordEach kws env)).map (·.2)))) (fun ρ h l ys=>VRs ρ h (zU l) ys/\(backToKw pos (keywordEach kws env)).filterMap (·.1)=zG l):=by
 induction kws generalizing ρ σ s with
 | nil=>exact .ret a.I ⟨vrs_nil',rfl⟩ fun _ _=>wpAny_evalAll_nil
 | cons kw rest ih=>
  obtain ⟨o,e,p⟩:=kw;refine .li fun x hx=>?_;have hx:o=some x:=hx;subst hx;exact (a.e e).then (g:=fun v A4 k=>kKw q rest ae A4 fun l A5=>k ((x,v)::l) A5) (fun y A6 Q E=>wpAny (model prog w) A (evalAll ((backToKw pos (keywordEach rest env)).map (·.2))) (fun ys A9=>Q (y::ys) A9) E A6) (fun _ _ h=>wpAny_evalAll_cons (BK (C7 h (fun y A6 AR=>BK (Cb (BM AR))) fun _ _ h=>h))) fun v A4 A7 A6 y I Y r=>
   (ih (a.mv I Y)).map ((x,v)::·) (y::·) (fun _ _ h=>h) fun l ys AJ A9 Z rr=>⟨⟨y,ys,rfl,r.ext Z,rr.1⟩,congrArg (x::·) rr.2⟩
theorem zFj{h:Heap}{l:List (Str×V)}{ys:List Value}(r:VRs ρ h (zU l) ys):yB ρ h l ((zG l).zip ys):=by
 have e:∀{l:List (Str×V)} {ys:List Value},VRs ρ h (zU l) ys->zG ((zG l).zip ys)=zG l/\((zG l).zip ys).map (·.2)=ys:=fun {l}=>by
  induction l with
  | nil=>intro ys r; cases zW r; exact ⟨rfl,rfl⟩
  | cons p l ih=>
   intro ys r;obtain ⟨y,ys,rfl,_,b⟩:=r;obtain ⟨i1,i2⟩:=ih b;exact ⟨congrArg (p.1::·) i1,congrArg (y::·) i2⟩
 exact ⟨(e r).1,(e r).2.symm▸r⟩
theorem zIv{es:List Expr}(h:es.all (fun e=>!xX e)=true):((backTo pos (starEach es env)).any (·.1))=false:=by
 induction es with
 | nil=>rfl
 | cons e es ih=>
  refine zF ((D7).symm.trans h) fun h1 h2=>?_;rw [yW ((Bx _).mp h1)];exact ih h2
theorem zBL{args:List Expr}{kws:List Keyword}(h:zBH args kws=true):((backTo pos (starEach args env)).any (·.1) || (backToKw pos (keywordEach kws env)).any (·.1.isNone))=false:=by
 refine zF h fun h1 h2=>?_;rw [zIv h1,(zQc h2).any]; rfl
theorem zNU(a:At prog w K n q A ae env ρ σ s){args:List Expr}{kws:List Keyword}(h:zBH args kws=true)(f:Value):zC K ρ s (zUO q args kws ae σ) (W prog w A s (evalArgs f true (backTo pos (starEach args env)) (backToKw pos (keywordEach kws env)))) (fun ρ h p (a:Args)=>VRs ρ h p.1 a.pos/\yB ρ h p.2 a.kw):=by
 refine zF h fun h1 h2=>?_;have k1:=(zQc (pos:=pos) (env:=env) h2).all;cases args with
 | nil=>exact (zQz a).map ([],·) (fun ks=>⟨[],((backToKw pos (keywordEach kws env)).filterMap (·.1)).zip ks⟩) (fun _ _ h=>evalArgs_kw_nil k1 h) fun l ys AJ A9 Z rr=>⟨vrs_nil',rr.2.symm▸zFj rr.1⟩
 | cons e es=>
  refine zF ((D7).symm.trans h1) fun e1 _=>?_;have e2:=yW (env:=env) (es:=es) ((Bx _).mp e1);exact (a.l (pos:=pos) (e::es)).then (g:=fun vs A4 k=>kKw q kws ae A4 fun l A5=>k (vs,l) A5) (fun vs A6 Q E=>wpAny (model prog w) A (evalAll ((backToKw pos (keywordEach kws env)).map (·.2))) (fun ks A9=>Q ⟨vs,((backToKw pos (keywordEach kws env)).filterMap (·.1)).zip ks⟩ A9) E A6)
   (fun Q E h=>by rw [e2] at h ⊢; exact evalArgs_kw k1 h) fun vs A4 A7 A6 xs I Y r=>
   (zQz (a.mv I Y)).map (vs,·) (fun ks=>⟨xs,((backToKw pos (keywordEach kws env)).filterMap (·.1)).zip ks⟩) (fun _ _ h=>h) fun l ys AJ A9 Z rr=>⟨r.ext Z,rr.2.symm▸zFj rr.1⟩
end
noncomputable def zU0(kf:Addr->Bool):Ob->Bool
 | .lam _ _ _=>true
 | .meth g _=>kf g
 | _=>false
noncomputable def zV5(kp kf:Addr->Bool)(f:V)(σ:Sto):Bool:=match f with
 | .val v=>(match v with
  | .ref a=>kp a
  | .builtin _=>true
  | .type _=>true
  | _=>false)
 | .trk i=>(match σ[i]? with | some ob=>zU0 kf ob | none=>false)
 | _=>false
structure KeepOK(K:Frag)(kp kf:Addr->Bool):Prop where
 keep:∀a,kp a=true->keepIn K (.ref a)=true
 fnk:∀a,kf a=true->fnIn K a=true
noncomputable def zDN(kp kf:Addr->Bool)(q:RecK)(fv:V)(first:List V)(args:List Expr)(kws:List Keyword)(ae:AE)(σ:Sto)(k:V->Sto->Sy):Sy:=
 if zBH args kws then zUO q args kws ae σ fun p A5=>if zV5 kp kf fv A5 then q.c fv (first ++ p.1) p.2 A5 k else .fail else .fail
noncomputable def zJ3(kp kf:Addr->Bool)(q:RecK)(f:Expr)(args:List Expr)(kws:List Keyword)(ae:AE)(σ:Sto)(k:V->Sto->Sy):Sy:=q.e f ae σ fun fv A4=>zDN kp kf q fv [] args kws ae A4 k
noncomputable def zBG(e:Expr):Bool:=BQ (zNc e) 5
noncomputable def zA8:Expr->Bool
 | .Call f args kws _=>(match f with
  | .Name _ _=>args.isEmpty && kws.isEmpty
  | _=>false)
 | _=>false
noncomputable def zU4(kp kf:Addr->Bool)(m:Mth)(q:RecK)(o:Expr)(name:Str)(apos pos:Pos)(args:List Expr)(kws:List Keyword)(ae:AE)(σ:Sto)(k:V->Sto->Sy):Sy:=
 if !zA8 o && (apos.endLine==pos.line && (decide (args.length + kws.length < 29) && zBH args kws)) then q.e o ae σ fun u A4=>liO (m u name A4) fun p=>zDN kp kf q p.1 p.2 args kws ae A4 k else .fail
noncomputable def zUL(T:zCu)(q:RecK)(o:Expr)(name:Str)(ae:AE)(σ:Sto)(k:V->Sto->Sy):Sy:=if zA8 o then .fail else q.e o ae σ fun u A4=>liO (zIh T u name A4) fun p=>k p.1 p.2
noncomputable def zIx(T:zCu)(q:RecK)(o:Expr)(name:Str)(e:Expr)(ae:AE)(σ:Sto)(k:Fl->Sto->Sy):Sy:=if zAa e then .fail else q.e e ae σ fun v A4=>q.e o ae A4 fun u A5=>liO (zFP T u name v A5) fun A8=>k Fl.next A8
noncomputable def zHA(T:zCu)(q:RecK)(o:Expr)(name:Str)(op:Operator)(e:Expr)(ae:AE)(σ:Sto)(k:Fl->Sto->Sy):Sy:=q.e o ae σ fun u A4=>liO (zIh T u name A4) fun p=>q.e e ae p.2 fun b A8=>zAK op p.1 b A8 fun v AI=>liO (zFP T u name v AI) fun AM=>k Fl.next AM
noncomputable def wA(o i v:V)(σ:Sto):Option Sto:=match o with
 | .trk n=>(match i with
  | .int k=>(nlA σ n).bind fun l=>if decide (0<=k) && (decide (k < l.length) && decide (l.length<=1000)) then some (σ.set n (.list (l.set k.toNat v))) else none
  | _=>none)
 | _=>none
noncomputable def zSk(o x:V)(σ:Sto):Option V:=match o with
 | .trk i=>(lsA σ i).bind fun l=>xM (.tup l) x
 | .lst l=>xM (.tup l) x
 | o=>xM o x
noncomputable def zGy(q:RecK)(o i:Expr)(op:Operator)(e:Expr)(ae:AE)(σ:Sto)(k:Fl->Sto->Sy):Sy:=match slK i with
 | .no=>q.e o ae σ fun u A4=>q.e i ae A4 fun x A5=>liO (zSk u x A5) fun a=>q.e e ae A5 fun b A8=>zAK op a b A8 fun v AI=>liO (wA u x v AI) fun AM=>k Fl.next AM
 | _=> .fail
section
variable{prog:Program}{w:World}{A:Around}{K:Frag}{n:Nat}{q:RecK}{ae:AE}{env:Env}{ρ:List Addr}{σ:Sto}{s:Shared}{pos:Pos}{kp kf:Addr->Bool}{T:zCu}
noncomputable abbrev uZ(prog:Program)(w:World)(f:Value)(h:Heap):Prop:=∃k,(k=Keeper.frame\/k=Keeper.machine\/k=Keeper.boundFrame)/\Looks (model prog w) h (keeperOf f) k
theorem zP3(KO:KeepOK K kp kf){g:Addr}(h:kf g=true):∃o1 o2 fd o3,K.lookup g=some ⟨o1,o2,.func fd,o3⟩:=by
 have hf:=KO.fnk _ h;unfold fnIn at hf;cases e:K.lookup g with
 | none=>rw [e] at hf; exact noB hf
 | some o=>
  rw [e] at hf;obtain ⟨_,_,d,_⟩:=o;cases d with
  | func=>exact ⟨_,_,_,_,rfl⟩
  | _=>exact noB hf
theorem zMu(KO:KeepOK K kp kf){f:V}(h:zV5 kp kf f σ=true)(I:Inv K ρ σ s){x:Value}(rf:VR ρ s.heap f x):uZ prog w x s.heap:=by
 cases f with
 | val v=>cases v with
  | ref=>cases vrV rf; exact keeps_K (KO.keep _ h) s.heap I.kin
  | builtin=>cases vrV rf; exact ⟨.machine,.inr (.inl rfl),EM rfl⟩
  | type=>cases vrV rf; exact ⟨.machine,.inr (.inl rfl),EM rfl⟩
  | _=>exact noB h
 | trk i=>
  refine kM rf fun a ha e__=>?_;cases e__;have h:(match σ[i]? with | some ob=>zU0 kf ob | none=>false)=true:=h;cases hl:σ[i]? with
  | none=>rw [hl] at h; exact noB h
  | some ob=>
   rw [hl] at h;cases ob with
   | lam fd cl j=>
    obtain ⟨o,xs,ho,rs,c,cl',ct,pm,e1,e2,rfl⟩:=I.obs _ a _ ha hl;exact ⟨.frame,.inl rfl,(Looks.ld (part:=none) ho).andThen .now⟩
   | meth g u=>
    obtain ⟨o,xs,ho,rs,z,rfl,rfl⟩:=I.obs _ a _ ha hl;obtain ⟨_,_,_,_,e⟩:=zP3 KO h;exact ⟨.boundFrame,.inr (.inr rfl),(Looks.ld (part:=none) ho).andThen ((Looks.ld (part:=none) (I.stat _ _ e)).andThen .now)⟩
   | _=>exact noB h
 | _=>exact noB h
theorem zKP{f:Expr}{args:List Expr}{kws:List Keyword}(h:zBG f=false):eval (.Call f args kws pos) env=(do callWith pos (<-eval f env) [] (backTo pos (starEach args env)) (backToKw pos (keywordEach kws env))):=by
 cases f with
 | Attribute=>exact noB h.symm
 | _=>rfl
theorem zEU(KO:KeepOK K kp kf)(a:At prog w K n q A ae env ρ σ s){fv:V}{first:List V}{args:List Expr}{kws:List Keyword}{x:Value}{xf:List Value}(rf:VR ρ s.heap fv x)(rfs:VRs ρ s.heap first xf):
  zC K ρ s (zDN kp kf q fv first args kws ae σ) (W prog w A s (callWith pos x xf (backTo pos (starEach args env)) (backToKw pos (keywordEach kws env)))) VRr:= .only fun hp=>
 (zNU a hp x).then (g:=fun p A5 k=>if zV5 kp kf fv A5 then q.c fv (first ++ p.1) p.2 A5 k else .fail) (fun a A6 Q E=>uZ prog w x A6.heap/\wpAny (model prog w) A (call x (xf ++ a.pos) a.kw) Q E A6) (fun Q E h=>callWith_of (P:=uZ prog w x) (zBL hp) (fun h p=>p) h) fun p A4 A7 A6 b I Y r=>
  .only fun hk=>(a.hr.c _ _ _ _ _ _ _ _ _ _ a.hA I (rf.ext Y) ((rfs.ext Y).append r.1) r.2).rule fun Q E h=>⟨zMu KO hk I (rf.ext Y),h⟩
theorem zNq(KO:KeepOK K kp kf)(a:At prog w K n q A ae env ρ σ s){f:Expr}{args:List Expr}{kws:List Keyword}(hf:zBG f=false):zC K ρ s (zJ3 kp kf q f args kws ae σ) (W prog w A s (eval (.Call f args kws pos) env)) VRr:=
 (a.e f).then (g:=fun fv A4 k=>zDN kp kf q fv [] args kws ae A4 k) (fun x A6=>W prog w A A6 (callWith pos x [] (backTo pos (starEach args env)) (backToKw pos (keywordEach kws env)))) (fun Q E h=>by show wpAny (model prog w) A (eval (.Call f args kws pos) env) Q E s; rw [zKP hf]; exact BK h) fun fv A4 A7 A6 x I Y r=>zEU KO (a.mv I Y) r vrs_nil'
theorem zG8{o:Expr}{name:Str}{whole:Sem Value}(h:zA8 o=false):attributeBase o name env whole=whole:=by
 cases o with
 | Call f as ks=>
  cases f with
  | Name=>cases as with
   | nil=>cases ks with
    | nil=>exact noB h.symm
    | cons=>rfl
   | cons=>rfl
  | _=>rfl
 | _=>rfl
theorem zLE{args:List Expr}{kws:List Keyword}(h:zBH args kws=true)(c3:args.length + kws.length < 29):methodCallForm (args.length + kws.length) (backTo pos (starEach args env)) (backToKw pos (keywordEach kws env))=true:=by
 refine zF h fun h1 h2=>?_;have z:=zIv (pos:=pos) (env:=env) h1;refine Bd.mpr ⟨Bd.mpr ⟨?_,(zQc (pos:=pos) (env:=env) h2).all⟩,decide_eq_true ?_⟩
 ·rw [List.all_eq_not_any_not]
  rw [Bx];exact (congrArg (fun f=>List.any _ f) (funext fun x=>Bool.not_not _)).trans z
 ·split <;>lia
theorem zPT(hu:A.units + 65 < cLine)(KO:KeepOK K kp kf){m:Mth}(MO:MthOK prog w K m)(a:At prog w K n q A ae env ρ σ s){o:Expr}{name:Str}{apos:Pos}{args:List Expr}{kws:List Keyword}:
  zC K ρ s (zU4 kp kf m q o name apos pos args kws ae σ) (W prog w A s (eval (.Call (.Attribute o name apos) args kws pos) env)) VRr:= .only fun hc=>by
 refine zF hc fun c1 hc=>?_;refine zF hc fun c2 hc=>?_;refine zF hc fun c3 c4=>?_;have hpos:methodCallPos true o env apos pos=pure pos:=by unfold methodCallPos; simp [c2]
 refine (a.e o).then (g:=fun u A4 k=>liO (m u name A4) fun p=>zDN kp kf q p.1 p.2 args kws ae A4 k) (fun x A6 Q E=>wpAny (model prog w) A (getMethod x name (do return (<-importBound o env).getD true)) (fun p A9=>wpAny (model prog w) A (callWith pos p.1 p.2 (backTo pos (starEach args env)) (backToKw pos (keywordEach kws env))) Q E A9) E A6) (fun Q E h=>?_) fun u A4 A7 A6 x I Y r=> .li fun p hp=>?_
 ·show wpAny (model prog w) A (eval (.Call (.Attribute o name apos) args kws pos) env) Q E s
  rw [arm_eval_Call,zG8 ((Bx _).mp c1)];refine BK (C7 h (fun x A6 AR=>BK (Cb ?_)) fun _ _ h=>h);unfold methodCall;rw [zLE c4 (of_decide_eq_true c3)];exact BK (CT (C7 AR (fun p A9 AW=>BK (D3 hpos AW)) fun _ _ h=>h))
 ·exact fun hs k z hz Q E qq=>yY hs _ _ (MO.get _ _ _ _ _ hp _ _ _ _ _ hu I r _ _ fun A9 y ys AH AP ry rys AU=>
   zEU KO ((a.mv I Y).mv AH AP) ry rys AU k z hz Q E fun v A8 AL AF b hk AN AO AQ BC=>qq _ _ _ _ _ hk AN (AP.then AH AO) AQ BC)
theorem zOt(TO:ClsOK K T)(a:At prog w K n q A ae env ρ σ s){o:Expr}{name:Str}:zC K ρ s (zUL T q o name ae σ) (W prog w A s (eval (.Attribute o name pos) env)) VRr:= .not fun hb=>
 (a.e o).then (g:=fun u A4 k=>liO (zIh T u name A4) fun p=>k p.1 p.2) (fun x A6=>W prog w A A6 (getAttr x name true)) (fun Q E h=>by
  show wpAny (model prog w) A (eval (.Attribute o name pos) env) Q E s;rw [arm_eval_Attribute,zG8 hb];exact BK (C7 h (fun x A6 AR=>BK (Cb (BK (CT (C7 AR (fun y A9 AW=>BK (wpAny_letTemporaryGo (BM AW))) fun _ _ h=>h))))) fun _ _ h=>h)) fun u A4 A7 A6 x I Y r=> .liP (zD6 TO I r)
theorem zH3(TO:ClsOK K T)(a:At prog w K n q A ae env ρ σ s){o e:Expr}{name:Str}{p:Pos}:zC K ρ s (zIx T q o name e ae σ) (W prog w A s (exec (.Assign [.Attribute o name p] e pos) env)) FlR:= .not fun hc=>
 (a.e e).then (g:=fun v A4 k=>q.e o ae A4 fun u A5=>liO (zFP T u name v A5) fun A8=>k Fl.next A8) _ (fun _ _ h=>plainObj_wpAny_Assign_Attribute h (zD2 hc)) fun v A4 A7 A6 x I Y rv=>
  ((a.mv I Y).e o).then (g:=fun u A5 k=>liO (zFP T u name v A5) fun A8=>k Fl.next A8) _ (fun _ _ h=>h) fun u A5 AJ A9 y I' Z ru=>zAh (zAq TO I' ru (rv.ext Z))
theorem zHS(TO:ClsOK K T)(a:At prog w K n q A ae env ρ σ s){o e:Expr}{name:Str}{op:Operator}{p:Pos}:zC K ρ s (zHA T q o name op e ae σ) (W prog w A s (exec (.AugAssign (.Attribute o name p) op e pos) env)) FlR:=
 (a.e o).then (g:=fun u A4 k=>liO (zIh T u name A4) fun p=>q.e e ae p.2 fun b A8=>zAK op p.1 b A8 fun v AI=>liO (zFP T u name v AI) fun AM=>k Fl.next AM) _ (fun _ _=>wpAny_AugAssign_AttributeAny) fun u A4 A7 A6 x I Y ru=>
  (zC.liP (zD6 TO I ru)).then (g:=fun c A5 k=>q.e e ae A5 fun b A8=>zAK op c b A8 fun v AI=>liO (zFP T u name v AI) fun AM=>k Fl.next AM) _ (fun _ _ h=>h) fun c A5 AJ A9 y I2 Z2 rc=>
   (((a.mv I Y).mv I2 Z2).e e).then (g:=fun b A8 k=>zAK op c b A8 fun v AI=>liO (zFP T u name v AI) fun AM=>k Fl.next AM) _ (fun _ _ h=>h) fun b A8 AL AF z I3 Z3 rb=>
    (zGU I3 (rc.ext Z3) rb).then (g:=fun v AI k=>liO (zFP T u name v AI) fun AM=>k Fl.next AM) _ (fun _ _ h=>h) fun v AI Ab Ag d I4 Z4 rv=>zAh (zAq TO I4 (((ru.ext Z2).ext Z3).ext Z4) rv)
theorem zEv{o i v:V}{x y z:Value}(I:Inv K ρ σ s)(rx:VR ρ s.heap o x)(ry:VR ρ s.heap i y)(rz:VR ρ s.heap v z):Upd K ρ s (wA o i v σ) (W prog w A s (setItem x y z)):=by
 cases o with
 | trk m=>cases i with
  | int k=>
   intro AA h Q E q;refine zJ h fun l hl h=>?_;cases hc:decide (0<=k) && (decide (k < l.length) && decide (l.length<=1000)) with
   | false=>rw [hc] at h; exact noS h
   | true=>
    rw [hc] at h;cases h;refine zF hc fun h0 hc=>?_;refine zF hc fun hn hz=>?_;have h0:=of_decide_eq_true h0;have hn:=of_decide_eq_true hn;have hz:=of_decide_eq_true hz;refine kM rx fun a ha e__=>?_;cases e__;obtain ⟨t,rfl⟩:=vrI ry;refine I.listC ha (zOI hl) fun items c ho rs=>?_;have hfit:k < 2 ^ 63:=by lia
    have hl':s.heap.IsList a items:=⟨_,ho,rfl,c,rfl⟩;show wpAny (model prog w) A (setItem (.ref a) (.int k t) z) Q E s;unfold setItem
    try with_reducible refine CT ?_
    first | refine BK (BM ?_) | skip
    refine BK (wpAny_sequenceKey hl'.typeIs (by decide) ?_);refine BK (Cz (name:=BN "__setitem__") hl'.typeIs slot_list_setitem
     (Cj slot_list_setitem hl'.typeIs entry_list_setitem ?_ (args_list_setitem _ _ _)))
    show wpAny _ _ (Builtin.List.listSubscript? (.int k t) >>=_) _ _ s;refine BK (wpAny_listSubscript_int (fitsIndex_of h0 hfit) ?_);clear hfit;obtain ⟨j,rfl⟩:=Int.eq_ofNat_of_zero_le h0;have hj:j < items.size:=rs.size▸EG.mp hn;have hx':items[j]? =some items[j]:=Array.getElem?_eq_getElem hj;show wpAny _ _ ((seqItemAt a j >>=fun r=>pure (r.map (j,·))) >>=_) _ _ s;refine BK (BK (wpAny_seqItemAt ho rfl (BM ?_)));rw [hx'];show wpAny _ _ (setSeqItemAt a j z >>=_) _ _ s;have u:=I.updList (f:=fun xs=>xs.setIfInBounds j z) (l':=l.set j v) ha ho (by rw [Array.toList_setIfInBounds]; exact VRs.set rz rs j);refine BK (wpAny_setSeqItemAt ho rfl ?_);have fin:Q () {s with heap:=s.heap.update a (Cy (·.setIfInBounds j z))}:=q _ u.1 u.2
    first
     | exact BK (BM (BM ⟨.none,rfl,BM fin⟩))
     | exact BM ⟨.none,rfl,BM fin⟩
  | _=>exact .none
 | _=>exact .none
theorem zKk{o i:V}{x y:Value}(I:Inv K ρ σ s)(ro:VR ρ s.heap o x)(ri:VR ρ s.heap i y):Out K ρ s ((zSk o i σ).map (·,σ)) (zEm prog w A s x y):=by
 have gen:=zEw (prog:=prog) (w:=w) (A:=A) I ro ri;cases o with
 | trk n=>
  intro v AA hh;refine yJ hh fun u h e=>?_;refine zJ h fun l hl h=>?_;refine wG (v:= .trk n) I hl ro fun a items m e__ ho rs=>?_;cases e__;exact zCR I ho rs ri v AA (EY.mpr ⟨u,h,e⟩)
 | lst l=>
  refine wG (v:= .lst l) I rfl ro fun a items m e__ ho rs=>?_;cases e__;exact zCR I ho rs ri
 | _=>exact gen
theorem zC.liV{T:(Value->Shared->Prop)->(Value->Shared->Prop)->Prop}{o:Option V}(h:Out K ρ s (o.map (·,σ)) T)(g:Gr s T:=by exact yY):zC K ρ s (fun k=>liO o fun v=>k v σ) T VRr:= .li fun v hv=> .up (g:=g) fun k z hz Q E q=>h v σ (by rw [hv]; rfl) Q E fun A7 A6 x I X r=>q v σ A7 A6 x hz I X r
theorem zJI(a:At prog w K n q A ae env ρ σ s){o i e:Expr}{op:Operator}{p:Pos}:zC K ρ s (zGy q o i op e ae σ) (W prog w A s (exec (.AugAssign (.Subscript o i p) op e pos) env)) FlR:=by
 unfold zGy;cases hs:slK i with
 | no=>
  have hst:∀ov iv new,augStore i ov iv new=(do holding [new,ov,iv] (setItem ov iv new); release [new,ov,iv] []; pure .next):=by
   cases i with
   | Slice a b c p=>exact absurd rfl (zPq hs a b c p)
   | _=>intros; rfl
  exact (a.e o).then (g:=fun u A4 k=>q.e i ae A4 fun x A5=>liO (zSk u x A5) fun c=>q.e e ae A5 fun b A8=>zAK op c b A8 fun v AI=>liO (wA u x v AI) fun AM=>k Fl.next AM) _ (fun _ _ h=>wpAny_AugAssign_SubscriptAny h hst) fun u A4 A7 A6 x I Y ru=>
   ((a.mv I Y).e i).then (g:=fun j A5 k=>liO (zSk u j A5) fun c=>q.e e ae A5 fun b A8=>zAK op c b A8 fun v AI=>liO (wA u j v AI) fun AM=>k Fl.next AM) _ (fun _ _ h=>h) fun j A5 AJ A9 y I2 Z2 rj=>
    (zC.liV (zKk (prog:=prog) (w:=w) (A:=A) I2 (ru.ext Z2) rj) zAk).then (g:=fun c A5 k=>q.e e ae A5 fun b A8=>zAK op c b A8 fun v AI=>liO (wA u j v AI) fun AM=>k Fl.next AM) (fun c A9 Q E=>wpAny (model prog w) A (eval e env) (fun v Ag=>wpAny (model prog w) A (inplaceOp op c v) (fun new B1=>wpAny (model prog w) A (setItem x y new) (fun _=>Q .next) E B1) E Ag) E A9) (fun Q E h=>h.elim fun _ h=>h.elim fun _ h=>h.2.2) fun c A8 AL AF z I3 Z3 rc=>
     ((((a.mv I Y).mv I2 Z2).mv I3 Z3).e e).then (g:=fun b A8 k=>zAK op c b A8 fun v AI=>liO (wA u j v AI) fun AM=>k Fl.next AM) _ (fun _ _ h=>h) fun b AI Ab Ag z' I4 Z4 rb=>
      (zGU I4 (rc.ext Z4) rb).then (g:=fun v AI k=>liO (wA u j v AI) fun AM=>k Fl.next AM) _ (fun _ _ h=>h) fun v AM B5 B1 d I5 Z5 rv=>zAh (zEv I5 ((((ru.ext Z2).ext Z3).ext Z4).ext Z5) (((rj.ext Z3).ext Z4).ext Z5) rv)
 | _=>exact .fail
end
structure MakeOK(K:Frag)(ini:Addr->Option Addr):Prop where
 mks:∀C f,ini C=some f->makesIn K C=true/\findIn K (.ref C) "__init__"=some (some (.ref f))/\typeIn K (.ref f)=some (.type "function")
noncomputable def yB4(v:V)(k:Sy):Sy:=match v with
 | .none=>k
 | _=> .fail
noncomputable def zYP(fn:Addr->Option FuncData)(B:Bnd)(q:RecK)(C f:Addr)(args:List V)(kw:List (Str×V))(σ:Sto)(k:V->Sto->Sy):Sy:=
 zAc fn B q f (.trk (σ.length + 1)::args) kw (σ ++ [.dict []] ++ [.inst C σ.length]) fun v AA=>yB4 v (k (.trk (σ.length + 1)) AA)
section
variable{prog:Program}{w:World}{A:Around}{K:Frag}{fn:Addr->Option FuncData}{B:Bnd}{ini:Addr->Option Addr}{n:Nat}{q:RecK}{ρ:List Addr}{σ:Sto}{s:Shared}
theorem Rm.make(h:Rm A (n + 2))(C:Addr)(xs:List Value)(xk:List (Str×Value)):Rm (A.under (.builtin "type.__call__" ⟨.ref C::xs,xk⟩)) (n + 1):=by
 have e1:(Code.builtin "type.__call__" ⟨.ref C::xs,xk⟩).weight=1:=rfl;have e3:(Code.builtin "type.__call__" ⟨.ref C::xs,xk⟩).cUnits=1:=rfl;refine ⟨h.1,?_,?_⟩
 ·show A.depth + _ + 4 * (n + 1) < _; rw [e1]; have:=h.2.1; lia
 ·show A.units + _ + 16 * (n + 1) < _; rw [e3]; have:=h.2.2; lia
theorem zTu(FO:FnOK prog w K fn B)(MO:MakeOK K ini)(hr:SndK prog w K n q)(hA:Rm A (n + 2)){C f:Addr}(hf:ini C=some f){args:List V}{kw:List (Str×V)}(I:Inv K ρ σ s){xs:List Value}{xk:List (Str×Value)}
  (rs:VRs ρ s.heap args xs) (rk:yB ρ s.heap kw xk):zC K ρ s (zYP fn B q C f args kw σ) (W prog w A s (call (.ref C) xs xk)) VRr:=fun hs k z hz Q E qq=>by
 obtain ⟨m1,m2,m3⟩:=MO.mks _ _ hf;have y:=I.alloc (o:=emptyDict) (ob:= .dict []) s.toks ⟨_,[],Bf _ rfl,vrs_nil',[],0,rfl,rfl⟩;have hd:(ρ ++ [s.heap.objs.size])[σ.length]? =some s.heap.objs.size:=I.last _;have z2:=y.1.alloc (o:=instObj C s.heap.objs.size) (ob:= .inst C σ.length) s.toks ⟨_,[.ref s.heap.objs.size],Bf _ rfl,VRs.one ⟨_,xF _ _ _ _ hd,rfl⟩,_,rfl,rfl⟩;have hsz:(s.heap.push emptyDict).objs.size=s.heap.objs.size + 1:=Heap.size_push ..;have X2:=y.2.then y.1 z2.2;have hi:(ρ ++ [s.heap.objs.size] ++ [(s.heap.push emptyDict).objs.size])[σ.length + 1]? =some (s.heap.objs.size + 1):=by
  have e:=y.1.last (s.heap.push emptyDict).objs.size;rw [BY] at e;exact hsz▸e
 refine wpAny_call ?_;obtain ⟨hh,g,d,t,os⟩:=s;refine make_core (makes_of I.kin m1) (looks_findIn I.kin m2) (fun self=>bind_fn I.kin self m3) (.inl rfl) ?_;refine zAG FO hr (hA.make C xs xk) z2.1 (args:= .trk (σ.length + 1)::args) (xs:= .ref (hh.objs.size + 1)::xs) ⟨_,_,rfl,⟨_,hi,rfl⟩,rs.ext X2⟩ (rk.ext X2) hs _ _ hz (fun x s'=>x= .none/\Q (.ref (hh.objs.size + 1)) s') E (fun v A4 A7 A6 x hk I' X' hs' r=>?_) _ fun x s' h=>?_
 ·cases v with
  | none=>exact ⟨vrN r,qq _ _ _ _ _ hk I' (X2.then z2.1 X') hs' ⟨_,X'.preP _ _ hi,rfl⟩⟩
  | _=>exact noS hk
 ·obtain ⟨rfl,h⟩:=h
  exact ⟨rfl,h⟩
end
noncomputable def zBi(cells:List (Str×Nat)):List (Str×NameKind)->List (Str×Nat)->Option (List (Str×Nat))
 | [],acc=>some acc
 | p::r,acc=>(match p.2==NameKind.free with
  | true=>(lkS cells p.1).bind fun i=>zBi cells r ((p.1,i)::acc)
  | false=>zBi cells r acc)
noncomputable def zNC:Arguments->Bool
 | ⟨_,_,_,_,ds,_,es⟩=>es.isEmpty && ds.isEmpty
noncomputable def zEe:Arguments->Option Str
 | ⟨a,b,c,d,e,f,g⟩=>(match b with
  | []=>none
  | p::r=>if (a.isEmpty && (c.isNone && d.isEmpty)) && (e.isEmpty && (f.isNone && (g.isEmpty && (r.isEmpty && eqS p.arg ("size":Str))))) then some p.arg else none)
noncomputable abbrev zQk(qual:Str)(params:Arguments)(body:Expr)(scope:Scope):FuncData:=kla_fn "<lambda>" qual params body scope [] .none .none .none
noncomputable def ctA(σ:Sto):Option Addr:=match σ[0]? with
 | some ob=>(match ob with | .ctab P made=>if made then none else some P | _=>none)
 | none=>none
noncomputable def crA(σ:Sto)(j:Nat):Option Str:=match σ[j]? with
 | some ob=>(match ob with | .crec q=>some q | _=>none)
 | none=>none
noncomputable def zIp(lt:Value->Option Addr)(params:Arguments)(body:Expr)(scope:Scope)(ae:AE)(σ:Sto):Option (V×Sto):=
 if zNC params then (lt ae.code).bind fun P=>(ctA σ).bind fun P'=>(zBi ae.cells scope.names []).bind fun cl=>if P==P' then some (.trk (σ.length + 1),σ.set 0 (.ctab P true) ++ [.crec (ae.qual ++ "<lambda>"),.lam (zQk (ae.qual ++ "<lambda>") params body scope) cl σ.length]) else none else none
structure LamOK(K:Frag)(lt:Value->Option Addr):Prop where
 tab:∀c P,lt c=some P->∃a,c= .ref a/\∀h,K.In h->CodeHd h a P/\∃mg,h.Ns mainGlobals mg/\h.BuiltinsAt mg P/\mainGlobals≠P
noncomputable def yBt(args:List V)(kw:List (Str×V)):Option V:=match args with
 | []=>none
 | v::r=>if r.isEmpty && kw.isEmpty then some v else none
noncomputable def zZH(fd:FuncData)(qn:Str):Bool:=qn==fd.qualname && fd.scope.kind== .function && !fd.scope.isCoroutine && !fd.scope.isGenerator && fd.globals==mainGlobals && fd.builtins==builtinsNs && fd.defaults== .none
noncomputable def zIa(q:RecK)(fd:FuncData)(cl:List (Str×Nat))(j:Nat)(args:List V)(kw:List (Str×V))(σ:Sto)(k:V->Sto->Sy):Sy:=
 liO (yBt args kw) fun v=>liO (zOg fd.body) fun e=>liO (zEe fd.params) fun x=>liO (crA σ j) fun qn=>if zZH fd qn then liO (zF0 fd.scope cl [(x,v)] (fd.qualname ++ ".<locals>.") .none σ) fun p=>q.e e p.1 p.2 fun u A5=>zQV σ.length u A5 k else .fail
section
variable{prog:Program}{w:World}{A:Around}{K:Frag}{n:Nat}{q:RecK}{ae:AE}{env:Env}{ρ:List Addr}{σ:Sto}{s:Shared}{pos:Pos}
theorem zHd(X:EnvR ρ ae env){scope:Scope}{cl:List (Str×Nat)}(h:zBi ae.cells scope.names []=some cl):∃l,closureFor scope env=pure l/\qC ρ cl l:=by
 have gen:∀(names:List (Str×NameKind)) (acc:List (Str×Nat)) (accC:List (Str×Addr)) (cl:List (Str×Nat)),zBi ae.cells names acc=some cl->qC ρ acc accC->
   ∃l,qC ρ cl l/\(forIn names accC fun (x:Str×NameKind) (cs:List (Str×Addr))=>(if (x.2==NameKind.free)=true then do
     let c <-cellOf env x.1
     pure (CE ((x.1,c)::cs))
    else pure (CE cs):Sem (ForInStep (List (Str×Addr)))))=pure l:=by
  intro names
  induction names with
  | nil=>intro acc accC cl h c; cases h; exact ⟨accC,c,by rw [DI]⟩
  | cons x r ih=>
   intro acc accC cl h c;have h:(match x.2==NameKind.free with
    | true=>(lkS ae.cells x.1).bind fun i=>zBi ae.cells r ((x.1,i)::acc)
    | false=>zBi ae.cells r acc)=some cl:=h
   rw [CM];cases hk:x.2==NameKind.free with
   | true=>
    rw [hk] at h;refine zJ h fun i hi h=>?_;obtain ⟨a,ha,hr⟩:=wU X.cells ((wM _ _).symm.trans hi);obtain ⟨l,c',e⟩:=ih _ ((x.1,a)::accC) cl h ⟨a,accC,rfl,hr,c⟩;refine ⟨l,c',?_⟩;rw [if_pos rfl,show cellOf env x.1=pure a from by unfold cellOf; rw [ha]];exact e
   | false=>
    rw [hk] at h;obtain ⟨l,c',e⟩:=ih _ accC cl h c;refine ⟨l,c',?_⟩;rw [if_neg Bk];exact e
 obtain ⟨l,c,e⟩:=gen _ [] [] cl h rfl;refine ⟨l,?_,c⟩;unfold closureFor;exact (by simpa using e)
theorem zMk{params:Arguments}(h:zNC params=true)(env:Env):defaultsOf params env=([],[]):=by
 obtain ⟨a,b,c,d,e,f,g⟩:=params;refine zF h fun h1 h2=>?_;cases Br.mp h1;cases Br.mp h2;rfl
theorem zXu{P:Addr}(h:ctA σ=some P):σ[0]? =some (.ctab P false):=by
 refine obC h fun ob e h=>e.trans (congrArg some ?_);clear e;cases ob with
 | ctab P m=>cases m with
  | false=>cases h; rfl
  | true=>exact noS h
 | _=>exact noS h
theorem zYX{j:Nat}{P:Str}(h:crA σ j=some P):σ[j]? =some (.crec P):=by
 refine obC h fun ob e h=>e.trans (congrArg some ?_);clear e;cases ob with
 | crec P=>cases h; rfl
 | _=>exact noS h
theorem zJY{h:Heap}{cl:List (Str×Nat)}{l:List (Str×Addr)}(r:qC ρ cl l):VRs ρ h (zEY cl) (l.map fun p=> .ref p.2)/\zG l=zG cl:=by
 induction cl generalizing l with
 | nil=>cases (show l=[] from r); exact ⟨vrs_nil',rfl⟩
 | cons p cl ih=>
  obtain ⟨a,l',rfl,b,c⟩:=r;obtain ⟨i1,i2⟩:=ih c;exact ⟨⟨_,_,rfl,⟨a,b,rfl⟩,i1⟩,congrArg (p.1::·) i2⟩
theorem zKe{h:Heap}{cl:List (Str×Nat)}{l:List (Str×Addr)}(r:VRs ρ h (zEY cl) (l.map fun p=> .ref p.2))(e:zG l=zG cl):qC ρ cl l:=by
 induction cl generalizing l with
 | nil=>exact E6.mp (zW r)
 | cons p cl ih=>cases l with
  | nil=>exact nomatch e
  | cons x l=>
   obtain ⟨y,ys,e1,⟨a,ha,ey⟩,rs⟩:=r;obtain ⟨f1,f2⟩:=Cc e1;obtain ⟨k1,k2⟩:=Cc e;subst f2;have k1:x.1=p.1:=k1;cases f1.trans ey;obtain ⟨x1,x2⟩:=x;cases k1;exact ⟨x2,l,rfl,ha,ih rs k2⟩
theorem zHe(hlim:∀h,K.In h->h.NoLimit){lt:Value->Option Addr}(LO:LamOK K lt){params:Arguments}{body:Expr}{scope:Scope}(X:EnvR ρ ae env)(I:Inv K ρ σ s):
  Out K ρ s (zIp lt params body scope ae σ) (W prog w A s (eval (.Lambda params body scope pos) env)):= .only fun hd=> .bind fun P h1=> .bind fun P' h2=> .bind fun cl h3=> .only fun hP=>by
 obtain rfl:=Bo hP;obtain ⟨c,hc,hK⟩:=LO.tab _ _ h1;obtain ⟨C,mg,hg,hb,hgP⟩:=hK _ I.kin;have hcode:env.code= .ref c:=X.code.elim (fun z=>nomatch z.symm.trans hc) fun z=>z.trans hc;obtain ⟨l,hcl,hcr⟩:=zHd X h3;have h2:=zXu h2;obtain ⟨a,ha,o,xs,ho,rs,vs,rfl,rfl,hz⟩:=I.ob h2;cases hz rfl;intro v AA hh Q E q;cases hh;refine kla_eval (zMk hd env) (kla_makeFunction (ps:=#[]) hcl X.glob hg hcode C ho (by trivial) rfl hgP hb fun c' ctv h' tk hx hge hlt hrec htb=>?_);have n1:s.heap.get? c'=none:=Heap.get?_none_of_le hge;have n2:s.heap.get? h'.objs.size=none:=Heap.get?_none_of_le (Bn hge (DR hlt));have ham:a∈ρ:=BZ ha;have keep:∀b o,b ∉ ρ->s.heap.get? b=some o->h'.get? b=some o:=fun b o nb e=>hx b o (fun z=>nb (z▸ham)) e;have hlen:(σ.set 0 (.ctab a true)).length=σ.length:=Ce;obtain ⟨BJ,oc,vs,t,f1,f2,f3,f4⟩:=hrec;cases f1;obtain ⟨cv,ck⟩:=zJY (h:=(h'.push (kla_obj "<lambda>" (env.qual ++ "<lambda>") params body scope l ((mg "__name__").getD .none) c' ctv))) (hcr.mono (xF ρ [c',h'.objs.size]));have y:=I.two (s':={s with heap:=h'.push (kla_obj "<lambda>" (env.qual ++ "<lambda>") params body scope l ((mg "__name__").getD .none) c' ctv),toks:=tk}) (AA:=σ.set 0 (.ctab a true)) (o1:= .crec (ae.qual ++ "<lambda>")) (o2:= .lam (zQk (ae.qual ++ "<lambda>") params body scope) cl σ.length)
  hlen (DQ hlt) n1 n2 (fun b o nb e=>By _ (keep b o nb e)) (fun i b ob e1 e2=>?_) ⟨oc,[],By _ f2,vrs_nil',vs,t,f3,X.qual▸f4⟩
  ⟨_,_,Bf _ rfl,⟨.ref c',_,rfl,⟨c',I.len▸zGD ..,rfl⟩,cv⟩,c',l,ctv,(mg "__name__").getD .none,rfl,ck,X.qual▸rfl⟩ rfl rfl
 ·exact q _ _ _ y.1 y.2 ⟨_,I.len▸zGE ..,rfl⟩
 ·by_cases hi0:i=0
  ·subst hi0
   rw [Bw (zQ h2)] at e2;cases ha.symm.trans e1; cases e2;exact .inr ⟨_,[],By _ htb,vrs_nil',_,rfl,rfl,fun z=>nomatch z⟩
  ·rw [DX (fun z=>hi0 z.symm)] at e2
   exact .inl ⟨e2,fun o e=>By _ (hx b o (fun z=>hi0 (zY I.nd (z▸e1) ha)) e)⟩
theorem zSo{p:Arguments}{x:Str}(h:zEe p=some x):∃n o,p=⟨[],[⟨"size",n,o⟩],none,[],[],none,[]⟩/\x="size":=by
 obtain ⟨a,b,c,d,e,f,g⟩:=p;cases b with
 | nil=>exact noS h
 | cons p r=>
  have h:(if (a.isEmpty && (c.isNone && d.isEmpty)) && (e.isEmpty && (f.isNone && (g.isEmpty && (r.isEmpty && eqS p.arg ("size":Str))))) then some p.arg else none)=some x:=h;cases hc:(a.isEmpty && (c.isNone && d.isEmpty)) && (e.isEmpty && (f.isNone && (g.isEmpty && (r.isEmpty && eqS p.arg ("size":Str))))) with
  | false=>rw [hc] at h; exact noS h
  | true=>
   rw [hc] at h;cases h;refine zF hc fun h1 h2=>?_;refine zF h1 fun h3 h4=>?_;refine zF h4 fun h5 h6=>?_;refine zF h2 fun h7 h8=>?_;refine zF h8 fun h9 h10=>?_;refine zF h10 fun h11 h12=>?_;refine zF h12 fun h13 h14=>?_;rw [Br.mp h3,Option.isNone_iff_eq_none.mp h5,Br.mp h6,Br.mp h7,Option.isNone_iff_eq_none.mp h9,Br.mp h11,Br.mp h13];obtain ⟨x,n,o⟩:=p;cases (yI _ _).mp h14;exact ⟨n,o,rfl,rfl⟩
theorem zRA{fd:FuncData}{x:Str}(h:zEe fd.params=some x)(hd:fd.defaults= .none)(y:Value):bindArgs fd ⟨[y],[]⟩=pure [(x,y)]:=by
 obtain ⟨n,o,e,rfl⟩:=zSo h;obtain ⟨name,qualname,params,body,scope,globals,closure,defaults,kwdefaults,doc,pyModule,annotations,code,closureTuple,builtins⟩:=fd;cases e;cases hd
 kernel_rfl
theorem zSA{args:List V}{kw:List (Str×V)}{v:V}(h:yBt args kw=some v):args=[v]/\kw=[]:=by
 cases args with
 | nil=>exact noS h
 | cons u r=>
  have h:(if r.isEmpty && kw.isEmpty then some u else none)=some v:=h;cases hc:r.isEmpty && kw.isEmpty with
  | false=>rw [hc] at h; exact noS h
  | true=>
   rw [hc] at h;refine zF hc fun h1 h2=>?_;cases h; cases Br.mp h1;exact ⟨rfl,Br.mp h2⟩
theorem zI5(hlim:∀h,K.In h->h.NoLimit)(hr:SndK prog w K n q)(hA:Rm A (n + 1)){i j:Nat}{fd:FuncData}{cl:List (Str×Nat)}(hi:σ[i]? =some (.lam fd cl j)){args:List V}{kw:List (Str×V)}(I:Inv K ρ σ s){a:Addr}(ha:ρ[i]? =some a){xs:List Value}{xk:List (Str×Value)}
  (rs:VRs ρ s.heap args xs) (rk:yB ρ s.heap kw xk):zC K ρ s (zIa q fd cl j args kw σ) (W prog w A s (call (.ref a) xs xk)) VRr:= .li fun v h1=> .li fun e h2=> .li fun x h3=> .li fun qn h4=> .only fun hc=> .li fun p h5=>fun hs k z hz Q E qq=>by
 obtain ⟨rfl,rfl⟩:=zSA h1;obtain ⟨y,rfl,ry⟩:=xI rs;cases kH rk;refine zF hc fun hc c7=>?_;refine zF hc fun hc c6=>?_;refine zF hc fun hc c5=>?_;refine zF hc fun hc c4=>?_;refine zF hc fun hc c3=>?_;refine zF hc fun c1 c2=>?_;obtain rfl:=Bo c1;obtain ⟨o,ys,ho,rr,c,cl',ct,pm,rfl,ek,rfl⟩:=I.obs _ a _ ha hi;obtain ⟨y',ys',e',⟨a',hcj,ey⟩,rcl⟩:=rr;obtain ⟨f1,f2⟩:=Cc e';subst f2;cases f1.trans ey;obtain ⟨oc,_,hoc,_,vs,t,f3,f4⟩:=I.obs _ c _ hcj (zYX h4);refine wpAny_call (kla_callFunE hA.room ho rfl ((Bx _).mp c3) ((Bx _).mp c4) (zSU h2) ⟨c,oc,vs,t,rfl,hoc,f3,f4⟩ ?_);refine D3 (zRA (fd:={fd with closure:=cl',code:= .ref c,closureTuple:=ct,pyModule:=pm}) h3 (Bo c7) y) ?_;show wpAny (model prog w) A.in1 (newFunctionEnv fd.scope fd.globals cl' [(x,y)] (fd.qualname ++ ".<locals>.") (some a) (.ref c) none fd.builtins) _ _ s;rw [Bo c5,Bo c6];refine yY hs _ _ (zAR h5 (.inl rfl) I (zKe rcl ek) (show yB ρ s.heap [(x,v)] [(x,y)] from ⟨rfl,VRs.one ry⟩) (Bo c2) fun AJ A9 env AH AP Av AU=>⟨hlim _ AH.kin,?_⟩);refine kla_codeExpr ((At.mk hr (hA.deeper env) Av AH).e _ AU _ _ hz _ _ fun u A5 AL AF b hk AN AO AQ rb=>?_);obtain ⟨u,AA,AC,hk,I',X',r'⟩:=zE3 hk AN (AP.then AH AO) (D2 I.len) rb;exact qq _ _ _ _ _ hk I' X' AQ r'
end
noncomputable def tt(_:Nat):Bool:=true
noncomputable def zB0(sub:List Nat)(m:Nat)(j:Nat):Nat:=if j < sub.length then sub.getD j 0 else m + (j - sub.length)
noncomputable def zGg(f:Nat->Nat)(sub:List Nat)(A4:Sto):Nat->Sto->Sto
 | _,[]=>[]
 | i,ob::r=>(match yX i sub with
  | true=>(match A4[xD i sub]? with | some ob'=>wZ f ob' | none=> .junk)
  | false=>ob)::zGg f sub A4 (i + 1) r
noncomputable def zVi(f:Nat->Nat):Sto->Sto
 | []=>[]
 | ob::r=>wZ f ob::zVi f r
noncomputable def zM5(sub:List Nat)(σ A4:Sto):Sto:=zGg (zB0 sub σ.length) sub A4 0 σ ++ zVi (zB0 sub σ.length) (A4.drop sub.length)
noncomputable def zOm(args:List V)(σ:Sto):Option (List Nat):=
 let sub:=zB8 σ 200 (0::zFf args) []
 if zDp sub && zEh σ.length sub && zGF σ (yX · sub) sub && vV (yX · sub) true args && uN sub 0 σ then some sub else none
noncomputable def zPS(F:List V->Sto->Option (V×Sto))(args:List V)(σ:Sto)(k:V->Sto->Sy):Sy:=liO (zOm args σ) fun sub=>
 .pick (F (yP (xD · sub) args) (zS (fun i=>(σ[i]?).map (wZ (xD · sub))) sub)) fun v A4=>need (okV tt false v && okS tt false A4) (k (kB (zB0 sub σ.length) v) (zM5 sub σ A4))
section
variable{prog:Program}{w:World}{A:Around}{K:Frag}{n:Nat}{ρ:List Addr}{σ:Sto}{s s':Shared}
theorem zJ9{f:Nat->Nat}{sub:List Nat}{A4:Sto}{k i:Nat}{ob:Ob}(h:(zGg f sub A4 k σ)[i]? =some ob):(yX (k + i) sub=true/\ob=(match A4[xD (k + i) sub]? with | some ob'=>wZ f ob' | none=> .junk))\/(yX (k + i) sub=false/\σ[i]? =some ob):=by
 induction σ generalizing k i with
 | nil=>exact noS h
 | cons o r ih=>
  cases i with
  | zero=>
   cases hm:yX k sub with
   | true=>
    have h:some (match yX k sub with | true=>(match A4[xD k sub]? with | some ob'=>wZ f ob' | none=> .junk) | false=>o)=some ob:=h;rw [hm] at h;cases h; exact .inl ⟨rfl,rfl⟩
   | false=>
    have h:some (match yX k sub with | true=>(match A4[xD k sub]? with | some ob'=>wZ f ob' | none=> .junk) | false=>o)=some ob:=h;rw [hm] at h;cases h; exact .inr ⟨rfl,rfl⟩
  | succ i=>
   have z:=ih (k:=k + 1) (i:=i) h;rw [Nat.add_right_comm] at z;exact z
theorem vU{f:Nat->Nat}{sub:List Nat}{A4:Sto}{k:Nat}:(zGg f sub A4 k σ).length=σ.length:=by
 induction σ generalizing k with
 | nil=>rfl
 | cons o r ih=>exact congrArg (· + 1) ih
theorem zLB{f:Nat->Nat}{l:Sto}:zVi f l=l.map (wZ f):=by
 induction l with
 | nil=>rfl
 | cons o r ih=>exact congrArg (wZ f o::·) ih
end
section
variable{prog:Program}{w:World}{A:Around}{K:Frag}{n:Nat}{ρ:List Addr}{σ:Sto}{s s':Shared}
theorem vW{o:Obj}{c:String}(h:o.cls= .type c)(h1:(c=="tuple")=false)(h2:(c=="range")=false):kpt false o=false:=by
 unfold kpt;rw [h];cases o.data with
 | seq=>show (c=="tuple" || (false && c=="list"))=false; rw [h1]; rfl
 | fields vs=>
  dsimp only;split
  ·exact h2
  ·rfl
 | _=>rfl
theorem zNy{h:Heap}{a:Addr}{ob:Ob}{o:Obj}(e:h.get? a=some o)(hs:zPa ob=true)(r:ObR ρ h a ob):kpt false o=false:=by
 obtain ⟨o',xs,e',_,sh⟩:=r;cases e.symm.trans e';cases ob with
 | list=>obtain ⟨_,_,_,rfl⟩:=sh; exact vW rfl (by decide) (by decide)
 | ns=>obtain ⟨_,_,hd,_⟩:=sh; unfold kpt; rw [hd]
 | dict=>obtain ⟨_,_,_,rfl⟩:=sh; rfl
 | kd=>obtain ⟨_,_,_,_,_,rfl⟩:=sh; rfl
 | cell=>unfold kpt; rw [show o.data=_ from sh]
 | inst=>obtain ⟨_,_,rfl⟩:=sh; rfl
 | meth=>obtain ⟨_,_,rfl⟩:=sh; exact vW rfl (by decide) (by decide)
 | lam=>obtain ⟨_,_,_,_,_,_,rfl⟩:=sh; rfl
 | crec=>obtain ⟨vs,t,hd,hv⟩:=sh; unfold kpt; rw [hd]; dsimp only; rw [hv]
 | itms=>obtain ⟨_,_,rfl⟩:=sh; exact vW rfl (by decide) (by decide)
 | liter=>obtain ⟨_,_,hc,_⟩:=sh; exact vW hc (by decide) (by decide)
 | enum=>obtain ⟨_,_,_,rfl⟩:=sh; exact vW rfl (by decide) (by decide)
 | junk=>exact noB hs
 | citer=>obtain ⟨_,_,_,rfl⟩:=sh; exact vW rfl (by decide) (by decide)
 | ctab=>
  obtain ⟨vs,_,rfl,_⟩:=sh;unfold kpt;dsimp only;split <;>rfl
 | stk=>obtain ⟨_,_,_,_,rfl⟩:=sh; exact vW rfl (by decide) (by decide)
 | pls=>obtain ⟨_,_,_,rfl⟩:=sh; exact vW rfl (by decide) (by decide)
 | wls=>obtain ⟨_,_,_,rfl⟩:=sh; exact vW rfl (by decide) (by decide)
structure Whole(K:Frag)(ρ A7:List Addr)(σ A4:Sto)(s s':Shared)(sub:List Nat):Prop where
 inv:Inv K (ρ ++ A7.drop sub.length) (zM5 sub σ A4) s'
 ext:Ext ρ s (ρ ++ A7.drop sub.length) s'
 ren:Ren tt (zB0 sub σ.length) A7 (ρ ++ A7.drop sub.length)
 kp:Kp false A7 (ρ ++ A7.drop sub.length) s'.heap s'.heap
theorem zAQ{α:Type}{l:List α}{m i:Nat}{a:α}(e:(l.drop m)[i]? =some a):l[m + i]? =some a:=Dm▸e
theorem Inv.whole{A7:List Addr}{A4:Sto}{sub:List Nat}{g:Nat->Nat}{q:Nat->Bool}(I:Inv K ρ σ s)(c1:zDp sub=true)(c2:zEh σ.length sub=true)(P:Part K ρ σ s sub g q)(J:Inv K A7 A4 s')(X:Ext (zS (ρ[·]?) sub) s A7 s')(c5:uN sub 0 σ=true)(hok:okS tt false A4=true):Whole K ρ A7 σ A4 s s' sub:=by
 have nd:=zD5 c1;have hs:=zI0 c2;obtain ⟨l,hl⟩:=X.pre;have hlen:A7.length=sub.length + l.length:=by rw [hl,BY,P.len]
 have hat:∀(j i:Nat),sub[j]? =some i->A7[j]? =ρ[i]? :=fun j i e=>by
  rw [hl,Bz (P.len▸zQ e)];exact P.at' j i e
 have hpos:∀(i:Nat),yX i sub=true->∃j,sub[j]? =some i/\xD i sub=j:=fun i h=>by
  obtain ⟨j,hj⟩:=Cw.mp ((vB i sub).mp h);exact ⟨j,hj,zCJ nd hj⟩
 have hnew:∀a∈A7.drop sub.length,s.heap.get? a=none:=fun a m=>by
  obtain ⟨j,hj⟩:=Cw.mp m;exact X.new _ a (P.len▸C6 _ _) (zAQ hj)
 have hout:∀(i:Nat) (a:Addr),ρ[i]? =some a->yX i sub=false->a ∉ zS (ρ[·]?) sub:=fun i a hi hm z=>by
  obtain ⟨j,hj,e⟩:=zBw z;cases zY I.nd hi e;rw [(vB i sub).mpr hj] at hm;exact noB hm.symm
 have hren:Ren tt (zB0 sub σ.length) A7 (ρ ++ A7.drop sub.length):=fun j a _ ha=>by
  unfold zB0;split
  ·rename_i hj
   have hj':sub[j]? =some sub[j]:=Bi hj;rw [C0,hj',Option.getD_some,Bz (I.len▸hs _ (Da ..)),<-hat j _ hj',ha]
  ·rename_i hj
   rw [CC (I.len▸C6 _ _),Dm,I.len,Nat.add_sub_cancel_left,Nat.add_sub_cancel' (Dj.mp hj),ha]
 have hkp:Kp false A7 (ρ ++ A7.drop sub.length) s'.heap s'.heap:=fun a o n e kp=>⟨e,fun m=>by
  rcases BR.mp m with m | m
  ·obtain ⟨i,hi⟩:=Cw.mp m
   cases hm:yX i sub with
   | true=>
    obtain ⟨j,hj,_⟩:=hpos i hm;exact n (BZ ((hat j i hj).trans hi))
   | false=>
    have hi':σ[i]? =some _:=Bi (I.len▸zQ hi);obtain ⟨o',e'⟩:=I.has a m;cases (X.keep a o' (hout i a hi hm) e').symm.trans e;exact noB (kp.symm.trans (zNy e' (zI1 c5 hi' fun h=>by rw [Cx] at h; rw [(vB _ _).mpr h] at hm; exact noB hm.symm) (I.obs i a _ hi hi'))).symm
  ·exact n (List.mem_of_mem_drop m)⟩
 have hX:Ext ρ s (ρ ++ A7.drop sub.length) s':=⟨⟨_,rfl⟩,fun i a h e=>hnew a (by rw [CC h] at e; exact BZ e),fun a o n e=>X.keep a o (fun z=>n (P.mem a z)) e,X.os⟩;refine ⟨⟨?_,?_,fun i a ob h1 h2=>?_,J.stat,fun a m=>(BR.mp m).elim (I.sep a) fun m=>J.sep a (List.mem_of_mem_drop m),J.gens⟩,hX,hren,hkp⟩
 ·unfold zM5
  rw [BY,BY,vU,I.len,zLB,BW,List.length_drop,List.length_drop,J.len]
 ·refine D0.mpr ⟨I.nd,J.nd.sublist (List.drop_sublist _ _),fun a ha b hb e=>?_⟩
  obtain ⟨o,q⟩:=I.has a ha;exact noS ((hnew b hb).symm.trans (e▸q))
 ·unfold zM5 at h2
  rcases Dc i ρ.length with q | q
  ·rw [Bz q] at h1
   rw [Bz (vU.symm▸I.len▸q)] at h2;have z:=zJ9 h2;rw [Cx] at z;rcases z with ⟨hm,e⟩ | ⟨hm,e⟩
   ·obtain ⟨j,hj,hp⟩:=hpos i hm
    have h3:A4[j]? =some _:=Bi (J.len▸hlen▸CV (zQ hj) (C6 _ _));rw [hp,h3] at e;exact e▸(J.obs j a _ ((hat j i hj).trans h1) h3).ren hren hkp (fun _ e=>e) (zHh hok _ (BZ h3))
   ·exact (I.obs i a ob h1 e).mono hX.preP hX.kp fun o e=>X.keep a o (hout i a h1 hm) e
  ·rw [CC q] at h1
   rw [CC (by rw [vU,<-I.len]; exact q),vU,zLB,Bc] at h2;refine yJ h2 fun ob' h3 e__=>?_;cases e__;rw [I.len] at h1;exact (J.obs _ a ob' (zAQ h1) (zAQ h3)).ren hren hkp (fun _ e=>e) (zHh hok _ (BZ (zAQ h3)))
noncomputable def zCb(prog:Program)(w:World)(K:Frag)(n:Nat)(a:Addr)(F:List V->Sto->Option (V×Sto)):Prop:=
 ∀args σ A ρ s xs,Rm A n->0 < s.toks->Inv K ρ σ s->VRs ρ s.heap args xs->Out K ρ s (F args σ) (W prog w A s (call (.ref a) xs))
theorem zNh{a:Addr}{F:List V->Sto->Option (V×Sto)}(CO:zCb prog w K n a F)(hA:Rm A n){args:List V}(I:Inv K ρ σ s){xs:List Value}(rs:VRs ρ s.heap args xs):zC K ρ s (zPS F args σ) (W prog w A s (call (.ref a) xs)) VRr:= .li fun sub hsub=>fun hs=>zC.up (fun k z hz Q E qq=>by
 unfold zOm at hsub;dsimp only at hsub;generalize zB8 σ 200 (0::zFf args) []=sub' at hsub;cases hc:zDp sub' && zEh σ.length sub' && zGF σ (yX · sub') sub' && vV (yX · sub') true args && uN sub' 0 σ with
 | false=>rw [hc] at hsub; exact noS hsub
 | true=>
  rw [hc] at hsub;cases hsub;refine zF hc fun hc c5=>?_;refine zF hc fun hc c4=>?_;refine zF hc fun hc c3=>?_;refine zF hc fun c1 c2=>?_;have P:=I.part c1 c2 c3;cases hF:F (yP (xD · sub) args) (zS (fun i=>(σ[i]?).map (wZ (xD · sub))) sub) with
  | none=>
   have hz:run (.pick (F (yP (xD · sub) args) (zS (fun i=>(σ[i]?).map (wZ (xD · sub))) sub)) fun v A4=>need (okV tt false v && okS tt false A4) (k (kB (zB0 sub σ.length) v) (zM5 sub σ A4)))=some z:=hz;rw [hF] at hz; exact noS hz
  | some p=>
   have hz:run (.pick (F (yP (xD · sub) args) (zS (fun i=>(σ[i]?).map (wZ (xD · sub))) sub)) fun v A4=>need (okV tt false v && okS tt false A4) (k (kB (zB0 sub σ.length) v) (zM5 sub σ A4)))=some z:=hz;rw [hF] at hz;obtain ⟨hok,hk⟩:=zID (b:=okV tt false p.1 && okS tt false p.2) hz;refine zF hok fun o1 o2=>?_;refine CO _ _ A _ s xs hA hs P.inv (rs.ren P.ren (fun b o nb e kp=>⟨e,fun m=>nb (P.mem b m)⟩) c4) p.1 p.2 hF Q E fun A7 A6 x J X r=>?_;have Wh:=I.whole c1 c2 P J X c5 o2;exact qq _ _ _ _ _ hk Wh.inv Wh.ext (r.ren Wh.ren Wh.kp o1)) yY hs
end
noncomputable def zD9(q:RecK):List Expr->AE->Sto->(Bool->Sto->Sy)->Sy
 | [],_,σ,k=>k true σ
 | c::cs,ae,σ,k=>q.t c ae σ fun b A4=>xG b (zD9 q cs ae A4 k) (k false A4)
noncomputable def kD(q:RecK)(elt:Expr)(acc:Nat)(ae:AE)(σ:Sto)(k:Sto->Sy):Sy:=q.e elt ae σ fun v A4=>zYh acc v A4 k
noncomputable def yE(q:RecK)(t:Expr)(ifs:List Expr)(emit:Sto->(Sto->Sy)->Sy)(ae:AE)(nx:Nx)(k:Sto->Sy):Nat->Nat->Sto->Sy
 | 0,_,_=> .fail
 | f + 1,i,σ=>liO (nx σ i) fun o=>match o with
  | none=>k σ
  | some v=>liO (wO t v ae σ) fun A4=>zD9 q ifs ae A4 fun b A5=>xG b (emit A5 fun A8=>yE q t ifs emit ae nx k f (i + 1) A8) (yE q t ifs emit ae nx k f (i + 1) A5)
noncomputable def zHp(q:RecK)(t1 it1:Expr)(ifs1:List Expr)(elt:Expr)(acc:Nat)(ae:AE)(σ:Sto)(k:Sto->Sy):Sy:=q.e it1 ae σ fun v A4=>liO (zJ5 v A4) fun nx=>yE q t1 ifs1 (kD q elt acc ae) ae nx k 1000 0 A4
theorem zBS{env:Env}{it:Expr}(h:uW it=false)(x:Value):foldedSetIterable it env x=pure x:=by
 cases it with
 | Set=>exact noB h.symm
 | _=>rfl
theorem wpQ{MM:Model}{A:Around}{α:Type}{t:Sem α}{Q:α->Shared->Prop}{E:Value->Shared->Prop}{s:Shared}(h:∀(Q':α->Shared->Prop) (E':Value->Shared->Prop),(∀a s',Q a s'->Q' a s')->wpAny MM A t Q' E' s):wpAny MM A t Q E s:=h Q E fun _ _ h=>h
section
variable{prog:Program}{w:World}{A:Around}{K:Frag}{n:Nat}{q:RecK}{ae:AE}{env:Env}{ρ AB:List Addr}{σ:Sto}{s AD:Shared}{pos:Pos}{it a:Addr}{nx:Nx}{St:Nat->Heap->Prop}{Pr:List Addr->Heap->Prop}
theorem zFy(a:At prog w K n q A ae env ρ σ s){f:Expr->Bool->Sem (ForInStep Bool)}(hf:∀c ok,f c ok=if ok=true then do let ok <-isTrue c env (eval c env); pure (CE ok) else pure (CE ok)){cs:List Expr}:zC K ρ s (zD9 q cs ae σ) (W prog w A s (forIn cs true f)) BRr:=by
 induction cs generalizing ρ σ s with
 | nil=>exact .ret a.I (b:=true) rfl fun Q E h=>by show wpAny _ _ (forIn [] true f) Q E s; rw [DI]; exact BM h
 | cons c cs ih=>
  exact (a.t c).then (g:=fun b A4 k=>xG b (zD9 q cs ae A4 k) (k false A4)) (fun b A6=>W prog w A A6 (forIn cs b f)) (fun Q E h=>by
   show wpAny _ _ (forIn (c::cs) true f) Q E s;rw [CM,hf,if_pos rfl];exact BK (BK (C7 h (fun b A6 AR=>BM AR) fun _ _ h=>h))) fun b A4 A7 A6 c I Y r=>by
    cases r;refine .ask (fun e=>by subst e; exact ih (a.mv I Y)) fun e=>by
     subst e;refine .ret I (b:=false) rfl fun Q E h=>?_;clear ih
     induction cs with
     | nil=>show wpAny _ _ (forIn [] false f) Q E A6; rw [DI]; exact BM h
     | cons d ds ih=>show wpAny _ _ (forIn (d::ds) false f) Q E A6; rw [CM,hf,if_neg Bk]; exact BK (BM ih)
theorem zBo{elt:Expr}{gens:List Comprehension}{scope:Scope}{d:Nat}{t iter:Expr}{ifs:List Expr}{it acc:Value}{env:Env}{R:Result->Shared->Prop}(hg:gens[d]? =some ⟨t,iter,ifs,0⟩)
  (h0:codeAny (model prog w) A (.compLoop (.ListComp elt gens scope pos) d it acc env) R s)
  (h1:∀(Q:Value->Shared->Prop) E,Q it s->wpAny (model prog w) A (pyIter it) Q E s):codeAny (model prog w) A (.compStart (.ListComp elt gens scope pos) d it acc env) R s:=by
 refine codeAny_of_tree ?_;show wpAny _ A ((compStart (.ListComp elt gens scope pos) d it acc env).onRaise (fun x=>do noteFrame x env; standAt theWindowsPlace)) _ _ s;refine wpAny_notedAt ?_;unfold compStart;simp only [show clausesOf (.ListComp elt gens scope pos)=gens from rfl,hg,Option.elim,bne_self_eq_false,Dn,if_false];refine BK (wpAny_askSetting (wpAny_ite ?_));split
 ·first
   | exact BK (BM (BM (And.intro rfl h0)))
   | exact BM (And.intro rfl h0)
 ·refine BK (D6 (BK (Cb (BK (h1 _ _ ?_)))))
  exact BM (And.intro rfl h0)
theorem zE2(hr:SndK prog w K n q)(hA:Rm A n)(W:Itr prog w K it nx St Pr){elt t iter:Expr}{ifs:List Expr}{gens:List Comprehension}{d:Nat}(hg:gens[d]? =some ⟨t,iter,ifs,0⟩)(hg1:gens[d + 1]? =none){scope:Scope}{acc:Nat}(n0:AD.heap.get? it=none)(nk:K.lookup it=none){kk:Sto->Sy}{z:V×Sto}{fu i:Nat}
  (h:run (yE q t ifs (kD q elt acc ae) ae nx kk fu i σ)=some z) (I:Inv K ρ σ s) (b:ItAt AB AD it St i ρ s) (hp0:Pr AB AD.heap) (X:EnvR ρ ae env) (ha:ρ[acc]? =some a) (hs:0 < s.toks) {R:Result->Shared->Prop}
  (qq:∀AA AC s',run (kk AA)=some z->Inv K AC AA s'->Ext AB AD AC s'->EnvR AC ae env->AC[acc]? =some a->0 < s'.toks->∀f,R (.ok f) s'):codeAny (model prog w) A (.compLoop (.ListComp elt gens scope pos) d (.ref it) (.ref a) env) R s:=by
 refine codeAny_loop rfl (fun fu s=>∃i σ ρ,run (yE q t ifs (kD q elt acc ae) ae nx kk fu i σ)=some z/\Inv K ρ σ s/\ItAt AB AD it St i ρ s/\EnvR ρ ae env/\ρ[acc]? =some a/\0 < s.toks) ?_ fu ⟨i,σ,ρ,h,I,b,X,ha,hs⟩;clear h I b X ha hs;rintro fu s ⟨i,σ,ρ,h,I,b,X,ha,hs⟩;have hp:=W.prExt _ _ _ _ hp0 b.X;show wpAny _ A ((compTurn (.ListComp elt gens scope pos) d (.ref it) (.ref a) env).onRaise (fun x=>do noteFrame x env; theTreesLotGoes x)) _ _ s;refine wpAny_noted (wpQ fun Q' E' hQ=>?_);unfold compTurn;dsimp only;rw [hg];dsimp only;rw [if_neg (by rw [bne_self_eq_false]; exact Bk)];cases fu with
 | zero=>exact noS h
 | succ fu=>
  refine BK (Cb (BK ?_));refine uA h fun o hx h=>?_;cases o with
  | none=>
   refine yY hs _ _ (W.done _ _ _ _ _ _ _ hA.1 hx I b.st hp fun h' tk hb ht=>?_);have I':=b.step (tk:=tk) W n0 nk I hb;exact BM (hQ _ _ (qq _ _ _ h I'.1 I'.2 X ha ht _))
  | some v=>
   refine yY hs _ _ (W.item _ _ _ _ _ _ _ _ hA.1 hx I b.st hp fun h' tk x hb hs' rx ht=>?_);have I':=b.step (tk:=tk) W n0 nk I hb;have b':ItAt AB AD it St (i + 1) ρ {s with heap:=h',toks:=tk}:=⟨I'.2,b.n,hs'⟩;refine BK (W.lets (i + 1) _ _ _ _ _ _ hs' ?_);refine uA h fun A4 h1 h=>?_;refine BK (yY ht _ _ (vC hA.1 X I'.1 rx _ h1 _ _ fun A6 AG AK Ah=>BK ?_));refine zFy (At.mk hr hA (X.ext AK) AG) (fun c ok=>rfl) Ah _ _ h _ _ fun c A5 AJ A9 c' h AH AP AY r=>?_;cases r;have fin:∀{A8:Sto} {AL:List Addr} {AF:Shared},run (yE q t ifs (kD q elt acc ae) ae nx kk fu (i + 1) A8)=some z->Inv K AL A8 AF->Ext ρ {s with heap:=h',toks:=tk} AL AF->0 < AF.toks->_:=fun {A8 AL AF} h AN AO Ac=>hQ (.again (.compLoop (.ListComp elt gens scope pos) d (.ref it) (.ref a) env)) AF ⟨rfl,fu,Cg _,i + 1,A8,AL,h,AN,b'.mv W I'.1 AO,X.ext AO,AO.preP _ _ ha,Ac⟩;have Ad:=AK.then AG AP;cases c with
   | false=>exact BM (fin h AH Ad AY)
   | true=>
    rw [if_pos rfl];rw [hg1];refine BK (BK (((At.mk hr hA (X.ext Ad) AH).e elt) AY _ _ h _ _ fun u A8 AL AF y h AN AO Ac ry=>BK ?_));have AX:=Ad.then AH AO;exact zL5 (T:=Mine.W prog w A AF (call (.builtin "list.append") [.ref a,y])) (R:=fun _ _ (_:Unit) (_:Value)=>True) (c:=()) (b:=Value.none) (fun _ _=>trivial) AN (AX.preP _ _ ha) ry (fun Q E s' h h2=>C7 h2 (fun y A6 e=>by obtain ⟨rfl,rfl⟩:=e; exact h) fun _ _ h=>h)
     Ac (fun _ AI=>yE q t ifs (kD q elt acc ae) ae nx kk fu (i + 1) AI) z h _ _ fun _ AI Ab Ag _ h Ae Aa Aq _=>BM (BM (fin h Ae (AX.then AN Aa) Aq))
theorem zKy(hr:SndK prog w K n q)(hA:Rm A n)(W:Itr prog w K it nx St Pr){elt t iter:Expr}{ifs:List Expr}{t1 it1:Expr}{ifs1:List Expr}(hs1:uW it1=false){scope:Scope}{acc:Nat}(n0:AD.heap.get? it=none)(nk:K.lookup it=none){kk:Sto->Sy}{z:V×Sto}{fu i:Nat}
  (h:run (yE q t ifs (zHp q t1 it1 ifs1 elt acc ae) ae nx kk fu i σ)=some z) (I:Inv K ρ σ s) (b:ItAt AB AD it St i ρ s) (hp0:Pr AB AD.heap) (X:EnvR ρ ae env) (ha:ρ[acc]? =some a) (hs:0 < s.toks) {R:Result->Shared->Prop}
  (qq:∀AA AC s',run (kk AA)=some z->Inv K AC AA s'->Ext AB AD AC s'->EnvR AC ae env->AC[acc]? =some a->0 < s'.toks->∀f,R (.ok f) s'):codeAny (model prog w) A (.compLoop (.ListComp elt [⟨t,iter,ifs,0⟩,⟨t1,it1,ifs1,0⟩] scope pos) 0 (.ref it) (.ref a) env) R s:=by
 refine codeAny_loop rfl (fun fu s=>∃i σ ρ,run (yE q t ifs (zHp q t1 it1 ifs1 elt acc ae) ae nx kk fu i σ)=some z/\Inv K ρ σ s/\ItAt AB AD it St i ρ s/\EnvR ρ ae env/\ρ[acc]? =some a/\0 < s.toks) ?_ fu ⟨i,σ,ρ,h,I,b,X,ha,hs⟩;clear h I b X ha hs;rintro fu s ⟨i,σ,ρ,h,I,b,X,ha,hs⟩;have hp:=W.prExt _ _ _ _ hp0 b.X;show wpAny _ A ((compTurn (.ListComp elt [⟨t,iter,ifs,0⟩,⟨t1,it1,ifs1,0⟩] scope pos) 0 (.ref it) (.ref a) env).onRaise (fun x=>do noteFrame x env; theTreesLotGoes x)) _ _ s;refine wpAny_noted (wpQ fun Q' E' hQ=>?_);cases fu with
 | zero=>exact noS h
 | succ fu=>
  show wpAny (model prog w) A (standAt _ >>=_) Q' E' s;refine BK (Cb (BK ?_));refine uA h fun o hx h=>?_;cases o with
  | none=>
   refine yY hs _ _ (W.done _ _ _ _ _ _ _ hA.1 hx I b.st hp fun h' tk hb ht=>?_);have I':=b.step (tk:=tk) W n0 nk I hb;exact BM (hQ _ _ (qq _ _ _ h I'.1 I'.2 X ha ht _))
  | some v=>
   refine yY hs _ _ (W.item _ _ _ _ _ _ _ _ hA.1 hx I b.st hp fun h' tk x hb hs' rx ht=>?_);have I':=b.step (tk:=tk) W n0 nk I hb;have b':ItAt AB AD it St (i + 1) ρ {s with heap:=h',toks:=tk}:=⟨I'.2,b.n,hs'⟩;refine BK (W.lets (i + 1) _ _ _ _ _ _ hs' ?_);refine uA h fun A4 h1 h=>?_;refine BK (yY ht _ _ (vC hA.1 X I'.1 rx _ h1 _ _ fun A6 AG AK Ah=>BK ?_));refine zFy (At.mk hr hA (X.ext AK) AG) (fun c ok=>rfl) Ah _ _ h _ _ fun c A5 AJ A9 c' h AH AP AY r=>?_;cases r;have fin:∀{A8:Sto} {AL:List Addr} {AF:Shared},run (yE q t ifs (zHp q t1 it1 ifs1 elt acc ae) ae nx kk fu (i + 1) A8)=some z->Inv K AL A8 AF->Ext ρ {s with heap:=h',toks:=tk} AL AF->0 < AF.toks->_:=fun {A8 AL AF} h AN AO Ac=>hQ (.again (.compLoop (.ListComp elt [⟨t,iter,ifs,0⟩,⟨t1,it1,ifs1,0⟩] scope pos) 0 (.ref it) (.ref a) env)) AF ⟨rfl,fu,Cg _,i + 1,A8,AL,h,AN,b'.mv W I'.1 AO,X.ext AO,AO.preP _ _ ha,Ac⟩;have Ad:=AK.then AG AP;cases c with
   | false=>exact BM (fin h AH Ad AY)
   | true=>
    show wpAny (model prog w) A (eval it1 env >>=_) _ _ A9;refine BK (((At.mk hr hA (X.ext Ad) AH).e it1) AY _ _ h _ _ fun u A8 AL AF y h AN AO Ac ry=>BK (Cb (BK ?_)));have AX:=Ad.then AH AO;refine uA h fun nx1 hx1 h=>?_;rw [zBS hs1];refine BM (BK (CT (yY Ac _ _ (zAJ hx1 AN ry fun itr Ag St1 Pr1 m1 W1 Ae Ai hp4 hp41 Aq=>BK (wpAny_runOwn ?_)))));rw [Around.mark_none];refine zBo rfl ?_ (fun Q E q=>W1.self 0 _ _ _ _ Ai.st q);exact zE2 hr hA W1 rfl rfl m1 (zHI AN m1) h Ae Ai hp41 ((X.ext AX).ext Ai.X) (Ai.X.preP _ _ (AX.preP _ _ ha)) Aq fun AM B5 B1 h BG BF _ _ B7 f=>BM (fin h BG (AX.then AN BF) B7)
end
noncomputable def wC(scope:Scope)(ae:AE):Scope:=
 {scope with names:=scope.names.map fun (n,k)=>if (k== .free && ae.scope.kind== .function && lkS ae.scope.names n==some .cell) then (n,.cell) else (n,k)}
noncomputable def zL2(scope:Scope):Bool:=scope.kind== .function && scope.names.all fun x=>x.2 != .local || lkS scope.names x.1==some .local
noncomputable def zA0(ifs:List Expr)(rest:List Comprehension)(v:V):Ob:=match ifs with
 | []=>(match rest with
  | []=>(match v with | .il _=> .pls [] | _=> .list [])
  | _::_=> .pls [])
 | _::_=> .pls []
theorem zJN(ifs:List Expr)(rest:List Comprehension)(v:V):zA0 ifs rest v= .list []\/zA0 ifs rest v= .pls []:=by
 cases ifs with
 | nil=>cases rest with
  | nil=>cases v <;>first | exact .inl rfl | exact .inr rfl
  | cons=>exact .inr rfl
 | cons=>exact .inr rfl
noncomputable def zGI(acc:Ob)(scope:Scope)(ae:AE)(cl:List (Str×Nat))(A4:Sto):AE:={scope:=wC scope ae,loc:=A4.length + 1,cells:=(zA9 scope.names cl (A4 ++ [acc] ++ [.ns []])).1,qual:=ae.qual,code:=ae.code}
noncomputable def yZ(m:Nat)(k:V->Sto->Sy)(A8:Sto):Sy:=if (nsA A8 (m + 1)).isSome && okS (Cn · (m + 1)) true (A8.take (m + 1)) then k (.trk m) (A8.take (m + 1)) else .fail
noncomputable def zYi(q:RecK)(elt:Expr)(rest:List Comprehension)(acc:Nat)(ae:AE):Sto->(Sto->Sy)->Sy:=match rest with
 | []=>kD q elt acc ae
 | g::_=>zHp q g.target g.iter g.ifs elt acc ae
noncomputable def zQq(q:RecK)(elt t:Expr)(ifs:List Expr)(rest:List Comprehension)(acc:Ob)(scope:Scope)(ae:AE)(nx:Nx)(cl:List (Str×Nat))(A4:Sto)(k:V->Sto->Sy):Sy:=
 yE q t ifs (zYi q elt rest A4.length (zGI acc scope ae cl A4)) (zGI acc scope ae cl A4) nx (yZ A4.length k) 1000 0 (zA9 scope.names cl (A4 ++ [acc] ++ [.ns []])).2
noncomputable def zX6(rest:List Comprehension):Bool:=match rest with
 | []=>true
 | g::r=>r.isEmpty && (g.is_async==0 && !uW g.iter)
noncomputable def zKi(it:Expr)(as:Int)(rest:List Comprehension)(scope:Scope):Bool:=!uW it && (as==0 && (zX6 rest && zL2 scope))
noncomputable def zI4(q:RecK)(elt:Expr)(gens:List Comprehension)(scope:Scope)(ae:AE)(σ:Sto)(k:V->Sto->Sy):Sy:=match gens with
 | []=> .fail
 | g::rest=>if zKi g.iter g.is_async rest scope then liO (zBi ae.cells scope.names []) fun cl=>q.e g.iter ae σ fun v A4=>liO (zJ5 v A4) fun nx=>zQq q elt g.target g.ifs rest (zA0 g.ifs rest v) scope ae nx cl A4 k else .fail
noncomputable def qL(x:Str)(ae:AE)(v:V)(A4:Sto)(k:Fl->Sto->Sy):Sy:=liO (qM x v ae A4) fun A5=>k Fl.next A5
noncomputable def dzO(j:Nat)(σ:Sto)(ob:Ob):Sto:=match ob with
 | .list l=>(match qI plO l with | some l'=>σ.set j (.pls l') | none=>(match qI wlO l with | some l'=>σ.set j (.wls l') | none=>σ))
 | _=>σ
noncomputable def dz(v:V)(σ:Sto):Sto:=match v with
 | .trk j=>(match (σ[j]? :Option Ob) with | some ob=>dzO j σ ob | none=>σ)
 | _=>σ
noncomputable def zSH:List Str:=["due","laid","group","ways"]
noncomputable def duz(x:Str)(v:V)(σ:Sto):Sto:=if zSH.any (eqS x) then dz v σ else σ
noncomputable def zTh(q:RecK)(x:Str)(e:Expr)(ae:AE)(σ:Sto)(k:V->Sto->Sy):Sy:=if eqS x ("ring":Str) then kEl q e ae σ k else q.e e ae σ k
noncomputable def zIY(q:RecK)(x:Str)(e:Expr)(ae:AE)(σ:Sto)(k:Fl->Sto->Sy):Sy:=match e with
 | .ListComp elt gens scope _=>zI4 q elt gens scope ae σ fun v A4=>qL x ae v A4 k
 | e=>if zAa e then .fail else zTh q x e ae σ fun v A4=>qL x ae v (duz x v A4) k
section
variable{prog:Program}{w:World}{A:Around}{K:Frag}{n:Nat}{q:RecK}{ae:AE}{env:Env}{ρ:List Addr}{σ:Sto}{s:Shared}{pos:Pos}
theorem zEp{scope:Scope}{cl:List (Str×Nat)}{closure:List (Str×Addr)}(I:Inv K ρ σ s)(hc:qC ρ cl closure){Q:Env->Shared->Prop}{E:Value->Shared->Prop}
  (qq:∀AC s' L cells',Inv K AC (zA9 scope.names cl (σ ++ [.ns []])).2 s'->Ext ρ s AC s'->qC AC (zA9 scope.names cl (σ ++ [.ns []])).1 cells'->AC[σ.length]? =some L->
   Q {scope,locals:=L,globals:=env.globals,cells:=cells',qual:=env.qual,func:=none,code:=env.code,frame:=env.frame,builtins:=env.builtins} s'):
  wpAny (model prog w) A (newFunctionEnv scope env.globals closure [] env.qual none .none (some env)) Q E s:=by
 unfold newFunctionEnv;rw [if_pos (show Option.isSome (some env)=true from rfl)];refine BK (wpAny_alloc ?_);have x:=zNJ (T:= .type "dict") I;refine BK (wpAny_layCells _ (fun name kind cells=>by cases hkc:kind==E0 <;>simp [hkc]) _ _ _ _ ?_);obtain ⟨AC,I',X',c'⟩:=zLr (names:=scope.names) (acc:=closure) (accA:=cl) x.1 (hc.mono x.2.preP);refine BK ?_;rw [DI];exact BM (BM (qq _ _ _ _ I' (x.2.then x.1 X') c' (X'.preP _ _ (I.last _))))
theorem zKh(X:EnvR ρ ae env)(scope:Scope):relabel scope env=wC scope ae:=by
 unfold relabel wC Env.kindOf;simp only [wM];rw [X.scope]
theorem zRp{scope:Scope}(h:zL2 scope=true):scope.kind= .function/\∀x∈scope.names,x.2= .local->scope.names.lookup x.1=some .local:=by
 refine zF h fun h1 h2=>?_;refine ⟨Bo h1,fun x hx hl=>?_⟩;have z:=BV.mp h2 x hx;rw [hl] at z;exact (wM _ _).symm.trans (Bo z)
theorem zO1{h:Heap}{C:Addr}{mm:Str->Option Value}(hn:h.Ns C mm):∃o,h.get? C=some o/\kpt true o=false:=by
 obtain ⟨o,es,ep,ho,hd,_⟩:=hn;exact ⟨o,ho,by unfold kpt; rw [hd]⟩
theorem zAr(a:At prog w K n q A ae env ρ σ s)(hs:0 < s.toks){elt:Expr}{gens:List Comprehension}{scope:Scope}{ep:Pos}{k:V->Sto->Sy}{z:V×Sto}(hz:run (zI4 q elt gens scope ae σ k)=some z){Q:Value->Shared->Prop}{E:Value->Shared->Prop}{use:Option (Value->Sem Unit)}
  (qq:∀v AA B4 AF b C mm,run (k v AA)=some z->Inv K B4 AA AF->Ext ρ s B4 AF->VR B4 AF.heap v (.ref b)->C ∉ B4->K.lookup C=none->s.heap.get? C=none->AF.heap.Ns C mm->0 < AF.toks->∀f,compPost (model prog w) A E use Q (.ref b) C (.ok f) AF):
  firstAsync gens=false/\wpAny (model prog w) A (comprehension (.ListComp elt gens scope ep) scope env pos (newList []) false (firstIter gens env) use) Q E s:=by
 cases gens with
 | nil=>exact noS hz
 | cons g rest=>
  obtain ⟨t,it,ifs,as⟩:=g;have hq:run (if zKi it as rest scope then liO (zBi ae.cells scope.names []) fun cl=>q.e it ae σ fun v A4=>liO (zJ5 v A4) fun nx=>zQq q elt t ifs rest (zA0 ifs rest v) scope ae nx cl A4 k else .fail)=some z:=hz;cases hc:zKi it as rest scope with
  | false=>rw [hc] at hq; exact noS hq
  | true=>
   rw [hc] at hq;refine zF hc fun c1 hc=>?_;refine zF hc fun c2 hc=>?_;refine zF hc fun c3 c4=>?_;obtain rfl:=Bo c2;obtain ⟨hk,hnm⟩:=zRp c4;refine ⟨rfl,?_⟩;refine uA hq fun cl hcl hz=>?_;obtain ⟨l,el,_⟩:=zHd a.X hcl;refine wpAny_comprehension_free rfl (zBS ((Bx _).mp c1)) el hk hnm ?_;refine (a.e it) hs _ _ hz _ _ fun B0 A4 A7 A6 x hz AG AK AS rx=>?_;refine uA hz fun nx hx hz=>?_;refine yY AS _ _ (zAJ hx AG rx fun itr A9 St Pr m0 W AH Aw hp hp0 AU=>?_);have Av:=(a.X.ext AK).ext Aw.X;obtain ⟨l',el',cr⟩:=zHd Av hcl;have ell:l'=l:=by rw [el] at el'; injection el' with z; exact z.symm
   subst ell;refine wpAny_newList ?_ (Ca _);have hacc:=zJN ifs rest B0;generalize zA0 ifs rest B0=ao at hz hacc;obtain ⟨AN,AO⟩:=AH.alloc (o:={cls:= .type "list",data:= .seq #[]}) (ob:=ao) A9.toks (by rcases hacc with rfl | rfl <;>exact ⟨_,[],Bf _ rfl,vrs_nil',#[],0,rfl,rfl⟩);have ha:=AH.last A9.heap.objs.size;generalize A9.heap.objs.size=acc at AN AO ha ⊢;generalize A7 ++ [acc]=AL at AN AO ha;have AQ:0 < ({A9 with heap:=A9.heap.push {cls:= .type "list",data:= .seq #[]},toks:=A9.toks}:Shared).toks:=AU;generalize ({A9 with heap:=A9.heap.push {cls:= .type "list",data:= .seq #[]},toks:=A9.toks}:Shared)=AF at AN AO AQ ⊢;have BE:=Aw.mv W AH AO;refine yY AQ _ _ (zEp AN (cr.mono AO.preP) fun Ab Ag L cells' Ae Aa c' hL Al=>?_);rw [BY] at hL;have hL:Ab[A4.length + 1]? =some L:=hL;rw [zKh a.X scope];have Ai:=BE.mv W AN Aa;have EC:EnvR Ab (zGI ao scope ae cl A4) {scope:=wC scope ae,locals:=L,globals:=env.globals,cells:=cells',qual:=env.qual,func:=none,code:=env.code,frame:=env.frame,builtins:=env.builtins}:=
    ⟨rfl,hL,c',a.X.glob,a.X.bi,a.X.qual,a.X.code,hk⟩
   refine zBo rfl ?_ (fun Q E q=>W.self 0 _ _ _ _ Ai.st q);have go:∀R:Result->Shared->Prop,(∀AA AC s',run (yZ A4.length k AA)=some z->Inv K AC AA s'->Ext A7 A6 AC s'->EnvR AC (zGI ao scope ae cl A4) {scope:=wC scope ae,locals:=L,globals:=env.globals,cells:=cells',qual:=env.qual,func:=none,code:=env.code,frame:=env.frame,builtins:=env.builtins}->AC[A4.length]? =some acc->0 < s'.toks->∀f,R (.ok f) s')->
     codeAny (model prog w) A (.compLoop (.ListComp elt (⟨t,it,ifs,0⟩::rest) scope ep) 0 (.ref itr) (.ref acc) {scope:=wC scope ae,locals:=L,globals:=env.globals,cells:=cells',qual:=env.qual,func:=none,code:=env.code,frame:=env.frame,builtins:=env.builtins}) R Ag:=fun R hR=>by
    cases rest with
    | nil=>exact zE2 a.hr a.hA W rfl rfl m0 (zHI AG m0) hz Ae Ai hp0 EC (Aa.preP _ _ ha) Al hR
    | cons g1 r1=>
     obtain ⟨t1,it1,ifs1,as1⟩:=g1;refine zF c3 fun d1 d2=>?_;refine zF d2 fun d2 d3=>?_;obtain rfl:=Br.mp d1;have d2:as1=0:=Bo d2;subst d2;exact zKy a.hr a.hA W ((Bx _).mp d3) m0 (zHI AG m0) hz Ae Ai hp0 EC (Aa.preP _ _ ha) Al hR
   refine go _ fun AA AC s' hz I' X' E' ha' hs' f=>?_;have hz:run (if (nsA AA (A4.length + 1)).isSome && okS (Cn · (A4.length + 1)) true (AA.take (A4.length + 1)) then k (.trk A4.length) (AA.take (A4.length + 1)) else .fail)=some z:=hz;cases hb:(nsA AA (A4.length + 1)).isSome && okS (Cn · (A4.length + 1)) true (AA.take (A4.length + 1)) with
   | false=>rw [hb] at hz; exact noS hz
   | true=>
    rw [hb] at hz;refine zF hb fun hb1 hb2=>?_;obtain ⟨kv,hkv⟩:=CW.mp hb1;have XT:=AK.then AG X';have hlen:ρ.length<=A4.length:=by
     obtain ⟨l,hl⟩:=AK.pre;rw [<-AG.len,hl,BY];exact C6 _ _
    have hLL:AC[A4.length + 1]? =some L:=E'.loc;obtain ⟨xs,rs,hns⟩:=zQL I' hLL hkv;refine qq _ _ (AC.take (A4.length + 1)) s' acc L _ hz (I'.take hb2) (XT.take (Ck hlen)) ⟨acc,zIq ha' (Cg _),rfl⟩ (fun hm=>?_) (I'.sep L (BZ hLL)) (XT.new _ _ (Ck hlen) hLL) hns hs' f;obtain ⟨j,hj⟩:=Cw.mp hm;obtain ⟨h1,h2⟩:=zCP hj;exact absurd (zY I'.nd h2 hLL) (DQ h1)
theorem zBl(a:At prog w K n q A ae env ρ σ s){elt:Expr}{gens:List Comprehension}{scope:Scope}:zC K ρ s (zI4 q elt gens scope ae σ) (W prog w A s (eval (.ListComp elt gens scope pos) env)) VRr:=fun hs k z hz Q E qq=>by
 have Z:=zAr (pos:=firstIterPos gens pos) (ep:=pos) (Q:=Q) (E:=E) (use:=none) a hs hz fun v AA B4 AF b C mm hk Ic Xc rc hC hK h0 hns AQ f=>by
  obtain ⟨o,ho,hkp⟩:=zO1 hns;exact ⟨mm,hns,fun h' hb=>qq _ _ _ _ _ hk (Ic.but hC hK ho hkp hb.extBut AF.toks) (Xc.itr h0 hb.extBut _) AQ (rc.but ho hkp hb.extBut)⟩
 show wpAny _ _ (eval (.ListComp elt gens scope pos) env) Q E s;rw [eval_ListComp,Z.1];exact Z.2
theorem zAP{x:Str}{e:Expr}{p:Pos}{m:(V->Sto->Sy)->Sy}(X:EnvR ρ ae env)(hs:swapsWith e (some (.Name x p)) pos.line env=pure false)(h:zC K ρ s m (W prog w A s (eval e env)) VRr):zC K ρ s (fun k=>m fun v A4=>qL x ae v A4 k) (W prog w A s (exec (.Assign [.Name x p] e pos) env)) FlR:=
 h.then (g:=fun v A4 k=>qL x ae v A4 k) _ (fun _ _ h=>wpAny_Assign_Name h hs) fun v A4 A7 A6 y I Y r=>zAh (kQ (X.ext Y) I r)
theorem zHO(a:At prog w K n q A ae env ρ σ s){x:Str}{elt:Expr}{gens:List Comprehension}{scope:Scope}{cp p:Pos}:zC K ρ s (fun k=>zI4 q elt gens scope ae σ fun v A4=>qL x ae v A4 k) (W prog w A s (exec (.Assign [.Name x p] (.ListComp elt gens scope cp) pos) env)) FlR:=by
 have hsw:∃b,swapsWith (.ListComp elt gens scope cp) (some (.Name x p)) pos.line env=pure b:=⟨_,rfl⟩;obtain ⟨b,hsw⟩:=hsw;cases b with
 | false=>exact zAP a.X hsw (zBl a)
 | true=>
  refine fun hs k z hz Q E qq=>?_;show wpAny _ _ (exec (.Assign [.Name x p] (.ListComp elt gens scope cp) pos) env) Q E s;rw [exec_Assign_Name_used _ _ _ _ hsw];refine BK (Cb (BK ?_));rw [arm_evalThenUse_ListComp];have Z:=fun (Q':Value->Shared->Prop) (hQ:∀v s',Q .next s'->Q' v s')=>zAr (pos:=firstIterPos gens cp) (ep:=cp) (Q:=Q') (E:=E) (use:=some fun v=>assign (.Name x p) env v) a hs hz fun v AA B4 AF b C mm hk Ic Xc rc hC hK h0 hns AQ f=>by
   refine uA hk fun AI h4 hk=>?_;show wpAny (model prog w) A (assign (.Name x p) env (.ref b)) _ E AF;refine yY AQ _ _ (wpAny_assign_Name (kQ (a.X.ext Xc) Ic rc _ h4 _ _ fun Ag Ae Aa Al=>?_));obtain ⟨o,ho',hkp⟩:=zO1 hns;refine ⟨mm,?_,fun h' hb=>hQ _ _ (qq _ _ _ _ _ hk (Ae.but (Aa.notin hC ho') hK (Aa.keep C o hC ho') hkp hb.extBut Ag.toks) ((Xc.then Ic Aa).itr h0 hb.extBut _) Al .next)⟩;obtain ⟨o1,es,ep,h1,r1⟩:=hns;exact ⟨o1,es,ep,Aa.keep C o1 hC h1,r1⟩
  rw [(Z (fun _ _=>True) fun _ _ _=>trivial).1];exact BK (Z (fun _ s'=>wpAny (model prog w) A (pure ()) (fun _ s'=>wpAny (model prog w) A (pure Flow.next) Q E s') E s') fun v s' h=>BM (BM h)).2
theorem zQ7{l:List V}{l':List (Str×List Int)}(h:qI wlO l=some l'):wlL l'=l:=by
 induction l generalizing l' with
 | nil=>cases h; rfl
 | cons v l ih=>
  refine zJ h fun p h1 h=>?_;refine yJ h fun r h2 e__=>?_;cases e__;show wlV p::wlL r=_;rw [zRb h1,ih h2]
theorem zVS(I:Inv K ρ σ s)(v:V):Inv K ρ (dz v σ) s:=by
 cases v with
 | trk j=>
  show Inv K ρ (match (σ[j]? :Option Ob) with | some ob=>dzO j σ ob | none=>σ) s;cases h:(σ[j]? :Option Ob) with
  | none=>exact I
  | some ob=>cases ob with
   | list l=>
    show Inv K ρ (match qI plO l with | some l'=>σ.set j (.pls l') | none=>(match qI wlO l with | some l'=>σ.set j (.wls l') | none=>σ)) s;cases h1:qI plO l with
    | some l'=>exact kR I (by rw [zAW h1]; exact h)
    | none=>
     dsimp only;cases h2:qI wlO l with
     | some l'=>exact zHX I (by rw [zQ7 h2]; exact h)
     | none=>exact I
   | _=>exact I
 | _=>exact I
theorem zSI(I:Inv K ρ σ s)(x:Str)(v:V):Inv K ρ (duz x v σ) s:=by
 unfold duz;split
 ·exact zVS I v
 ·exact I
theorem zT3(a:At prog w K n q A ae env ρ σ s){x:Str}{e:Expr}:zC K ρ s (zTh q x e ae σ) (W prog w A s (eval e env)) VRr:= .cond (fun _=>a.el) fun _=>a.e e
theorem zC.duz{m:(V->Sto->Sy)->Sy}{T:(Value->Shared->Prop)->(Value->Shared->Prop)->Prop}{x:Str}(h:zC K ρ s m T VRr):zC K ρ s (fun k=>m fun v A4=>k v (Mine.duz x v A4)) T VRr:=fun hp k z hz Q E q=>
 h hp _ z hz Q E fun a A4 A7 A6 b hk I X AV r=>q a _ A7 A6 b hk (zSI I x a) X AV r
theorem zIX(a:At prog w K n q A ae env ρ σ s){x:Str}{e:Expr}{p:Pos}:zC K ρ s (zIY q x e ae σ) (W prog w A s (exec (.Assign [.Name x p] e pos) env)) FlR:=by
 have gen:zC K ρ s (fun k=>if zAa e then .fail else zTh q x e ae σ fun v A4=>qL x ae v (duz x v A4) k) (W prog w A s (exec (.Assign [.Name x p] e pos) env)) FlR:= .not fun hc=>zAP (m:=fun k=>zTh q x e ae σ fun v A4=>k v (duz x v A4)) a.X (zD2 hc) (zC.duz (zT3 a));cases e with
 | ListComp=>exact zHO a
 | _=>exact gen
noncomputable def zC8(e:Expr):Bool:=BQ (zNc e) 4
noncomputable def zL6(q:RecK)(t:Expr)(e:Expr)(ae:AE)(σ:Sto)(k:Fl->Sto->Sy):Sy:=if zAa e || zC8 e then .fail else q.e e ae σ fun v A4=>liO (wO t v ae A4) fun A5=>k Fl.next A5
theorem zKc(a:At prog w K n q A ae env ρ σ s){es:List Expr}{l:Nat}{p:Pos}{e:Expr}:zC K ρ s (zL6 q (.Tuple es l p) e ae σ) (W prog w A s (exec (.Assign [.Tuple es l p] e pos) env)) FlR:= .not fun hc=>by
 obtain ⟨h1,h2⟩:=Bool.or_eq_false_iff.mp hc;exact (a.e e).then (g:=fun v A4 k=>liO (wO (.Tuple es l p) v ae A4) fun A5=>k Fl.next A5) _ (fun _ _ h=>Assign_Tuple h (by
   cases e with
   | ListComp=>exact noB h1.symm
   | SetComp=>exact noB h1.symm
   | DictComp=>exact noB h1.symm
   | Tuple=>exact noB h2.symm
   | _=>rfl) (by
   cases e with
   | ListComp=>exact noB h1.symm
   | SetComp=>exact noB h1.symm
   | DictComp=>exact noB h1.symm
   | Tuple=>exact noB h2.symm
   | _=>rfl)) fun v A4 A7 A6 x I Y r=>zAh (vC a.hA.1 (a.X.ext Y) I r)
end
section
open Builtin Builtin.Str
noncomputable def zHC(v:V):Option Nat:=match v with
 | .trk i=>some i
 | _=>none
theorem zCT{v:V}{i:Nat}(h:zHC v=some i):v= .trk i:=by
 cases v with
 | trk=>cases h; rfl
 | _=>exact noS h
noncomputable def zMs(id:String)(u:V)(σ:Sto):Option (V×Sto):=
 if id=="len" then zOC u σ else if id=="ord" then zZ9 u σ else if id=="chr" then zZx u σ
 else if id=="str.lower" then zWq u σ else if id=="str.upper" then zVP u σ else if id=="dict.items" then (zHC u).bind fun i=>zQj i σ else none
noncomputable def zVe(kf:Addr->Bool)(id:String)(u v:V)(σ:Sto):Option (V×Sto):=
 if id=="iter" then zUV kf u v σ else if id=="str.count" then zQb u v σ else if id=="str.split" then zXx u v σ else none
noncomputable def zQQ(id:String)(i:Nat)(l:List V)(σ:Sto)(k:V->Sto->Sy):Sy:=
 if id=="list.pop" then need (decide (l.length<=1000)) (liO l.getLast? fun v=>k v (σ.set i (.list l.dropLast)))
 else if id=="list.reverse" then need (decide (l.length<=1000)) (k .none (σ.set i (.list l.reverse)))
 else if id=="len" then need (decide (l.length < 2 ^ 63)) (k (.int l.length) σ)
 else .pick (zMs id (.trk i) σ) k
noncomputable def zUw(id:String)(x:Str)(σ:Sto)(k:V->Sto->Sy):Sy:=
 if id=="len" then need (decide (x.length < 2 ^ 63)) (k (.int x.length) σ)
 else if id=="str.lower" then xG (zEr x) (pickV (some (.str ⟨(x.cps.toList.map loF).toArray⟩)) fun v=>k v σ) (.pick (zWq (.str x) σ) k)
 else if id=="str.upper" then xG (zEr x) (pickV (some (.str ⟨(x.cps.toList.map upF).toArray⟩)) fun v=>k v σ) (.pick (zVP (.str x) σ) k)
 else .pick (zMs id (.str x) σ) k
noncomputable def yDg(id:String)(i:Nat)(σ:Sto)(k:V->Sto->Sy)(ob:Ob):Sy:=match ob with
 | .list l=>zQQ id i l σ k
 | .stk b l=> .pick (if id=="len" then zOC (.trk i) σ else yBQ id i b l σ) k
 | .pls l=> .pick (zMs id (.trk i) σ) k
 | _=> .pick (zMs id (.trk i) σ) k
noncomputable def kB1(id:String)(u:V)(σ:Sto)(k:V->Sto->Sy):Sy:=match u with
 | .trk i=>liO (σ[i]? :Option Ob) (yDg id i σ k)
 | .str x=>zUw id x σ k
 | u=> .pick (zMs id u σ) k
noncomputable def zWJ(i:Nat)(σ:Sto)(k:V->Sto->Sy)(ob:Ob):Sy:=match ob with
 | .list l=>(match l with
  | []=> .fail
  | u::l=>need (decide (l.length < 1000)) (k u (σ.set i (.list l))))
 | .pls l=>(match l with
  | []=> .fail
  | u::l=>need (decide (l.length < 1000)) (k (plV u) (σ.set i (.pls l))))
 | _=> .fail
noncomputable def zUU(i:Nat)(v:V)(σ:Sto)(k:V->Sto->Sy):Sy:=liO (zEo v) fun n=>if n==0 then liO (σ[i]? :Option Ob) (zWJ i σ k) else .fail
noncomputable def zLC(id:String)(u v:V):Option V:=if id=="str.count" then (zQb u v []).map (·.1) else none
noncomputable def kB2(D:Tabs)(kf:Addr->Bool)(id:String)(u v:V)(σ:Sto)(k:V->Sto->Sy):Sy:=match u with
 | .trk i=>if id=="list.append" then zYh i v σ fun AA=>k .none AA else if id=="list.pop" then zUU i v σ k else .pick (zVe kf id (.trk i) v σ) k
 | .str sep=>if id=="str.join" then zLA sep v σ k else if id=="str.split" then .pick (zXx (.str sep) v σ) k else pickV (zLC id (.str sep) v) fun v=>k v σ
 | .int a=>pickV (zLC id (.int a) v) fun v=>k v σ
 | .val w=>if id=="re.Pattern.search" then liO (zTB (.val w)) fun a=>liO (zBq v) fun x=>zK7 D.pat a x σ k else if id=="dict.get" then pickV (zUK D (.val w) v .none) fun v=>k v σ else .fail
 | u=> .pick (zVe kf id u v σ) k
noncomputable def qJ(D:Tabs)(kf:Addr->Bool)(id:String)(args:List V)(σ:Sto)(k:V->Sto->Sy):Sy:=match args with
 | []=> .fail
 | u::r=>(match r with
  | []=>kB1 id u σ k
  | v::r=>(match r with
   | []=>kB2 D kf id u v σ k
   | _::_=> .fail))
section
variable{prog:Program}{w:World}{A:Around}{K:Frag}{D:Tabs}{kf:Addr->Bool}{ρ:List Addr}{σ:Sto}{s:Shared}{x y z:Value}{id:String}
noncomputable abbrev C1(prog:Program)(w:World)(A:Around)(s:Shared)(x:Value)(id:String):(Value->Shared->Prop)->(Value->Shared->Prop)->Prop:=yU prog w A s id [x]
noncomputable abbrev C2(prog:Program)(w:World)(A:Around)(s:Shared)(x y:Value)(id:String):(Value->Shared->Prop)->(Value->Shared->Prop)->Prop:=yU prog w A s id [x,y]
theorem zDa(hh:A.handled=none)(hsm:(K.lookup sysModules).isSome=true){u:V}(I:Inv K ρ σ s)(r:VR ρ s.heap u x):Out K ρ s (zMs id u σ) (C1 prog w A s x id):=
 .onId (T':=C1 prog w A s x) (zCF I r) (.onId (T':=C1 prog w A s x) (zRS I r) (.onId (T':=C1 prog w A s x) (zT9 I r) (.onId (T':=C1 prog w A s x) (zMh I r) (.onId (T':=C1 prog w A s x) (zLW I r) (.onId (T':=C1 prog w A s x) (.bind fun i hi=>by
  cases u with
  | trk=>cases hi; exact zNu hsm I r
  | _=>exact noS hi) .none)))))
theorem zP9(hh:A.handled=none){u v:V}(I:Inv K ρ σ s)(r:VR ρ s.heap u x)(r':VR ρ s.heap v y):Out K ρ s (zVe kf id u v σ) (C2 prog w A s x y id):=
 .onId (T':=C2 prog w A s x y) (zQi I r r') (.onId (T':=C2 prog w A s x y) (zLX I r r') (.onId (T':=C2 prog w A s x y) (zL3 I r r') .none))
theorem zM8(hh:A.handled=none)(hsm:(K.lookup sysModules).isSome=true){i:Nat}{l:List V}(hl:σ[i]? =some (.list l))(I:Inv K ρ σ s)(r:VR ρ s.heap (.trk i) x):zC K ρ s (zQQ id i l σ) (C1 prog w A s x id) VRr:=by
 have gen:=zC.pick (zDa (prog:=prog) (w:=w) (A:=A) (id:=id) hh hsm I r);refine kM r fun a ha e__=>?_;cases e__;have hls:zR (.trk i) σ=some l:=by
  show (match σ[i]? with | some ob=>(match ob with | .list l=>some l | .stk _ l=>some (qW l) | .pls l=>some (plL l) | .wls l=>some (wlL l) | _=>none) | none=>none)=some l;rw [hl]
 refine .onId (T:=C1 prog w A s (.ref a)) (.need fun hz=> .li fun v hv=> .ofOut (zHD hl (of_decide_eq_true hz) hv I ha)) (.onId (T:=C1 prog w A s (.ref a)) (.need fun hz=> .ofOut (zIs hl (of_decide_eq_true hz) I ha))
  (.onId (T:=C1 prog w A s (.ref a)) (.need fun hz=> .ofOut ?_) gen))
 ·have z:=zCF (prog:=prog) (w:=w) (A:=A) I r
  have e:zOC (.trk i) σ=some (.int l.length,σ):=by
   show (zR (.trk i) σ).bind (fun l=>zFK l.length σ)=_;rw [hls];exact if_pos (of_decide_eq_true hz)
  exact e▸z
theorem zQ3(hh:A.handled=none)(hsm:(K.lookup sysModules).isSome=true){u:Str}(I:Inv K ρ σ s)(r:VR ρ s.heap (.str u) x):zC K ρ s (zUw id u σ) (C1 prog w A s x id) VRr:=by
 have gen:=zC.pick (zDa (prog:=prog) (w:=w) (A:=A) (id:=id) hh hsm I r);have lo:=zC.pick (zMh (prog:=prog) (w:=w) (A:=A) I r);have up:=zC.pick (zLW (prog:=prog) (w:=w) (A:=A) I r);obtain ⟨t,rfl⟩:=vrS r;refine .onId (T:=C1 prog w A s (.str u t)) (.need fun hz=> .ofOut (.tok I _ vZ fun Q E q=>P.len_str (ES.mpr (zN3 (of_decide_eq_true hz))) q)) (.onId (T:=C1 prog w A s (.str u t)) (.ask (m:=fun k=>pickV (some _) fun v=>k v σ) (fun hf=> .pv (f:=fun v k=>k v σ) (.ofOut ?_)) fun _=>lo) (.onId (T:=C1 prog w A s (.str u t)) (.ask (m:=fun k=>pickV (some _) fun v=>k v σ) (fun hf=> .pv (f:=fun v k=>k v σ) (.ofOut ?_)) fun _=>up) gen))
 ·have hz:=zE9 hf loF
  rw [<-zJH hf] at hz ⊢;exact .tok I _ yL fun Q E q=>zDt hz.1 Q E ⟨hz.2,q⟩
 ·have hz:=zE9 hf upF
  rw [<-zKp hf] at hz ⊢;exact .tok I _ yL fun Q E q=>zDr hz.1 Q E ⟨hz.2,q⟩
theorem zXz(hh:A.handled=none)(hsm:(K.lookup sysModules).isSome=true){u:V}(I:Inv K ρ σ s)(r:VR ρ s.heap u x):zC K ρ s (kB1 id u σ) (C1 prog w A s x id) VRr:=by
 have gen:=zC.pick (zDa (prog:=prog) (w:=w) (A:=A) (id:=id) hh hsm I r);cases u with
 | trk i=>
  refine .li fun ob hl=>?_;cases ob with
  | list l=>exact zM8 hh hsm hl I r
  | stk b l=>
   have ln:=zCF (prog:=prog) (w:=w) (A:=A) I r;refine kM r fun a ha e__=>?_;cases e__;exact .pick (.onId (T':=C1 prog w A s (.ref a)) ln (zSz hl I ha))
  | _=>exact gen
 | str=>exact zQ3 hh hsm I r
 | _=>exact gen
theorem zPQ{i:Nat}{v:V}(I:Inv K ρ σ s)(r:VR ρ s.heap (.trk i) x)(r':VR ρ s.heap v y):zC K ρ s (zUU i v σ) (C2 prog w A s x y "list.pop") VRr:= .li fun n hn=> .only fun h0=> .li fun ob hl=>by
 obtain rfl:=Bo h0;obtain ⟨t,rfl⟩:=zAS v 0 y hn r';refine kM r fun a ha e__=>?_;cases e__;cases ob with
 | list l=>cases l with
  | nil=>exact .fail
  | cons u l=>exact .need fun hz=> .ofOut (zFC hl (of_decide_eq_true hz) I ha)
 | pls l=>cases l with
  | nil=>exact .fail
  | cons u l=>exact .need fun hz=> .ofOut (zWZ hl I fun h I'=>zFC h (by rw [BW]; exact of_decide_eq_true hz) I' ha)
 | _=>exact .fail
theorem Out.same{T:(Value->Shared->Prop)->(Value->Shared->Prop)->Prop}{f:Sto->Option (V×Sto)}(h:Out K ρ s (f σ) T)(e:((f []).map (·.1)).map (·,σ)=f σ):Out K ρ s (((f []).map (·.1)).map (·,σ)) T:=e▸h
theorem zFF(hh:A.handled=none){u v:V}(I:Inv K ρ σ s)(r:VR ρ s.heap u x)(r':VR ρ s.heap v y):Out K ρ s ((zLC id u v).map (·,σ)) (C2 prog w A s x y id):=by
 unfold zLC;have e3:((zQb u v []).map (·.1)).map (·,σ)=zQb u v σ:=by cases u <;>first | rfl | (cases v <;>rfl)
 have go:∀{n:String} {o p:Option V},Out K ρ s (o.map (·,σ)) (C2 prog w A s x y n)->Out K ρ s (p.map (·,σ)) (C2 prog w A s x y id)->Out K ρ s ((if id==n then o else p).map (·,σ)) (C2 prog w A s x y id):=fun {n o p} h1 h2=>by
  cases h:id==n with
  | true=>cases Bo h; exact h1
  | false=>exact h2
 exact go (.same (zLX I r r') e3) .none
theorem zWo(hh:A.handled=none)(DO:TabsOK prog w K D){u v:V}(I:Inv K ρ σ s)(r:VR ρ s.heap u x)(r':VR ρ s.heap v y):zC K ρ s (kB2 D kf id u v σ) (C2 prog w A s x y id) VRr:=by
 have gen:=zC.pick (zP9 (prog:=prog) (w:=w) (A:=A) (id:=id) (kf:=kf) hh I r r');cases u with
 | trk i=>
  refine .onId (T:=C2 prog w A s x y) ?_ (.onId (T:=C2 prog w A s x y) (zPQ I r r') gen);refine kM r fun a ha e__=>?_;cases e__;exact zL5 (c:=V.none) (b:=Value.none) (R:=VRr) (fun _ _=>qA) I ha r' fun Q E s' h h2=>C7 h2 (fun y A6 e=>by obtain ⟨rfl,rfl⟩:=e; exact h) fun _ _ h=>h
 | str sep=>
  refine .onId (T:=C2 prog w A s x y) ?_ (.onId (T:=C2 prog w A s x y) (.pick (zL3 I r r')) (.pickV (zFF hh I r r') yY));obtain ⟨t,rfl⟩:=vrS r;exact zH2 I r'
 | int a=>exact .pickV (zFF hh I r r') yY
 | val v'=>
  refine .onId (T:=C2 prog w A s x y) (.li fun a ha=> .li fun u hu=>?_) (.cond (fun e=>Bo e▸.pickV (zMo DO I r r') yY) fun _=> .fail);cases zDB ha r;obtain ⟨t,rfl⟩:=kY _ _ _ hu r';exact zJy DO.pp I
 | _=>exact gen
theorem uR(hh:A.handled=none)(hsm:(K.lookup sysModules).isSome=true)(DO:TabsOK prog w K D){args:List V}{xs:List Value}(I:Inv K ρ σ s)(rs:VRs ρ s.heap args xs):zC K ρ s (qJ D kf id args σ) (yU prog w A s id xs) VRr:=by
 cases args with
 | nil=>exact .fail
 | cons u args=>
  obtain ⟨y,ys,rfl,ry,rs⟩:=rs;cases args with
  | nil=>cases zW rs; exact zXz hh hsm I ry
  | cons v args=>
   obtain ⟨z,ys,rfl,rz,rs⟩:=rs;cases args with
   | nil=>cases zW rs; exact zWo hh DO I ry rz
   | cons d args=>exact .fail
end
noncomputable def zZt(v:V)(σ:Sto):Option String:=match v with
 | .str _=>some "str"
 | .int _=>some "int"
 | .tup _=>some "tuple"
 | v=>(zR v σ).map fun _=>"list"
noncomputable def zX7{α β:Type}(l:List α)(b:Option β):Option β:=match l with
 | []=>b
 | _::_=>none
noncomputable def yAW(u:V)(rest:List V)(σ:Sto):Option (V×Sto):=(zEo u).bind fun a=>match rest with
 | []=>some (.rng 0 a 1,σ)
 | v::r=>(zEo v).bind fun b=>(match r with
  | []=>some (.rng a b 1,σ)
  | z::r=>(zEo z).bind fun c=>zX7 r (if c==0 || Builtin.divisionGoesByPylong (b - a) c then none else some (.rng a b c,σ)))
noncomputable def zUH(T:String)(u:V)(rest:List V)(σ:Sto):Option (V×Sto):=
 if T=="type" then zX7 rest ((zZt u σ).map fun t=>(.val (.type t),σ)) else if T=="range" then yAW u rest σ else if T=="enumerate" then zX7 rest (zUJ u σ) else none
noncomputable def zY3(u:V)(rest:List V)(σ:Sto)(k:V->Sto->Sy):Sy:=match rest with
 | []=>liO (zBq u) fun x=>need (decide (x.cps.size<=1000)) (k (.trk σ.length) (σ ++ [.stk 1000 x.cps.toList.reverse]))
 | _::_=> .fail
noncomputable def zUY(T:String)(args:List V)(σ:Sto)(k:V->Sto->Sy):Sy:=match args with
 | []=> .fail
 | u::rest=>if T=="list" then zY3 u rest σ k else liO (zUH T u rest σ) fun p=>k p.1 p.2
section
variable{prog:Program}{w:World}{A:Around}{K:Frag}{ρ:List Addr}{σ:Sto}{s:Shared}{x:Value}{xs:List Value}
noncomputable abbrev TyT(prog:Program)(w:World)(A:Around)(s:Shared)(xs:List Value)(T:String):(Value->Shared->Prop)->(Value->Shared->Prop)->Prop:=W prog w A s (call (.type T) xs)
theorem yA2{v:V}{t:String}(h:zZt v σ=some t)(I:Inv K ρ σ s)(rx:VR ρ s.heap v x):s.TypeIs x t/\(Dv t==Dv "builtin_function_or_method")=false:=by
 have gen:((zR v σ).map fun _=>"list")=some t->s.TypeIs x t/\(Dv t==Dv "builtin_function_or_method")=false:=fun h=>by
  refine yJ h fun l hl e__=>?_;cases e__;refine wG I hl rx fun a items n e__ ho rs=>?_;cases e__;exact ⟨⟨_,ho,rfl⟩,by decide⟩
 cases v with
 | str=>cases h; obtain ⟨u,rfl⟩:=vrS rx; exact ⟨DP _ _ _,by decide⟩
 | int=>cases h; obtain ⟨u,rfl⟩:=vrI rx; exact ⟨typeIs_int _ _ _,by decide⟩
 | tup=>cases h; obtain ⟨a,_,_,rfl,_,ho,_⟩:=zK1 rx; exact ⟨⟨_,ho,rfl⟩,by decide⟩
 | _=>exact gen h
theorem Out.rng(I:Inv K ρ σ s){a b c:Int}{t u v:Tok}{tk:Tok}{T:(Value->Shared->Prop)->(Value->Shared->Prop)->Prop}(hu:∀Q E,Q (.ref s.heap.objs.size) {s with heap:=s.heap.push {cls:= .type "range",data:= .fields #[.int a t,.int b u,.int c v]},toks:=tk}->T Q E):Out K ρ s (.some (.rng a b c,σ)) T:=
 .some (I.extra _ tk) ⟨_,t,u,v,rfl,I.fresh,Bf _ rfl⟩ hu
theorem zSb{u:V}{rest:List V}(I:Inv K ρ σ s)(rs:VRs ρ s.heap (u::rest) xs):Out K ρ s (yAW u rest σ) (TyT prog w A s xs "range"):= .bind fun a ha=>by
 obtain ⟨y,ys,rfl,ry,rs⟩:=rs;obtain ⟨t,rfl⟩:=zAS _ _ _ ha ry;cases rest with
 | nil=>cases zW rs; exact .rng I fun Q E q=>call_range_1 q
 | cons v rest=>
  refine .bind fun b hb=>?_;obtain ⟨y,ys,rfl,ry,rs⟩:=rs;obtain ⟨t',rfl⟩:=zAS _ _ _ hb ry;cases rest with
  | nil=>cases zW rs; exact .rng I fun Q E q=>call_range_2 q
  | cons z rest=>
   refine .bind fun c hc=>?_;obtain ⟨y,ys,rfl,ry,rs⟩:=rs;obtain ⟨t'',rfl⟩:=zAS _ _ _ hc ry;cases rest with
   | nil=>
    cases zW rs;refine .ite (fun _=> .none) fun h=>?_;obtain ⟨h1,h2⟩:=or_false h;exact .rng I fun Q E q=>call_range_3 (fun e=>h1 (beq_iff_eq.mpr e)) q (.inl (not_true h2))
   | cons=>exact .none
theorem zN8{T:String}{u:V}{rest:List V}(I:Inv K ρ σ s)(rs:VRs ρ s.heap (u::rest) xs):Out K ρ s (zUH T u rest σ) (TyT prog w A s xs T):=by
 refine .onId (T':=TyT prog w A s xs) ?_ (.onId (T':=TyT prog w A s xs) (zSb I rs) (.onId (T':=TyT prog w A s xs) ?_ .none))
 ·cases rest with
  | nil=>
   obtain ⟨y,rfl,ry⟩:=xI rs;intro v AA h Q E q;refine yJ h fun t ht e=>?_;cases e;obtain ⟨h1,h2⟩:=yA2 ht I ry;exact call_type_of h1 h2 (q _ _ _ I (.refl _ _) kG)
  | cons=>exact .none
 ·cases rest with
  | nil=>obtain ⟨y,rfl,ry⟩:=xI rs; exact zRm I ry
  | cons=>exact .none
theorem zMD{h:Heap}{cs:List Nat}{vs:List Value}(e:cs.length=vs.length)(hs:∀(j:Nat) (v:Value),vs[j]? =some v->∃c u,cs[j]? =some c/\v= .str ⟨#[c]⟩ u):VRs ρ h (cs.map fun c=> .str ⟨#[c]⟩) vs:=by
 induction cs generalizing vs with
 | nil=>exact List.length_eq_zero_iff.mp e.symm
 | cons c cs ih=>cases vs with
  | nil=>exact absurd e (Nat.succ_ne_zero _)
  | cons v vs=>
   obtain ⟨c',u,h1,rfl⟩:=hs 0 v rfl;cases h1;exact ⟨_,vs,rfl,yL,ih (Nat.succ.inj e) fun j y hy=>hs (j + 1) y hy⟩
theorem zO6(hh:A.handled=none){T:String}{args:List V}(I:Inv K ρ σ s)(rs:VRs ρ s.heap args xs):zC K ρ s (zUY T args σ) (TyT prog w A s xs T) VRr:=by
 cases args with
 | nil=>exact .fail
 | cons u rest=>
  refine .onId (T:=TyT prog w A s xs) ?_ (.liP (zN8 I rs));cases rest with
  | cons=>exact .fail
  | nil=>
   refine .li fun x hx=> .need fun hz=> .ofOut fun v AA hh' Q E q=>?_;cases hh';obtain ⟨y,rfl,ry⟩:=xI rs;obtain ⟨t,rfl⟩:=kY _ _ _ hx ry;have hz:=of_decide_eq_true hz;refine call_list_str hh x t (fun h' tk acc c hk ho hi=>?_) (Bn hz (by decide));obtain ⟨e1,e2⟩:=hi;have hst:VRs [] default (qW x.cps.toList.reverse) acc.toList:=by
    have e:qW x.cps.toList.reverse=x.cps.toList.map fun c=>V.str ⟨#[c]⟩:=by unfold qW; rw [<-List.map_reverse,List.reverse_reverse]
    rw [e];refine zMD (by rw [CF,CF]; exact e1.symm) fun j v hv=>?_;obtain ⟨c',u,h1,h2⟩:=e2 j v (CU▸hv);exact ⟨c',u,CU▸h1,h2⟩
   have z:=I.gen (l:=[s.heap.objs.size]) (AA:=σ ++ [.stk 1000 x.cps.toList.reverse]) (s':={s with heap:=h',toks:=tk}) (by rw [BY,I.len]; rfl) (Dg _ _) (fun b hb=>BP.mp hb▸qK _) (fun b o _ e=>hk b o e) (fun i b ob g1 g2=>by
    rcases Dc i σ.length with h | h
    ·rw [Bz h] at g2
     exact .inl ⟨g2,fun o e=>hk b o e⟩
    ·obtain ⟨rfl,rfl⟩:=zCV h g2
     obtain ⟨_,rfl⟩:=zCV (D2 I.len) g1;exact .inr ⟨_,[],ho,vrs_nil',(List.length_reverse (as:=x.cps.toList)).symm▸CF (xs:=x.cps)▸hz,acc,c,hst,rfl⟩) rfl rfl
   exact q _ _ _ z.1 z.2 ⟨_,I.last _,rfl⟩
end
end
noncomputable def zGp(σ:Sto)(i:Nat):Option (V×V×Bool):=match σ[i]? with
 | some ob=>(match ob with | .citer f u l=>some (f,u,l) | _=>none)
 | none=>none
noncomputable def zZe(σ:Sto)(i:Nat):Option (Nat×Nat):=match σ[i]? with
 | some ob=>(match ob with | .enum j k=>some (j,k) | _=>none)
 | none=>none
noncomputable def yA9(σ:Sto)(i:Nat):Option (V×Nat):=match σ[i]? with
 | some ob=>(match ob with | .liter u k=>some (u,k) | _=>none)
 | none=>none
noncomputable def zQG(kf:Addr->Bool)(q:RecK)(i j:Nat)(σ:Sto)(k:Option V->Sto->Sy):Sy:=liO (zNj σ j) fun m=>if kf m.1 then q.c (.trk j) [] [] σ fun v A4=>liO (zBq v) fun x=>liO (zGp A4 i) fun c=>liO (zNj A4 j) fun m'=>liO (zBq c.2.1) fun q'=>liO (zHC c.1) fun j'=>
 if c.2.2 && (BQ j' j && kf m'.1) then xG (eqS q' x) (k none (A4.set i (.citer .none .none false))) (k (some (.str x)) A4) else .fail else .fail
noncomputable def zPz(kf:Addr->Bool)(q:RecK)(i:Nat)(σ:Sto)(k:Option V->Sto->Sy):Sy:=liO (zGp σ i) fun c=>match c.2.2 with
 | true=>liO (zHC c.1) fun j=>zQG kf q i j σ k
 | false=>k none σ
noncomputable def zUT(t:Expr)(i:Nat)(σ:Sto):Option (Option V×Sto):=(zZe σ i).bind fun p=>(yA9 σ p.1).bind fun l=>(zR l.1 σ).bind fun xs=>if zC8 t && (!BQ i p.1 && BQ l.2 p.2) then (match xs[p.2]? with
 | some v=>some (some (.tup [.int p.2,v]),(σ.set i (.enum p.1 (p.2 + 1))).set p.1 (.liter l.1 (p.2 + 1)))
 | none=>some (none,σ.set p.1 .junk)) else none
noncomputable def zPm(i:Nat)(k:Option V->Sto->Sy)(o:Option V)(A4:Sto):Sy:=match o with
 | none=>k none A4
 | some v=>if (zGp A4 i).isSome then k (some v) A4 else .fail
noncomputable def wR(kf:Addr->Bool)(q:RecK)(t:Expr)(i:Nat)(σ:Sto)(k:Option V->Sto->Sy):Sy:=match (zGp σ i).isSome with
 | true=>zPz kf q i σ (zPm i k)
 | false=>liO (zUT t i σ) fun p=>k p.1 p.2
noncomputable def zOB(q:RecK)(t:Expr)(body:List Stmt)(ae:AE)(k:Fl->Sto->Sy)(go:Sto->Sy)(o:Option V)(A4:Sto):Sy:=match o with
 | none=>k .next A4
 | some v=>liO (wO t v ae A4) fun A5=>kS q body ae A5 fun fl A8=>zDG k go fl A8
noncomputable def wL(kf:Addr->Bool)(q:RecK)(t:Expr)(body:List Stmt)(ae:AE)(i:Nat)(k:Fl->Sto->Sy):Nat->Sto->Sy
 | 0,_=> .fail
 | f + 1,σ=>wR kf q t i σ (zOB q t body ae k fun A8=>wL kf q t body ae i k f A8)
noncomputable def yBY(kf:Addr->Bool)(q:RecK)(t:Expr)(body:List Stmt)(ae:AE)(i:Nat)(A4:Sto)(k:Fl->Sto->Sy)(ob:Ob):Sy:=match ob with
 | .citer _ _ _=>wL kf q t body ae i k 1000 A4
 | .enum _ _=>wL kf q t body ae i k 1000 A4
 | .itms j=>liO (emD A4 j) fun _=>k .next A4
 | _=>liO (zJ5 (.trk i) A4) fun nx=>vP q t body ae A4.length nx k 1000 0 A4
noncomputable def zUM(kf:Addr->Bool)(q:RecK)(t:Expr)(body:List Stmt)(ae:AE)(v:V)(A4:Sto)(k:Fl->Sto->Sy):Sy:=match v with
 | .trk i=>liO (A4[i]? :Option Ob) (yBY kf q t body ae i A4 k)
 | v=>liO (zJ5 v A4) fun nx=>vP q t body ae A4.length nx k 1000 0 A4
noncomputable def zUI(kf:Addr->Bool)(q:RecK)(t it:Expr)(body orelse:List Stmt)(ae:AE)(σ:Sto)(k:Fl->Sto->Sy):Sy:=
 if !uW it && orelse.isEmpty then q.e it ae σ fun v A4=>zUM kf q t body ae v A4 k else .fail
noncomputable abbrev ORr:List Addr->Heap->Option V->Option Value->Prop:=fun ρ h o x=>OR ρ h o x
section
variable{prog:Program}{w:World}{A:Around}{K:Frag}{n:Nat}{q:RecK}{ae:AE}{env:Env}{ρ AB:List Addr}{σ:Sto}{s AD:Shared}{pos:Pos}{kp kf:Addr->Bool}
theorem zSl{i:Nat}{c:V×V×Bool}(h:zGp σ i=some c):σ[i]? =some (.citer c.1 c.2.1 c.2.2):=by
 refine obC h fun ob e h=>e.trans (congrArg some ?_);clear e;cases ob with
 | citer=>cases h; rfl
 | _=>exact noS h
theorem zTR{i:Nat}{c:Nat×Nat}(h:zZe σ i=some c):σ[i]? =some (.enum c.1 c.2):=by
 refine obC h fun ob e h=>e.trans (congrArg some ?_);clear e;cases ob with
 | enum=>cases h; rfl
 | _=>exact noS h
theorem zS5{i:Nat}{c:V×Nat}(h:yA9 σ i=some c):σ[i]? =some (.liter c.1 c.2):=by
 refine obC h fun ob e h=>e.trans (congrArg some ?_);clear e;cases ob with
 | liter=>cases h; rfl
 | _=>exact noS h
set_option backward.match.sparseCases true in
theorem zLc(it:Value):Builtin.«callable_iterator.__next__» ⟨[it],[]⟩=(do
  if (<-field it 2)== .bool true then rule "callable_iterator.__next__.ended"; CY
  match <-(callOutOfASlot (<-field it 0)).attempt with
  | .error e=>
   if !(<-isInstance e (.type "StopIteration")) then throw e
   rule "callable_iterator.__next__.stop-iteration"
   (do slotLetsGo "callable_iterator.__next__" (<-field it 0) (fun | .builtin "callable_iterator.__next__" x=>x.pos.head? ==some it | _=>false); setField it 0 .none; setField it 1 .none; setField it 2 (.bool true))
   CY
  | .ok r=>
   if (<-field it 2)== .bool true then rule "callable_iterator.__next__.ended-meanwhile"; CY
   if !(<-holding [r] (eqBool (<-field it 1) r)) then return <-ret r
   rule "callable_iterator.__next__.sentinel"
   (do slotLetsGo "callable_iterator.__next__" (<-field it 0) (fun | .builtin "callable_iterator.__next__" x=>x.pos.head? ==some it | _=>false); setField it 0 .none; setField it 1 .none; setField it 2 (.bool true))
   CY):=rfl
theorem Rm.in1(h:Rm A (n + 1)):Rm A.in1 n:=⟨h.1,by show A.depth + 4 * n < _; have:=h.2.1; lia,by show A.units + 1 + 16 * n < _; have:=h.2.2; lia⟩
theorem zCl{f:Value}{Q:Value->Shared->Prop}{E:Value->Shared->Prop}(h:wpAny (model prog w) A (call f [] []) Q E s):wpAny (model prog w) A (callBorrowed f []) Q E s:=fun Γ p BI=>by
 have z:=h Γ p BI;unfold call at z;rw [Sem.wp_runValue] at z;unfold callBorrowed;rw [Sem.wp_call];refine wpCode_mono (fun r s' h=>?_) z;cases r with
 | error e=>exact h
 | ok f=>cases f with
  | ret=>exact h
  | _=>exact h.elim
set_option backward.match.sparseCases true in
theorem zAT(KO:KeepOK K kp kf){g a:Addr}{x:Value}(hk:kf g=true)(hK:K.In s.heap)(ho:s.heap.get? a=some (methodObj (.ref g) x)){Q:Bool->Shared->Prop}{E:Value->Shared->Prop}(q:Q true s):
  wpAny (model prog w) A (borrowsExactly (.ref a)) Q E s:=by
 obtain ⟨o1,o2,fd,o3,hl⟩:=zP3 KO hk;unfold borrowsExactly;refine BK (wpAny_load ho ?_);show wpAny (model prog w) A (do match (<-load g).data with
  | .func _=>pure true
  | _=>pure false) Q E s
 exact BK (wpAny_load (hK _ _ hl) (BM q))
theorem zBx{α:Type}(hh:A.handled=none){Q:α->Shared->Prop}{E:Value->Shared->Prop}(q:∀h' e,(∀b o,s.heap.get? b=some o->h'.get? b=some o)->(∃o,h'.get? e=some o/\o.cls= .type "StopIteration")->E (.ref e) {s with heap:=h'}):
  wpAny (model prog w) A (CY:Sem α) Q E s:=by
 unfold CY;refine BK ?_;simp only [newExc,newTuple];refine BK (EK ?_ (by size_fits));refine BK (m:=firstArgMember _ _) (D3 (a:=Value.none) (by first | rfl | (simp only [firstArgMember]; rfl)) ?_);refine EK ?_ (by size_fits);refine BK (wpAny_handled ?_);rw [show A.handled=none from hh];refine BK (BM (wpAny_throw ?_));exact q _ _ (fun b o e=>By _ (By _ e)) ⟨_,Bf _ rfl,rfl⟩
theorem uI{e:Addr}(he:∃o,s.heap.get? e=some o/\o.cls= .type "StopIteration"){Q:Option Value->Shared->Prop}{E:Value->Shared->Prop}(q:Q none s):
  wpAny (model prog w) A (do if <-isInstance (.ref e) (.type "StopIteration") then pure none else throw (.ref e):Sem (Option Value)) Q E s:=
 BK (wpAny_isInstance (T:="StopIteration") (b:=true) he isSubtype_stop (BM q))
structure CitR(ρ:List Addr)(s:Shared)(c:V×V×Bool)(a:Addr)(x y:Value):Prop where
 o:s.heap.get? a=some ⟨.type "callable_iterator",none,.fields #[x,y,.bool (!c.2.2)],#[]⟩
 x:VR ρ s.heap c.1 x
 y:VR ρ s.heap c.2.1 y
theorem zF2(I:Inv K ρ σ s){i:Nat}{c:V×V×Bool}{a:Addr}(h:zGp σ i=some c)(ha:ρ[i]? =some a):∃x y,CitR ρ s c a x y:=by
 obtain ⟨o,xs,ho,rs,x,y,rfl,rfl⟩:=I.obs _ a _ ha (zSl h);obtain ⟨x',y',e,r1,r2⟩:=zHn rs;obtain ⟨e1,e2⟩:=Cc e;cases e1;cases e2;exact ⟨x,y,ho,r1,r2⟩
theorem zQw(I:Inv K ρ σ s){j:Nat}{m:Addr×V}{a:Addr}(h:zNj σ j=some m)(ha:ρ[j]? =some a):∃x,s.heap.get? a=some (methodObj (.ref m.1) x)/\VR ρ s.heap m.2 x:=by
 obtain ⟨o,xs,ho,rs,x,rfl,rfl⟩:=I.obs _ a _ ha (zLT h);refine zNi rs fun x' e r=>?_;cases e;exact ⟨x,ho,r⟩
theorem zIB{i j:Nat}{v:V}{A4:Sto}{A7:List Addr}{A6:Shared}{a b:Addr}{y:Value}{k:Option V->Sto->Sy}{z:V×Sto}(hz:run (liO (zBq v) fun x=>liO (zGp A4 i) fun c=>liO (zNj A4 j) fun m'=>liO (zBq c.2.1) fun q'=>liO (zHC c.1) fun j'=>
  if c.2.2 && (BQ j' j && kf m'.1) then xG (eqS q' x) (k none (A4.set i (.citer .none .none false))) (k (some (.str x)) A4) else .fail)=some z) (AG:Inv K A7 A4 A6) (As:A7[i]? =some a) (Ay:A7[j]? =some b) (ry:VR A7 A6.heap v y) {G:Prop}
  (g:∀(x:Str) (t':Tok) (q':Str) (t'':Tok) (g':Addr) (sx':Value),y= .str x t'->A6.heap.get? a=some ⟨.type "callable_iterator",none,.fields #[.ref b,.str q' t'',.bool (!true)],#[]⟩->A6.heap.get? b=some (methodObj (.ref g') sx')->kf g'=true->run (xG (eqS q' x) (k none (A4.set i (.citer .none .none false))) (k (some (.str x)) A4))=some z->G):G:=by
 refine uA hz fun x hx hz1=>?_;refine uA hz1 fun c' hc' hz2=>?_;refine uA hz2 fun m' hm' hz3=>?_;refine uA hz3 fun q' hq' hz4=>?_;refine uA hz4 fun j' hj' hz5=>?_;cases hcc:c'.2.2 && (BQ j' j && kf m'.1) with
 | false=>rw [hcc] at hz5; exact noS hz5
 | true=>
  rw [hcc] at hz5;refine zF hcc fun hl' hcc=>?_;refine zF hcc fun hjj hk'=>?_;obtain ⟨t',e⟩:=kY _ _ _ hx ry;obtain ⟨fx',fy',B3⟩:=zF2 AG hc' As;have AZ:=B3.o;rw [hl'] at AZ;have Ao:=B3.x;rw [zCT hj',Bg hjj] at Ao;refine kM Ao fun b' hb' e__=>?_;cases e__;cases Ay.symm.trans hb';obtain ⟨t'',rfl⟩:=kY _ _ _ hq' B3.y;obtain ⟨sx',Aj,_⟩:=zQw AG hm' Ay;exact g x t' q' t'' _ sx' e AZ Aj hk' hz5
theorem zMv(KO:KeepOK K kp kf)(hr:SndK prog w K n q)(hA:Rm A (n + 1)){i j:Nat}{c:V×V×Bool}(hc:zGp σ i=some c)(hl:c.2.2=true)(hj:zHC c.1=some j)(I:Inv K ρ σ s){a:Addr}(ha:ρ[i]? =some a):zC K ρ s (zQG kf q i j σ) (W prog w A s (pyNext (.ref a))) ORr:= .li fun m hm=> .only fun hk=>fun hs k z hz Q E qq=>by
 obtain ⟨fx,fy,C⟩:=zF2 I hc ha;have ho:=C.o;rw [hl] at ho;have rfx:=C.x;rw [zCT hj] at rfx;refine kM rfx fun b hb e__=>?_;cases e__;obtain ⟨sx,hmo,_⟩:=zQw I hm hb;have hT:s.TypeIs (.ref a) "callable_iterator":=⟨_,ho,rfl⟩;show wpAny (model prog w) A (pyNext (.ref a)) Q E s;unfold pyNext;refine BK (wpAny_attempt (Cz (name:=BN "__next__") hT qY (Cj qY hT zAx ?_ (zAX _))));rw [zLc];refine BK (D4 ho rfl (x:= .bool false) rfl ?_);show wpAny (model prog w) A.in1 (if (BX false==BX true)=true then _ else _) _ _ s;rw [if_neg (show ¬((BX false==BX true)=true) from Bk)];refine BK (D4 ho rfl (x:= .ref b) rfl ?_);refine BK (wpAny_attempt ?_);unfold callOutOfASlot;refine BK (zAT KO hk I.kin hmo ?_);rw [if_pos rfl];refine zCl (hr.c _ _ _ _ _ _ _ _ [] [] hA.in1 I rfx vrs_nil' ⟨rfl,vrs_nil'⟩ hs _ _ hz _ _ fun v A4 A7 A6 y hz AG AK AS ry=>?_);refine zIB hz AG (AK.preP _ _ ha) (AK.preP _ _ hb) ry fun x t' q' t'' g' sx' e AZ Aj hk' hz5=>?_;cases e;have As:=AK.preP _ _ ha;dsimp only;refine BK (D4 AZ rfl (x:= .bool false) rfl ?_);show wpAny (model prog w) A.in1 (if (BX false==BX true)=true then _ else _) _ _ A6;rw [if_neg (show ¬((BX false==BX true)=true) from Bk)];refine BK (D4 AZ rfl (x:= .str q' t'') rfl ?_);refine BK (CT (wpAny_eqBool_str ?_));cases hq:eqS q' x with
 | true=>
  rw [hq] at hz5;rw [decide_eq_true ((yI _ _).mp hq)];rw [if_neg (show ¬(!true)=true from Bk)];refine BK (D6 ?_);refine BK (BK (D4 AZ rfl (x:= .ref b) rfl ?_));unfold slotLetsGo;refine BK (BK (zAT KO hk' AG.kin Aj ?_));rw [if_pos rfl];refine BM (BK (wpAny_setField AZ rfl (by simp) ?_));have g1:=CZ (E4 (·.setIfInBounds 0 Value.none)) AZ rfl;refine BK (wpAny_setField g1 rfl (by simp [E4]) ?_);have g2:=CZ (E4 (·.setIfInBounds 1 Value.none)) g1 rfl;refine wpAny_setField g2 rfl (by simp [E4]) ?_;have g3:=CZ (E4 (·.setIfInBounds 2 (BX true))) g2 rfl;refine zBx (show A.in1.handled=none from hA.1) fun h' e hk2 he=>?_;refine uI he ?_;have z:=AG.upd (ob:= .citer .none .none false) As (h':=h') (fun b o nb e=>hk2 b o (by
   rw [(DF _ a _).2 b nb,(DF _ a _).2 b nb,(DF _ a _).2 b nb]; exact e)) A6.toks ⟨_,[.none,.none],hk2 _ _ g3,⟨_,_,rfl,qA,VRs.one qA⟩,_,_,rfl,rfl⟩
  exact qq _ _ _ _ none hz5 z.1 (AK.then AG z.2) AS trivial
 | false=>
  rw [hq] at hz5;rw [decide_eq_false fun e=>by rw [(yI _ _).mpr e] at hq; exact noB hq.symm];rw [if_pos (show (!false)=true from rfl)];exact BM ⟨_,rfl,BM (qq _ _ _ _ (some (.str x t')) hz5 AG AK AS (show VR A7 A6.heap (.str x) (.str x t') from yL))⟩
theorem zMG(KO:KeepOK K kp kf)(hr:SndK prog w K n q)(hA:Rm A (n + 1)){i:Nat}(I:Inv K ρ σ s){a:Addr}(ha:ρ[i]? =some a):zC K ρ s (zPz kf q i σ) (W prog w A s (pyNext (.ref a))) ORr:= .li fun c hc=>by
 cases hl:c.2.2 with
 | true=>exact .li fun j hj=>zMv KO hr hA hc hl hj I ha
 | false=>
  refine .up fun k z hz Q E qq=>?_;obtain ⟨fx,fy,C⟩:=zF2 I hc ha;have ho:=C.o;rw [hl] at ho;have hT:s.TypeIs (.ref a) "callable_iterator":=⟨_,ho,rfl⟩;show wpAny (model prog w) A (pyNext (.ref a)) Q E s;unfold pyNext;refine BK (wpAny_attempt (Cz (name:=BN "__next__") hT qY (Cj qY hT zAx ?_ (zAX _))));rw [zLc];refine BK (D4 ho rfl (x:= .bool true) rfl ?_);show wpAny (model prog w) A.in1 (if (BX true==BX true)=true then _ else _) _ _ s;rw [if_pos (show (BX true==BX true)=true from rfl)];refine BK (D6 (BK ?_));refine zBx (show A.in1.handled=none from hA.1) fun h' e hk2 he=>?_;refine uI he ?_;have z:=I.keeps (tk:=s.toks) hk2;exact qq _ _ _ _ none hz z.1 z.2 trivial
noncomputable def zPh(prog:Program)(w:World)(A:Around)(t:Expr)(a:Addr)(s:Shared):(Option Value->Shared->Prop)->(Value->Shared->Prop)->Prop:=fun Q E=>
 wpAny (model prog w) A (pyNext (.ref a)) (fun y A6=>match y with | none=>Q none A6 | some x=>wpAny (model prog w) A (letOwnedTupleGo t (.ref a) x) (fun _ A9=>Q (some x) A9) E A6) E s
theorem zNQ{t:Expr}{a:Addr}:Gr s (zPh prog w A t a s):=fun hs Q E h=>wpAny_with_toks hs (C7 h (fun y A6 AR AS=>by
 cases y with
 | none=>exact AR AS
 | some x=>exact wpAny_with_toks AS (C7 AR (fun _ _ q=>q) fun _ _ e _=>e)) fun _ _ e _=>e)
theorem zG6{it l:Addr}{i:Nat}{items}{Q:Value->Shared->Prop}{E:Value->Shared->Prop}(hh:A.handled=none)
  (hit:s.heap.IsListIter it l i) (hl:s.heap.IsList l items) (hx:items[i]? =none)
  (hE:∀h' e,DB it s.heap h'->(∃o,h'.get? it=some o)->(∃o,h'.get? e=some o/\o.cls= .type "StopIteration")->E (.ref e) {s with heap:=h'}):
  wpAny (model prog w) A (Builtin.SmallTypes.nextOf (.ref it)) Q E s:=by
 obtain ⟨o,ho,hc,hd⟩:=id hit;obtain ⟨ol,hol,_,nl,hdl⟩:=hl;unfold Builtin.SmallTypes.nextOf;refine BK (Cz (name:=BN "__next__") hit.typeIs slot_listiter_next
  (Cj slot_listiter_next hit.typeIs entry_listiter_next ?_ (args_listiter_next _)))
 show wpAny _ _ (field (.ref it) 0 >>=_) _ _ s;refine BK (D4 ho hd (x:= .ref l) rfl ?_);show wpAny _ _ (if (Value.ref l==Value.none)=true then _ else _) _ _ s;rw [if_neg (show ¬((Value.ref l==Value.none)=true) from Bk)];show wpAny _ _ (field (.ref it) 1 >>=_) _ _ s;refine BK (D4 ho hd (x:= .int i 0) rfl ?_);show wpAny _ _ (seqItems? (.ref l) >>=_) _ _ s;refine BK (EI hol hdl ?_);simp only [Int.toNat_natCast,hx];refine BK (D6 (BK (wpAny_setField ho hd (by simp) ?_)));obtain ⟨oc,od,oda,osl⟩:=o;dsimp only at hd hc;subst hd;have g1:=CZ (E4 (·.setIfInBounds 0 Value.none)) ho rfl;refine zBx (show A.in1.handled=none from hh) fun h' e hk he=>?_;exact hE _ _ (fun b o nb e=>hk _ _ ((DF ..).extBut b o nb e)) ⟨_,hk _ _ g1⟩ he
theorem zOH{e it l:Addr}{i:Nat}{items:Array Value}{old:Value}{Q:Option Value->Shared->Prop}{E:Value->Shared->Prop}(hh:A.handled=none)
  (he:IsEnum s.heap e it i old) (hit:s.heap.IsListIter it l i) (hl:s.heap.IsList l items) (hx:items[i]? =none)
  (hQ:∀h',DB it s.heap h'->(∃o,h'.get? it=some o)->Q none {s with heap:=h'}):wpAny (model prog w) A (pyNext (.ref e)) Q E s:=by
 have hT:s.TypeIs (.ref e) "enumerate":=⟨_,he,rfl⟩;unfold pyNext;refine BK (wpAny_attempt (Cz (name:=BN "__next__") hT F.slot_enumerate_next
  (Cj F.slot_enumerate_next hT F.entry_enumerate_next ?_ (F.args_enumerate_next_1 _))))
 show wpAny _ _ (field (.ref e) 2 >>=_) _ _ _;refine BK (D4 he rfl (x:= .ref it) rfl ?_);refine BK (zG6 (show A.in1.handled=none from hh) hit hl hx fun h' x he' hi hx'=>?_);exact uI hx' (hQ _ he' hi)
theorem Inv.upd2(I:Inv K ρ σ s){i j:Nat}{a b:Addr}{o1 o2:Ob}{h':Heap}{tk:Tok}(ha:ρ[i]? =some a)(hb:ρ[j]? =some b)(old:∀c o,c≠a->c≠b->s.heap.get? c=some o->h'.get? c=some o)(keep:∀c o,c ∉ ρ->s.heap.get? c=some o->h'.get? c=some o)(r1:ObR ρ h' a o1)(r2:ObR ρ h' b o2):
  Inv K ρ ((σ.set i o1).set j o2) {s with heap:=h',toks:=tk}/\Ext ρ s ρ {s with heap:=h',toks:=tk}:=
 zGX (P:=fun l'=>Inv K l' ((σ.set i o1).set j o2) {s with heap:=h',toks:=tk}/\Ext ρ s l' {s with heap:=h',toks:=tk}) (I.gen (by rw [Ce,Ce]; exact I.len) CH (fun b hb=>absurd hb Ba) keep (fun p c ob g1 g2=>by
  rw [Bp] at g1 ⊢
  by_cases hpj:p=j
  ·subst hpj
   rw [Bw (by rw [Ce,<-I.len]; exact zQ hb)] at g2;cases hb.symm.trans g1;cases g2;exact .inr r2
  ·rw [DX (fun z=>hpj z.symm)] at g2
   by_cases hpi:p=i
   ·subst hpi
    rw [Bw (by rw [<-I.len]; exact zQ ha)] at g2;cases ha.symm.trans g1;cases g2;exact .inr r1
   ·rw [DX (fun z=>hpi z.symm)] at g2
    exact .inl ⟨g2,fun o g=>old c o (fun z=>hpi (zY I.nd g1 (z▸ha))) (fun z=>hpj (zY I.nd g1 (z▸hb))) g⟩) rfl rfl)
theorem zTT{t:Expr}(h:zC8 t=true):∃es k p,t= .Tuple es k p:=by
 cases t with
 | Tuple=>exact ⟨_,_,_,rfl⟩
 | _=>exact noB h
theorem zNo(hh:A.handled=none){t:Expr}{i:Nat}(I:Inv K ρ σ s){a:Addr}(ha:ρ[i]? =some a):zC K ρ s (fun k=>liO (zUT t i σ) fun p=>k p.1 p.2) (zPh prog w A t a s) ORr:= .li fun p hp=> .up (g:=zNQ) fun k z hz Q E qq=>by
 refine zJ hp fun e he hp=>?_;refine zJ hp fun l hl hp=>?_;refine zJ hp fun xs hxs hp=>?_;cases hc:zC8 t && (!BQ i e.1 && BQ l.2 e.2) with
 | false=>rw [hc] at hp; exact noS hp
 | true=>
  rw [hc] at hp;refine zF hc fun ht hc=>?_;refine zF hc fun hij hk=>?_;have hij:i≠e.1:=fun z=>by rw [z,CQ] at hij; exact noB hij
  have hk:=Bg hk;obtain ⟨o,ys,ho,rs,it,old,rfl,rfl⟩:=I.obs _ a _ ha (zTR he);refine zNi rs fun _ e1 r1=>?_;cases e1;refine kM r1 fun _ hit e2=>?_;cases e2;obtain ⟨oi,ys,hoi,rs,la,rfl,hci,hdi⟩:=I.obs _ it _ hit (zS5 hl);refine zNi rs fun _ e1 rsrc=>?_;cases e1;rw [hk] at hdi;have hli:s.heap.IsListIter it la e.2:=⟨oi,hoi,hci,hdi⟩;refine wG I hxs rsrc fun la' items m e1 hlo rx=>?_;cases e1;have hne:a≠it:=fun z=>hij (zY I.nd ha (z▸hit));have hp:(match xs[e.2]? with
   | some v=>some (some (V.tup [.int e.2,v]),(σ.set i (.enum e.1 (e.2 + 1))).set e.1 (.liter l.1 (e.2 + 1)))
   | none=>some (none,σ.set e.1 .junk))=some p:=hp
  cases hv:xs[e.2]? with
  | none=>
   rw [hv] at hp;cases hp;refine zOH hh ho hli ⟨_,hlo,rfl,m,rfl⟩ (Array.getElem?_eq_none_iff.mpr (rx.size▸Cu.mp hv)) fun h' e1 e2=>?_;obtain ⟨oj,hoj⟩:=e2;have y:=I.upd (ob:= .junk) hit e1 s.toks ⟨oj,[],hoj,vrs_nil',trivial⟩;exact qq _ _ _ _ none hz y.1 y.2 trivial
  | some v=>
   rw [hv] at hp;cases hp;obtain ⟨x,hx,rv⟩:=rx.get hv;refine wpAny_pyNext_enum_item ho hli ⟨_,hlo,rfl,m,rfl⟩ (x:=x) (CU▸hx) hne fun h' e1 e2 e3 e4 e5=>?_;obtain ⟨_,_,_,rfl⟩:=zTT ht;refine wpAny_letOwnedTupleGo_enum (s:={s with heap:=h',toks:=s.toks + 1}) e1 fun h'' e6 e7=>?_;have old':∀b o,b≠a->b≠it->s.heap.get? b=some o->h''.get? b=some o:=fun b o n1 n2 g=>e7.extBut b o n1 (e5 b o n1 n2 g);have keep:∀b o,b ∉ ρ->s.heap.get? b=some o->h''.get? b=some o:=fun b o nb g=>old' b o (fun z=>nb (z▸BZ ha)) (fun z=>nb (z▸BZ hit)) g;have kp:Kp true ρ ρ s.heap h'':=fun b o nb g _=>⟨keep b o nb g,nb⟩;obtain ⟨oi',hoi',hci',hdi'⟩:=e2.extBut e7.extBut hne.symm;have z:=I.upd2 (o1:= .enum e.1 (e.2 + 1)) (o2:= .liter l.1 (e.2 + 1)) (tk:=s.toks + 1) ha hit old' keep ⟨_,[.ref it],e6,VRs.one ⟨it,hit,rfl⟩,it,x,rfl,rfl⟩ ⟨oi',[.ref la],hoi',VRs.one (rsrc.mono (fun _ _ e=>e) kp),la,rfl,hci',hdi'⟩;refine qq _ _ _ _ (some _) hz z.1 z.2 ⟨_,_,_,rfl,I.fresh,e7.extBut _ _ (fun z=>?_) e3,⟨_,_,rfl,vZ,VRs.one (rv.mono (fun _ _ e=>e) kp)⟩⟩;obtain ⟨o,g⟩:=I.has a (BZ ha);exact absurd (Dt g) (z▸Dz _)
theorem zMy(KO:KeepOK K kp kf)(hr:SndK prog w K n q)(hA:Rm A (n + 1)){t:Expr}{i:Nat}(I:Inv K ρ σ s){a:Addr}(ha:ρ[i]? =some a):zC K ρ s (wR kf q t i σ) (zPh prog w A t a s) ORr:=by
 unfold wR;cases (zGp σ i).isSome with
 | false=>exact zNo hA.1 I ha
 | true=>
  refine (zMG KO hr hA I ha).then (g:=fun o A4 k=>zPm i k o A4) (fun y A6 Q E=>match y with | none=>Q none A6 | some x=>wpAny (model prog w) A (letOwnedTupleGo t (.ref a) x) (fun _ A9=>Q (some x) A9) E A6) (fun _ _ h=>h) fun o A4 A7 A6 y AG AK r=>?_;cases o with
  | none=>cases y with
   | none=>exact .ret AG (b:=none) trivial fun _ _ h=>h
   | some=>exact r.elim
  | some v=>cases y with
   | none=>exact r.elim
   | some y=>
    refine .only fun hs=>?_;obtain ⟨c,hc⟩:=CW.mp hs;obtain ⟨x',y',C⟩:=zF2 AG hc (AK.preP _ _ ha);exact .ret AG (b:=some y) r fun Q E h=>zBc C.o rfl (by decide) h
theorem zNd{a:Addr}{vs:Array Value}(ho:s.heap.get? a=some ⟨.type "callable_iterator",none,.fields vs,#[]⟩){Q:Value->Shared->Prop}{E:Value->Shared->Prop}(q:Q (.ref a) s):wpAny (model prog w) A (pyIter (.ref a)) Q E s:=by
 have hT:s.TypeIs (.ref a) "callable_iterator":=⟨_,ho,rfl⟩;refine wpAny_pyIter_slot hT zA6 (Cj zA6 hT zEj ?_ (zGS _));show wpAny _ _ (ret (.ref a)) _ _ s;exact BM ⟨_,rfl,"callable_iterator",_,hT,qY.lookup,q⟩
theorem zNx(KO:KeepOK K kp kf)(hr:SndK prog w K n q)(hA:Rm A (n + 1)){i:Nat}{t:Expr}{body:List Stmt}(Au:EnvR AB ae env){a:Addr}(B9:AB[i]? =some a){kk:Fl->Sto->Sy}{z:V×Sto}{fu:Nat}(h:run (wL kf q t body ae i kk fu σ)=some z)(I:Inv K ρ σ s)(X:Ext AB AD ρ s)(hs:0 < s.toks)
  {R:Result->Shared->Prop} (qq:∀f AA AC s' x,run (kk f AA)=some z->Inv K AC AA s'->Ext AB AD AC s'->0 < s'.toks->FlR AC s'.heap f x->R (.ok x) s'):codeAny (model prog w) A (.forLoop t (.ref a) body [] env) R s:=by
 refine codeAny_forLoop_any (fun fu s=>∃σ ρ,run (wL kf q t body ae i kk fu σ)=some z/\Inv K ρ σ s/\Ext AB AD ρ s/\0 < s.toks) ?_ fu ⟨σ,ρ,h,I,X,hs⟩;clear h I X hs;rintro fu s ⟨σ,ρ,h,I,X,hs⟩;cases fu with
 | zero=>exact noS h
 | succ fu=>
  have ha:ρ[i]? =some a:=X.preP _ _ B9;refine C7 (zMy (prog:=prog) (w:=w) (t:=t) KO hr hA I ha hs _ _ h (fun o A6=>match o with
   | none=>wpAny (model prog w) A (execs [] env) (fun f AF=>R (.ok f) AF) (notedBy (model prog w) A env fun e s'=>R (.error e) s') A6
   | some v=>wpAny (model prog w) A (assign t env v) (fun _ A9=>wpAny (model prog w) A (execs body env) (fun f AF=>match f with
      | .next | .cont=>∃m,m < fu + 1/\∃σ ρ,run (wL kf q t body ae i kk m σ)=some z/\Inv K ρ σ AF/\Ext AB AD ρ AF/\0 < AF.toks
      | .brk=>R (.ok .next) AF
      | .ret v=>R (.ok (.ret v)) AF) (notedBy (model prog w) A env fun e s'=>R (.error e) s') A9) (notedBy (model prog w) A env fun e s'=>R (.error e) s') A6) (notedBy (model prog w) A env fun e s'=>R (.error e) s') fun o A4 A7 A6 y h AG AK AS r=>?_) (fun y A6 AR=>by
    cases y with
    | none=>exact AR
    | some=>exact AR) fun _ _ h=>h
  have XX:=X.then I AK;cases o with
  | none=>cases y with
   | none=>exact EA (qq _ _ _ _ _ h AG XX AS .next)
   | some=>exact r.elim
  | some v=>cases y with
   | none=>exact r.elim
   | some y=>
    refine uA h fun A5 h2 h=>?_;refine yY AS _ _ (vC hA.1 (Au.ext XX) AG r _ h2 _ _ fun A9 AH AP AU=>?_);have Az:=XX.then AG AP;refine (At.mk hr hA.down (Au.ext Az) AH).st _ AU _ _ h _ _ fun fl A8 AL AF y h AN AO AQ ry=>?_;have An:=Az.then AH AO;cases ry with
    | next=>exact ⟨fu,Cg _,A8,AL,h,AN,An,AQ⟩
    | cont=>exact ⟨fu,Cg _,A8,AL,h,AN,An,AQ⟩
    | brk=>exact qq _ _ _ _ _ h AN An AQ .next
    | ret rv=>exact qq _ _ _ _ _ h AN An AQ (.ret rv)
theorem zQE(hsm:(K.lookup sysModules).isSome=true)(KO:KeepOK K kp kf)(hA1:Rm A (n + 1))(a:At prog w K n q A ae env ρ σ s){t it:Expr}{body orelse:List Stmt}:zC K ρ s (zUI kf q t it body orelse ae σ) (W prog w A s (exec (.For t it body orelse pos) env)) FlR:= .only fun hc=>by
 refine zF hc fun hs ho=>?_;obtain rfl:=Br.mp ho;refine (a.e it).then (g:=fun v A4 k=>zUM kf q t body ae v A4 k) (fun x A6 Q E=>wpAny (model prog w) A (pyIter x) (fun it A9=>
   codeAny (model prog w) A (.forLoop t it body [] env) (fun r s'=>match r with | .ok f=>Q f s' | .error e=>cameBackBy (model prog w) A env E e s') A9) E A6) (fun Q E h=>wpAny_For h (zBS ((Bx _).mp hs))) fun v A4 A7 A6 x AG AK rx=>?_
 have X:=a.X.ext AK;have gen:zC K A7 A6 (fun k=>liO (zJ5 v A4) fun nx=>vP q t body ae A4.length nx k 1000 0 A4) (fun Q E=>wpAny (model prog w) A (pyIter x) (fun it A9=>
   codeAny (model prog w) A (.forLoop t it body [] env) (fun r s'=>match r with | .ok f=>Q f s' | .error e=>cameBackBy (model prog w) A env E e s') A9) E A6) FlR:= .li fun nx hx=>fun hs k z hz Q E qq=>
  yY hs _ _ (zAJ hx AG rx fun itr A9 St Pr m0 W AH Aw hp hp0 AU=>zPe a.hr a.hA W AG.len m0 (zHI AG m0) X hp0 hz AH Aw AU fun f AA AC s' y hk I' X' hs' ry=>qq _ _ _ _ _ hk I' X' hs' ry)
 cases v with
 | trk i=>
  refine .li fun ob hi=>?_;have lp:∀{b:Addr} {k:Fl->Sto->Sy} {z:V×Sto} {Q:Flow->Shared->Prop} {E:Value->Shared->Prop},A7[i]? =some b->0 < A6.toks->run (wL kf q t body ae i k 1000 A4)=some z->(∀f AA AC s' y,run (k f AA)=some z->Inv K AC AA s'->Ext A7 A6 AC s'->0 < s'.toks->FlR AC s'.heap f y->Q y s')->
    codeAny (model prog w) A (.forLoop t (.ref b) body [] env) (fun r s'=>match r with | .ok f=>Q f s' | .error e=>cameBackBy (model prog w) A env E e s') A6:=fun hb hs hz qq=>
   zNx KO a.hr hA1 X hb hz AG (.refl _ _) hs fun f AA AC s' y hk I' X' hs' ry=>qq _ _ _ _ _ hk I' X' hs' ry
  cases ob with
  | citer f u l=>
   refine fun hs k z hz Q E qq=>?_;refine kM rx fun b hb e__=>?_;cases e__;obtain ⟨o,xs,ho,_,x,y,_,rfl⟩:=AG.obs _ b _ hb hi;exact zNd ho (lp hb hs hz qq)
  | enum j k'=>
   refine fun hs k z hz Q E qq=>?_;refine kM rx fun b hb e__=>?_;cases e__;obtain ⟨o,xs,ho,_,x,y,_,rfl⟩:=AG.obs _ b _ hb hi;exact wpAny_pyIter_enum ho (lp hb hs hz qq)
  | itms j=>
   refine .li fun u hj=>fun hs k z hz Q E qq=>?_;refine kM rx fun b hb e__=>?_;cases e__;obtain ⟨o,xs,ho,rs,d,rfl,rfl⟩:=AG.obs _ b _ hb hi;refine zNi rs fun _ e hd=>?_;cases e;refine kM hd fun _ hd e=>?_;cases e;obtain ⟨m,hdo⟩:=zLD AG hd hj;refine wpAny_pyIter_items (knd:=strKind prog w) ⟨_,ho,rfl,rfl⟩ (zDY hdo) ?_;have ex:=AG.extra {cls:= .type "dict_itemiterator",data:= .fields #[.none,.bool false,.ref d,.int 0 0,.int 0 0,.int m 0,.none,.none]} A6.toks;refine codeAny_forLoop_any (fun _ s=>s={A6 with heap:=A6.heap.push {cls:= .type "dict_itemiterator",data:= .fields #[.none,.bool false,.ref d,.int 0 0,.int 0 0,.int m 0,.none,.none]}}) ?_ 0 rfl;rintro _ s rfl;have hit:IsItemIter (A6.heap.push {cls:= .type "dict_itemiterator",data:= .fields #[.none,.bool false,.ref d,.int 0 0,.int 0 0,.int m 0,.none,.none]}) A6.heap.objs.size d 0 0 m .none .none:=Bf _ rfl;refine wpAny_pyNext_items_end (knd:=strKind prog w) (kvs:=[]) (i:=0) a.hA.1 hit (zDY (By _ hdo)) rfl fun h' hb=>?_;have AH:=ex.1.but (h':=h') AG.fresh (zHI AG (qK _)) (Bf _ rfl) rfl hb A6.toks;exact EA (qq _ _ _ _ _ hz AH ((Ext.refl A7 A6).itr (qK _) (h':=h') (fun b o nb e=>hb b o nb (By _ e)) A6.toks) hs .next)
  | _=>exact gen
 | _=>exact gen
end
noncomputable def zZD(c:Const):Option Str:=match c with
 | .str z=>some z
 | _=>none
noncomputable def yDG(c:Const):Option Int:=match c with
 | .int z=>some z
 | _=>none
noncomputable def yBM(e:Expr):Option Str:=match e with
 | .Constant c _ _=>zZD c
 | _=>none
noncomputable def zYI(e:Expr):Option Int:=match e with
 | .Constant c _ _=>yDG c
 | _=>none
noncomputable def zTZ{α:Type}(l:List α):Option α:=match l with
 | []=>none
 | a::r=>if r.isEmpty then some a else none
noncomputable def yCj{α:Type}(l:List α):Option (α×α):=match l with
 | []=>none
 | a::r=>(zTZ r).map (a,·)
noncomputable def yAg(e:Expr):Option (Expr×Expr):=match e with
 | .Call f args kws _=>if kws.isEmpty && !zBG f then (zTZ args).map (f,·) else none
 | _=>none
noncomputable def zLf(v:V):Bool:=match v with
 | .val v=>(match v with | .builtin id=>id=="chr" | _=>false)
 | _=>false
noncomputable def zWP(q:RecK)(e:Expr)(ae:AE)(σ:Sto)(k:Str->Sto->Sy):Sy:=match e with
 | .Constant c _ _=>liO (zZD c) fun z=>k z σ
 | e=>liO (yAg e) fun p=>liO (zYI p.2) fun i=>if decide (i < 0) || decide (i >1114111) then .fail else q.e p.1 ae σ fun fv A4=>if zLf fv then k ⟨#[i.toNat]⟩ A4 else .fail
noncomputable def yB5(q:RecK)(o:Expr)(apos pos:Pos)(args:List Expr)(kws:List Keyword)(ae:AE)(σ:Sto)(k:V->Sto->Sy):Sy:=
 if !zA8 o && (apos.endLine==pos.line && (kws.isEmpty && zBH args [])) then liO (yCj args) fun p=>liO (yBM p.1) fun y=>q.e o ae σ fun u A4=>liO (zBq u) fun x=>zWP q p.2 ae A4 fun z A5=>
  need (!(y==z) && decide (x.length + (x.length + 1) * z.length<=16777216)) (pickV (some (.str (Txt.replace x y z))) fun v=>k v A5) else .fail
section
variable{prog:Program}{w:World}{A:Around}{K:Frag}{n:Nat}{q:RecK}{ae:AE}{env:Env}{ρ:List Addr}{σ:Sto}{s:Shared}{pos:Pos}
theorem zMd{α:Type}{l:List α}{a:α}(h:zTZ l=some a):l=[a]:=by
 cases l with
 | nil=>exact noS h
 | cons b r=>
  have h:(if r.isEmpty then some b else none)=some a:=h;cases r with
  | nil=>cases h; rfl
  | cons=>exact noS h
theorem zSY{α:Type}{l:List α}{p:α×α}(h:yCj l=some p):l=[p.1,p.2]:=by
 cases l with
 | nil=>exact noS h
 | cons b r=>
  refine yJ h fun c hc e__=>?_;cases e__;rw [zMd hc]
theorem zR7{e:Expr}{z:Str}(h:yBM e=some z):∃k p,e= .Constant (.str z) k p:=by
 cases e with
 | Constant c k p=>cases c with
  | str=>cases h; exact ⟨k,p,rfl⟩
  | _=>exact noS h
 | _=>exact noS h
theorem zRZ{e:Expr}{z:Int}(h:zYI e=some z):∃k p,e= .Constant (.int z) k p:=by
 cases e with
 | Constant c k p=>cases c with
  | int=>cases h; exact ⟨k,p,rfl⟩
  | _=>exact noS h
 | _=>exact noS h
theorem zKN{f:Value}{e:Expr}{es:List Expr}(h1:xX e=false){Q:Args->Shared->Prop}{E:Value->Shared->Prop}(h:wpAny (model prog w) A (eval e env) (fun v A6=>wpAny (model prog w) A (spliced (backTo pos (starEach es env))) (fun vs A9=>Q ⟨v::vs,[]⟩ A9) E A6) E s):
  wpAny (model prog w) A (evalArgs f true (backTo pos (starEach (e::es) env)) (backToKw pos (keywordEach [] env))) Q E s:=by
 have e2:=yW (env:=env) (es:=es) h1;have z:=wpAny_items_cons (pos:=pos) (Q:=fun vs s=>Q ⟨vs,[]⟩ s) h e2;rw [e2] at z ⊢;exact evalArgs_kw rfl (C7 z (fun vs A6 h=>wpAny_evalAll_nil h) fun _ _ h=>h)
theorem zOW{v:V}(h:zLf v=true){x:Value}(r:VR ρ s.heap v x):x= .builtin "chr":=by
 cases v with
 | val v=>cases v with
  | builtin id=>rw [vrV r,Bo (show (id=="chr")=true from h)]
  | _=>exact noB h
 | _=>exact noB h
theorem uQ{id:String}{h:Heap}:uZ prog w (.builtin id) h:=⟨.machine,.inr (.inl rfl),EM rfl⟩
theorem zT5(a:At prog w K n q A ae env ρ σ s){m:Nat}(hm:m<=s.toks){e:Expr}:zC K ρ s (zWP q e ae σ) (W prog w A s (eval e env)) (fun _ _ z x=>∃v,x= .str z v/\m<=v):=by
 have gen:zC K ρ s (fun k=>liO (yAg e) fun p=>liO (zYI p.2) fun i=>if decide (i < 0) || decide (i >1114111) then .fail else q.e p.1 ae σ fun fv A4=>if zLf fv then k ⟨#[i.toNat]⟩ A4 else .fail) (W prog w A s (eval e env)) (fun _ _ z x=>∃v,x= .str z v/\m<=v):=by
  refine .li fun p hp=> .li fun i hi=> .not fun hr=>?_;cases e with
  | Call f args kws cp=>
   have hp:(if kws.isEmpty && !zBG f then (zTZ args).map (f,·) else none)=some p:=hp;cases hc:kws.isEmpty && !zBG f with
   | false=>rw [hc] at hp; exact noS hp
   | true=>
    rw [hc] at hp;refine zF hc fun c1 c2=>?_;refine yJ hp fun b hb e__=>?_;cases e__;obtain rfl:=zMd hb;obtain rfl:=Br.mp c1;obtain ⟨ck,cpp,rfl⟩:=zRZ hi;refine fun hs k z hz Q E qq=>?_;show wpAny (model prog w) A (eval (.Call f [.Constant (.int i) ck cpp] [] cp) env) Q E s;rw [zKP ((Bx _).mp c2)];refine BK (wpAny_with_toks hm ((a.e f) hs _ _ hz _ _ fun fv A4 A7 A6 y hz AG AK AS r B8=>?_));cases hch:zLf fv with
    | false=>rw [hch] at hz; exact noS hz
    | true=>
     rw [hch] at hz;rw [zOW hch r];refine callWith_of (P:=uZ prog w (.builtin "chr")) (zBL rfl) (fun h p=>p) (zKN rfl (wpAny_Constant_int (wpAny_items_nil ⟨uQ,?_⟩)));exact P.chr_of_int (t:=A6.toks) (by rw [hr]) (qq _ _ _ _ _ hz (AG.toks _) ((AK.toks _)) (Du _) ⟨_,rfl,Ck B8⟩)
  | _=>exact noS hp
 cases e with
 | Constant c ck cp=>
  refine .li fun z hz=>?_;cases c with
  | str=>cases hz; exact .done ⟨a.I.toks _,(Ext.refl _ _).toks _⟩ ⟨_,rfl,hm⟩ fun Q E h=>wpAny_Constant_str h
  | _=>exact noS hz
 | _=>exact gen
theorem zS1(a:At prog w K n q A ae env ρ σ s){o:Expr}{name:Str}(hn:name="replace"){apos:Pos}{args:List Expr}{kws:List Keyword}:
  zC K ρ s (yB5 q o apos pos args kws ae σ) (W prog w A s (eval (.Call (.Attribute o name apos) args kws pos) env)) VRr:= .only fun hc=>by
 subst hn;refine zF hc fun c1 hc=>?_;refine zF hc fun c2 hc=>?_;refine zF hc fun c4 c5=>?_;obtain rfl:=Br.mp c4;have hpos:methodCallPos true o env apos pos=pure pos:=by unfold methodCallPos; simp [c2]
 refine .li fun p hp=> .li fun y hy=>?_;obtain ⟨e1,e2⟩:=p;obtain rfl:=zSY hp;obtain ⟨yk,yp,rfl⟩:=zR7 hy;have hst:xX e2=false:=by
  refine zF c5 fun z _=>?_;refine zF ((D7).symm.trans z) fun _ z=>?_;refine zF ((D7).symm.trans z) fun z _=>?_;exact (Bx _).mp z
 refine (a.e o).then (g:=fun u A4 k=>liO (zBq u) fun x=>zWP q e2 ae A4 fun z A5=>need (!(y==z) && decide (x.length + (x.length + 1) * z.length<=16777216)) (pickV (some (V.str (Txt.replace x y z))) fun v=>k v A5))
  (fun x A6 Q E=>wpAny (model prog w) A (getMethod x "replace" (do return (<-importBound o env).getD true)) (fun p A9=>wpAny (model prog w) A (callWith pos p.1 p.2 (backTo pos (starEach [.Constant (.str y) yk yp,e2] env)) (backToKw pos (keywordEach [] env))) Q E A9) E A6) (fun Q E h=>?_) fun u A4 A7 A6 x I Y r=> .li fun xs hx=>?_
 ·show wpAny (model prog w) A (eval (.Call (.Attribute o "replace" apos) [.Constant (.str y) yk yp,e2] [] pos) env) Q E s
  rw [arm_eval_Call,zG8 ((Bx _).mp c1)];refine BK (C7 h (fun x A6 AR=>BK (Cb ?_)) fun _ _ h=>h);unfold methodCall;rw [zLE c5 (show 2 + 0 < 29 from by decide)];exact BK (CT (C7 AR (fun p A9 AW=>BK (D3 hpos AW)) fun _ _ h=>h))
 ·intro hs k z hz Q E qq
  obtain ⟨t,rfl⟩:=kY _ _ _ hx r;refine GM.replace (callWith_of (P:=uZ prog w (.builtin "str.replace")) (zBL c5) (fun h p=>p) (zKN rfl (wpAny_Constant_str ?_)));refine wpAny_items_cons (Q:=fun vs A9=>_) ?_ (yW hst);refine zT5 (At.mv (A6:={A6 with toks:=A6.toks + 1}) a (I.toks _) (Y.toks _)) (m:=A6.toks + 1) (CD _) (Du _) _ _ hz _ _ fun z' A5 AJ A9 b hz AH AP AU rz=>?_;obtain ⟨v,rfl,hv⟩:=rz;obtain ⟨hc,hz⟩:=zID hz;refine zF hc fun h1 h2=>?_;refine wpAny_items_nil ⟨uQ,?_⟩;refine yY AU _ _ (SC.replace (Nat.ne_of_gt hs) (Nat.ne_of_gt (CV hs (Nat.le_of_succ_le hv))) (DQ hv) ((Bx _).mp h1) (of_decide_eq_true h2) fun t' k' hk'=>qq _ _ _ _ _ hz (AH.toks _) ((((Ext.refl _ _).toks _).then (I.toks _) AP).toks _) hk' yL)
end
noncomputable def yR(p:Int×Int):V:= .tup [.int p.1,.int p.2]
noncomputable def ltP(p q:Int×Int):Bool:=if p.1==q.1 then decide (p.2 < q.2) else decide (p.1 < q.1)
noncomputable def gtP(p q:Int×Int):Bool:=if p.1==q.1 then decide (p.2 >q.2) else decide (p.1 >q.1)
noncomputable def pr2(v:V):Option (Int×Int):=match v with
 | .tup l=>(match l with
  | []=>none
  | a::l=>(match a with
   | .int x=>(match l with
    | []=>none
    | b::l=>(match b with
     | .int y=>(match l with
      | []=>some (x,y)
      | _::_=>none)
     | _=>none))
   | _=>none))
 | _=>none
theorem zJe{v:V}{p:Int×Int}(h:pr2 v=some p):yR p=v:=by
 cases v with
 | tup l=>cases l with
  | nil=>exact noS h
  | cons a l=>cases a with
   | int x=>cases l with
    | nil=>exact noS h
    | cons b l=>cases b with
     | int w=>cases l with
      | nil=>cases h; rfl
      | cons=>exact noS h
     | _=>exact noS h
   | _=>exact noS h
 | _=>exact noS h
theorem zQx{l:List V}{ps:List (Int×Int)}(h:qI pr2 l=some ps):ps.map yR=l:=by
 induction l generalizing ps with
 | nil=>cases h; rfl
 | cons v l ih=>
  refine zJ h fun p h1 h=>?_;refine yJ h fun r h2 e__=>?_;cases e__;show yR p::r.map yR=_;rw [zJe h1,ih h2]
noncomputable def zDy:List (Int×Int)->Int×Int->Int×Int
 | [],b=>b
 | p::r,b=>zDy r (if gtP p b then p else b)
section
variable{prog:Program}{w:World}{A:Around}{K:Frag}{ρ AB:List Addr}{σ:Sto}{s AD:Shared}{x y:Value}{E:Value->Shared->Prop}
theorem zCO{p:Int×Int}{h:Heap}(r:VR ρ h (yR p) x):∃a t u n,x= .ref a/\h.get? a=some ⟨.type "tuple",none,.seq #[.int p.1 t,.int p.2 u] n,#[]⟩:=by
 refine zCw r fun a items n e__ _ ho rs=>?_;cases e__;obtain ⟨x,y,e,r1,r2⟩:=zHn rs;obtain ⟨t,rfl⟩:=vrI r1;obtain ⟨u,rfl⟩:=vrI r2;obtain rfl:items=#[.int p.1 t,.int p.2 u]:=Dw.mp e;exact ⟨a,t,u,n,rfl,ho⟩
theorem zTa{p q:Int×Int}(hu:A.units + 65 < cLine)(ra:VR ρ s.heap (yR p) x)(rb:VR ρ s.heap (yR q) y){Q:Value->Shared->Prop}(h:Q (.bool (ltP p q)) s):wpAny (model prog w) A (richCompare .Lt x y) Q E s:=by
 obtain ⟨a,t1,t2,n,rfl,ha⟩:=zCO ra;obtain ⟨b,u1,u2,m,rfl,hb⟩:=zCO rb;have hTb:s.TypeIs (.ref b) "tuple":=⟨_,hb,rfl⟩;refine wpAny_richCompare_same_room (op:= .Lt) (T:="tuple") ⟨_,ha,rfl⟩ hTb F.slot_tuple_lt (Cj F.slot_tuple_lt ⟨_,ha,rfl⟩ F.entry_tuple_lt ?_ (F.args_tuple_lt_2 _ _)) (C4 (C6 _ _) hu);show wpAny _ _ (isInstance (.ref b) (.type "tuple") >>=_) _ _ s;refine BK (wpAny_isInstance hTb isSubtype_tuple_tuple ?_);simp only [Bool.not_true,Dn,if_false];refine BK (EH ha rfl ?_);refine BK (EH hb rfl ?_);unfold ltP at h;show wpAny _ _ (forIn [(Di p.1 t1,Di q.1 u1),(Di p.2 t2,Di q.2 u2)] _ _ >>=_) _ _ s;refine BK ?_;rw [CM];refine BK (BK (Dx ?_));cases e1:p.1==q.1 with
 | false=>
  rw [e1] at h;exact BK (D6 (BK (P.lt_int (BK (BM (BM (BM (BM ⟨_,rfl,by simp,h⟩))))))))
 | true=>
  rw [e1] at h;refine BM ?_;dsimp only;rw [CM];refine BK (BK (Dx ?_));cases e2:p.2==q.2 with
  | false=>exact BK (D6 (BK (P.lt_int (BK (BM (BM (BM (BM ⟨_,rfl,by simp,h⟩))))))))
  | true=>
   refine BM ?_;dsimp only;rw [DI];refine BM (BM ⟨_,rfl,by simp [Builtin.Tuple.tupleCompareSizes],?_⟩);have e:decide (p.2 < q.2)=false:=decide_eq_false (by rw [Bo e2]; exact Int.lt_irrefl _);rw [if_pos rfl,e] at h;exact h
theorem zUa{p q:Int×Int}(hu:A.units + 65 < cLine)(ra:VR ρ s.heap (yR p) x)(rb:VR ρ s.heap (yR q) y){Q:Value->Shared->Prop}(h:Q (.bool (gtP p q)) s):wpAny (model prog w) A (richCompare .Gt x y) Q E s:=by
 obtain ⟨a,t1,t2,n,rfl,ha⟩:=zCO ra;obtain ⟨b,u1,u2,m,rfl,hb⟩:=zCO rb;have hTb:s.TypeIs (.ref b) "tuple":=⟨_,hb,rfl⟩;refine wpAny_richCompare_same_room (op:= .Gt) (T:="tuple") ⟨_,ha,rfl⟩ hTb F.slot_tuple_gt (Cj F.slot_tuple_gt ⟨_,ha,rfl⟩ F.entry_tuple_gt ?_ (F.args_tuple_gt_2 _ _)) (C4 (C6 _ _) hu);show wpAny _ _ (isInstance (.ref b) (.type "tuple") >>=_) _ _ s;refine BK (wpAny_isInstance hTb isSubtype_tuple_tuple ?_);simp only [Bool.not_true,Dn,if_false];refine BK (EH ha rfl ?_);refine BK (EH hb rfl ?_);unfold gtP at h;show wpAny _ _ (forIn [(Di p.1 t1,Di q.1 u1),(Di p.2 t2,Di q.2 u2)] _ _ >>=_) _ _ s;refine BK ?_;rw [CM];refine BK (BK (Dx ?_));cases e1:p.1==q.1 with
 | false=>
  rw [e1] at h;exact BK (D6 (BK (P.gt_int (BK (BM (BM (BM (BM ⟨_,rfl,by simp,h⟩))))))))
 | true=>
  rw [e1] at h;refine BM ?_;dsimp only;rw [CM];refine BK (BK (Dx ?_));cases e2:p.2==q.2 with
  | false=>exact BK (D6 (BK (P.gt_int (BK (BM (BM (BM (BM ⟨_,rfl,by simp,h⟩))))))))
  | true=>
   refine BM ?_;dsimp only;rw [DI];refine BM (BM ⟨_,rfl,by simp [Builtin.Tuple.tupleCompareSizes],?_⟩);have e:decide (p.2 >q.2)=false:=decide_eq_false (by rw [Bo e2]; exact Int.lt_irrefl _);rw [if_pos rfl,e] at h;exact h
theorem zVa{it:Addr}{a:Addr}{k:Nat}{h':Heap}(at':ItAt AB AD it (fun k h=>h.IsListIter it a k) k ρ s)(hb:DB it s.heap h'):Kp true ρ ρ s.heap h':=by
 obtain ⟨o,h1,h2,h3⟩:=at'.st;exact zKv h1 (zBN h2 h3 (by decide)) hb
theorem zFX{u:V}{l:List V}(h:zR u σ=some l)(x:Sto)(k:Nat):nxL u (σ ++ x) k=some l[k]? :=by
 have e:zR u (σ ++ x)=some l:=by
  cases u with
  | trk i=>
   refine obC h fun ob hl h'=>?_;show obO (σ ++ x) i _=_;unfold obO;rw [Bz (zQ hl),hl];exact h'
  | lst l=>exact h
  | il l=>exact h
  | _=>exact noS h
 show (zR u (σ ++ x)).map _=_;rw [e]; rfl
theorem zRh{u:V}{ps:List (Int×Int)}{a it S:Addr}(hh:A.handled=none)(hA:A.units + 66 < cLine)(hl:zR u σ=some (ps.map yR))(n0:AD.heap.get? it=none)(nk:K.lookup it=none)(hp0:VR AB AD.heap u (.ref a)){R:Result->Shared->Prop}:
  ∀(rest:List (Int×Int)) (j:Nat) (b:Int×Int) (vb:Value) (c:Nat) (ρ:List Addr) (s:Shared),ps.drop j=rest->Inv K ρ (σ ++ [.list [yR b,yR b]]) s->ItAt AB AD it (fun k h=>h.IsListIter it a k) j ρ s->ρ[σ.length]? =some S->VR ρ s.heap (yR b) vb->
   s.heap.get? S=some ⟨.type "list",none,.seq #[vb,vb] c,#[]⟩->
   (∀AC s' v,Inv K AC (σ ++ [.list []]) s'->Ext AB AD AC s'->VR AC s'.heap (yR (zDy rest b)) v->R (.ok (.ret v)) s')->codeAny (model prog w) A (.builtin "max.loop" ⟨[.ref it,.none,.ref S],[]⟩) R s:=by
 have W:Itr prog w K it (nxL u) (fun k h=>h.IsListIter it a k) (fun ρ h=>VR ρ h u (.ref a)):=zDM;intro rest
 induction rest with
 | nil=>
  intro j b vb c ρ s hd I at' hS rb ho hR;refine codeAny_builtin F.entry_max_loop ?_;rw [Around.under_plainId DJ _];show wpAny _ A.in1 (seqItems? (.ref S) >>=_) _ _ s;refine BK (EI ho rfl ?_);show wpAny _ A.in1 (tryCatch (pyNext (.ref it)) _ >>=_) _ _ s;have hk:nxL u (σ ++ [.list [yR b,yR b]]) j=some none:=by
   rw [zFX hl];have h2:ps.length<=j:=CP.mp hd;rw [C3 (by rw [BW]; exact h2)]
  have hp:=W.prExt _ _ _ _ hp0 at'.X;refine BK (wpAny_tryCatch (W.done _ _ _ _ A.in1 _ _ hh hk I at'.st hp fun h' tk hb=>?_));have I':=at'.step (tk:=tk) W n0 nk I hb;have hne:S≠it:=fun e=>at'.n (e▸BZ hS);have ho':=hb S _ hne ho;show wpAny _ A.in1 (updateSeq S (fun _=>#[]) >>=_) _ _ _;refine BK ?_;refine wpAny_updateSeq ho' rfl (BK (wpAny_letGo (BM ?_)));have z:=I'.1.updList (f:=fun _=>#[]) (l':=[]) hS ho' vrs_nil';rw [D8 _ _ (CD _),DC] at z;refine hR ρ _ vb z.1 (I'.2.then I'.1 z.2) ?_;exact (rb.mono (fun _ _ e=>e) (zVa at' hb)).ext z.2
 | cons p rest ih=>
  intro j b vb c ρ s hd I at' hS rb ho hR;refine codeAny_builtin F.entry_max_loop ?_;rw [Around.under_plainId DJ _];show wpAny _ A.in1 (seqItems? (.ref S) >>=_) _ _ s;refine BK (EI ho rfl ?_);show wpAny _ A.in1 (tryCatch (pyNext (.ref it)) _ >>=_) _ _ s;have hj:ps[j]? =some p:=by
   have h2:=congrArg (fun l=>l[0]?) hd;rw [Dm] at h2;exact h2
  have hk:nxL u (σ ++ [.list [yR b,yR b]]) j=some (some (yR p)):=by rw [zFX hl,Bc,hj]; rfl
  have hd':ps.drop (j + 1)=rest:=by
   rw [<-List.drop_drop,hd]; rfl
  have hp:=W.prExt _ _ _ _ hp0 at'.X;refine BK (wpAny_tryCatch (W.item _ _ _ _ _ A.in1 _ _ hh hk I at'.st hp fun h' tk x hb hst rx=>?_));have I':=at'.step (tk:=tk) W n0 nk I hb;have hne:S≠it:=fun e=>at'.n (e▸BZ hS);have ho':=hb S _ hne ho;have rb':=rb.mono (fun _ _ e=>e) (zVa at' hb);have at2:ItAt AB AD it (fun k h=>h.IsListIter it a k) (j + 1) ρ {s with heap:=h',toks:=tk}:=⟨I'.2,at'.n,hst⟩;show wpAny _ A.in1 (tryCatch (holding [x,x] (richCompare .Gt x vb >>=_)) _ >>=_) _ _ _;refine BK (wpAny_tryCatch (CT (BK (zUa (by exact hA) rx rb' ?_))));refine BK (CT (EX ?_));refine BK (wpAny_letGo (BM ?_));have hname:(toString "max" ++ toString ".loop":String)="max.loop":=by decide
  have hR':∀AC s' v,Inv K AC (σ ++ [.list []]) s'->Ext AB AD AC s'->VR AC s'.heap (yR (zDy rest (if gtP p b then p else b))) v->R (.ok (.ret v)) s':=hR;cases hb2:gtP p b with
  | true=>
   rw [hb2] at hR';simp only [if_true] at hR' ⊢;refine BK ?_;refine wpAny_updateSeq ho' rfl (BK (wpAny_letGo ?_));rw [hname];have z:=I'.1.updList (f:=fun _=>#[x,x]) (l':=[yR p,yR p]) hS ho' ⟨_,_,rfl,rx,_,_,rfl,rx,rfl⟩;rw [D8 _ _ (CD _),DC] at z;exact BM ⟨plainId_quiet DJ _,ih (j + 1) p x _ ρ _ hd' z.1 (at2.mv W I'.1 z.2) hS (rx.ext z.2) (CZ _ ho' rfl) hR'⟩
  | false=>
   rw [hb2] at hR';simp only [Dn,if_false] at hR' ⊢;refine BK (wpAny_letGo ?_);rw [hname];exact BM ⟨plainId_quiet DJ _,ih (j + 1) b vb c ρ _ hd' I'.1 at2 hS rb' ho' hR'⟩
noncomputable def zKI(u:V)(σ:Sto):Option (V×Sto):=(zR u σ).bind fun l=>(qI pr2 l).bind fun ps=>match ps with
 | []=>none
 | p::r=>some (yR (zDy r p),σ ++ [.list []])
theorem zSC(hh:A.handled=none)(hA:A.units + 67 < cLine){u:V}(I:Inv K ρ σ s)(r:VR ρ s.heap u x):Out K ρ s (zKI u σ) (yU prog w A s "max" [x]):= .bind fun l hl=> .bind fun ps hps=>by
 cases ps with
 | nil=>exact .none
 | cons p rest=>
  obtain rfl:=zQx hps;intro v AA hh2 Q E q;cases hh2;refine wG I hl r fun a items m e__ ho rs=>?_;cases e__;refine call_function_tree F.kind_max F.plain_max F.entry_max (F.args_max1 _) ?_;show wpAny _ A.in1 (Builtin.Builtins.bindParams "max" ["key","default"] 0 ⟨[],[]⟩ >>=_) _ _ s;refine BK (D3 (show Builtin.Builtins.bindParams "max" ["key","default"] 0 ⟨[],[]⟩=pure [none,none] from rfl) ?_);refine BK (BM ?_);have W:Itr prog w K s.heap.objs.size (nxL u) (fun k h=>h.IsListIter s.heap.objs.size a k) (fun ρ h=>VR ρ h u (.ref a)):=zDM;refine BK (wpAny_pyIter_list ⟨_,ho,rfl,m,rfl⟩ ?_);have n0:s.heap.get? s.heap.objs.size=none:=qK _;have xx:=I.extra {cls:= .type "list_iterator",data:= .fields #[.ref a,.int 0 0]} s.toks;have at0:ItAt ρ s s.heap.objs.size (fun k h=>h.IsListIter s.heap.objs.size a k) 0 ρ {s with heap:=s.heap.push {cls:= .type "list_iterator",data:= .fields #[.ref a,.int 0 0]}}:=⟨xx.2,I.fresh,⟨_,Bf _ rfl,rfl,rfl⟩⟩;have I1:=xx.1;generalize s.heap.push {cls:= .type "list_iterator",data:= .fields #[.ref a,.int 0 0]}=h1 at at0 I1 ⊢;refine BK (EK ?_);have y:=I1.alloc (o:={cls:= .type "list",data:= .seq #[]}) (ob:= .list []) s.toks ⟨_,[],Bf _ rfl,vrs_nil',#[],0,rfl,rfl⟩;have at1:=at0.mv W I1 y.2;have hS:(ρ ++ [h1.objs.size])[σ.length]? =some h1.objs.size:=I.last _;have hoS:(h1.push {cls:= .type "list",data:= .seq #[]}).get? h1.objs.size=some ⟨.type "list",none,.seq #[] 0,#[]⟩:=Bf _ rfl;have I2:=y.1;have hname:(toString "max" ++ toString ".loop":String)="max.loop":=by decide
  rw [hname];show wpAny _ _ (pure _) _ _ {s with heap:=h1.push {cls:= .type "list",data:= .seq #[]}};have hne:h1.objs.size≠s.heap.objs.size:=fun e=>at1.n (e▸BZ hS);generalize h1.objs.size=S at *;generalize h1.push {cls:= .type "list",data:= .seq #[]}=h2 at *;generalize ρ ++ [S]=BH at *;refine BM ⟨plainId_quiet DJ _,?_⟩;refine codeAny_builtin F.entry_max_loop ?_;rw [Around.under_plainId DJ _];show wpAny _ A.in1 (seqItems? (.ref S) >>=_) _ _ {s with heap:=h2};refine BK (EI (s:={s with heap:=h2}) hoS rfl ?_);show wpAny _ A.in1 (tryCatch (pyNext (.ref s.heap.objs.size)) _ >>=_) _ _ {s with heap:=h2};have hk:nxL u (σ ++ [.list []]) 0=some (some (yR p)):=by rw [zFX hl]; rfl
  have hp:=W.prExt _ _ _ _ r at1.X;refine BK (wpAny_tryCatch (W.item _ _ _ _ _ A.in1 _ _ hh hk I2 at1.st hp fun h' tk x hb hst rx=>?_));have I':=at1.step (tk:=tk) W n0 (zHI I n0) I2 hb;have ho':=hb S _ hne hoS;have at2:ItAt ρ s s.heap.objs.size (fun k h=>h.IsListIter s.heap.objs.size a k) 1 BH {s with heap:=h',toks:=tk}:=⟨I'.2,at1.n,hst⟩;show wpAny _ _ (updateSeq S (fun _=>#[x,x]) >>=_) _ _ _;refine BK ?_;refine wpAny_updateSeq ho' rfl ?_;rw [hname];have z:=I'.1.updList (f:=fun _=>#[x,x]) (l':=[yR p,yR p]) hS ho' ⟨_,_,rfl,rx,_,_,rfl,rx,rfl⟩;rw [D8 _ _ (CD _),DC] at z;exact BM ⟨plainId_quiet DJ _,zRh (prog:=prog) (w:=w) (A:=A) (u:=u) (ps:=p::rest) hh (C4 (EL _) hA) hl n0 (zHI I n0) r rest 1 p x _ BH _ rfl z.1 (at2.mv W I'.1 z.2) hS (rx.ext z.2) (CZ _ ho' rfl) fun AC s' v I3 X3 r3=>q _ _ _ I3 X3 r3⟩
end
noncomputable def vH(l:List Pl):Option (List Pl):=(zDH (plL l)).bind (qI plO)
section
variable{prog:Program}{w:World}{A:Around}{K:Frag}{ρ AB:List Addr}{σ:Sto}{s AD:Shared}{x y:Value}{E:Value->Shared->Prop}
theorem zDX{u:V}{l l':List V}(hl:zR u σ=some l)(hs:zDH l=some l')(hz:l.length<=1000)(I:Inv K ρ σ s)(r:VR ρ s.heap u x):Out K ρ s (some (.trk σ.length,σ ++ [.list l'])) (yU prog w A s "sorted" [x]):=by
 refine wG I hl r fun a items m e__ ho rs=>?_;cases e__;intro v AA hh Q E q;cases hh;refine Calls.call_function_entry kind_sorted plain_sorted entry_sorted (args_sorted1 _) ?_;unfold Builtin.«sorted»;refine BK (m:=checkCount "sorted" 1 1 _) (BM ?_);have hls:s.heap.IsList a items.toList.toArray:=⟨_,ho,rfl,m,by rw [Array.toArray_toList]⟩;refine BK (collect_list hls ?_ (zN (by rw [CF]; exact rs.size▸hz)));refine BK (wpAny_newList ?_ (zN (by rw [CF]; exact rs.size▸hz)));have k1:∀b o,s.heap.get? b=some o->((s.heap.push (seqObj "list" #[] 0)).update s.heap.objs.size (Cy (· ++ items.toList.toArray))).get? b=some o:=fun b o e=>by
  have hlt:b < s.heap.objs.size:=Dt e;rw [Heap.get?_update_ne _ _ _ _ (DQ hlt),Heap.get?_push_ne _ _ _ (DQ hlt)];exact e
 have J:=I.keeps (tk:=s.toks) k1;show wpAny _ _ _ _ _ {s with heap:=((s.heap.push (seqObj "list" #[] 0)).update s.heap.objs.size (Cy (· ++ items.toList.toArray))).push {cls:= .type "list",data:= .seq items.toList.toArray}};generalize (s.heap.push (seqObj "list" #[] 0)).update s.heap.objs.size (Cy (· ++ items.toList.toArray))=h1 at J ⊢;have y:=vG (s:={s with heap:=h1}) (l:=l) (xs:=items.toList.toArray) J.1 s.toks (rs.ext J.2);refine kM y.2 fun b hb e=>?_;cases e;have z:=zM7 (prog:=prog) (w:=w) (A:=A.in1) (i:=σ.length) hs hz (zCS σ _) y.1.1 hb _ _ rfl;refine BK (CT (z _ _ fun AC s' x' I' X' r'=>BM ⟨_,rfl,?_⟩));rw [D8 _ _ (CD _),DC] at I';refine q _ _ _ I' (J.2.then J.1 (y.1.2.then y.1.1 X')) ⟨_,X'.preP _ _ hb,rfl⟩
noncomputable def zPi(i:Nat)(σ:Sto)(k:V->Sto->Sy)(ob:Ob):Sy:=match ob with
 | .pls l=>need (decide (l.length<=1000)) (.pick ((vH l).map fun l'=>(.none,[.pls l'])) fun _ τ=>match τ with
  | []=> .fail
  | o::τ=>(match o with
   | .pls l'=>k (.trk σ.length) (σ ++ [.pls l'])
   | _=> .fail))
 | .list l=>need (decide (l.length<=1000)) (liO (zDH l) fun l'=>k (.trk σ.length) (σ ++ [.list l']))
 | _=> .fail
noncomputable def zL9(u:V)(σ:Sto)(k:V->Sto->Sy):Sy:=match u with
 | .trk i=>liO (σ[i]? :Option Ob) (zPi i σ k)
 | _=> .fail
theorem zJd{u:V}(I:Inv K ρ σ s)(r:VR ρ s.heap u x):zC K ρ s (zL9 u σ) (yU prog w A s "sorted" [x]) VRr:=by
 cases u with
 | trk i=>
  refine .li fun ob hob=>?_;cases ob with
  | list l=>
   refine .need fun hz=> .li fun l' hl'=> .ofOut (zDX ?_ hl' (of_decide_eq_true hz) I r);show (match σ[i]? with | some ob=>(match ob with | .list l=>some l | .stk _ l=>some (qW l) | .pls l=>some (plL l) | .wls l=>some (wlL l) | _=>none) | none=>none)=_;rw [hob]
  | pls l=>
   refine .need fun hz=> .up fun k z hk Q E qq=>?_;have hk:run (.pick ((vH l).map fun l'=>(V.none,[Ob.pls l'])) fun _ τ=>match τ with
    | []=> .fail
    | o::τ=>(match o with
     | .pls l'=>k (.trk σ.length) (σ ++ [.pls l'])
     | _=> .fail))=some z:=hk
   cases hs:vH l with
   | none=>rw [hs] at hk; exact noS hk
   | some l'=>
    rw [hs] at hk;refine zJ hs fun l2 h1 h2=>?_;obtain rfl:=zAW h2;have hl:zR (.trk i) σ=some (plL l):=by
     show (match σ[i]? with | some ob=>(match ob with | .list l=>some l | .stk _ l=>some (qW l) | .pls l=>some (plL l) | .wls l=>some (wlL l) | _=>none) | none=>none)=_;rw [hob]
    refine zDX hl h1 (by rw [BW]; exact of_decide_eq_true hz) I r _ _ rfl Q E fun A7 A6 x I X r=>?_;have y:=kR I (l:=l') (zCS σ _);rw [D8 _ _ (CD _),DC] at y;exact qq _ _ _ _ _ hk y X r
  | _=>exact .fail
 | _=>exact .fail
end
noncomputable def zDj(q:RecK):List (Option Expr)->List Expr->AE->Sto->(List (Str×V)->Sto->Sy)->Sy
 | [],vs,_,σ,k=>(match vs with
  | []=>k [] σ
  | _::_=> .fail)
 | o::ks,vs,ae,σ,k=>(match o with
  | none=> .fail
  | some e=>(match vs with
   | []=> .fail
   | v::vs=>q.e e ae σ fun a A4=>liO (zBq a) fun x=>q.e v ae A4 fun b A5=>zDj q ks vs ae A5 fun l A8=>k ((x,b)::l) A8))
noncomputable def zTW:List Str->Bool
 | []=>true
 | x::l=>!(l.any (eqS x)) && zTW l
noncomputable def yBO(ob:Ob):Bool:=match ob with
 | .kd _ kv=>kv.isEmpty
 | _=>false
noncomputable def zU5(hs:Str->Int)(q:RecK)(keys:List (Option Expr))(vals:List Expr)(ae:AE)(σ:Sto)(k:V->Sto->Sy):Sy:=
 if keys.all (·.isSome) && (BQ keys.length vals.length && (!keys.isEmpty && CL keys.length 15)) then
  zDj q keys vals ae (σ ++ [.kd hs []]) fun kv A4=>liO (A4[σ.length]? :Option Ob) fun ob=>if yBO ob && zTW (zG kv) then k (.trk σ.length) (A4.set σ.length (.kd hs kv)) else .fail
 else .fail
section
variable{prog:Program}{w:World}{A:Around}{K:Frag}{n:Nat}{q:RecK}{ae:AE}{env:Env}{ρ AB:List Addr}{σ:Sto}{s AD:Shared}{pos:Pos}
theorem zPc{l:List Str}(h:zTW l=true):l.Nodup:=by
 induction l with
 | nil=>exact CH
 | cons x l ih=>
  refine zF h fun h1 h2=>?_;refine CG.mpr ⟨fun m=>?_,ih h2⟩;have h3:l.any (eqS x)=true:=Ci.mpr ⟨x,m,(yI _ _).mpr rfl⟩;rw [h3] at h1; exact noB h1
noncomputable def PrR(ρ:List Addr)(h:Heap)(kv:List (Str×V))(ps:List (Value×Value)):Prop:=(∃ts:List Tok,ps.map (·.1)=((zG kv).zip ts).map (fun p=>Value.str p.1 p.2)/\ts.length=kv.length)/\VRs ρ h (zU kv) (ps.map (·.2))
theorem zMA(a:At prog w K n q A ae env ρ σ s){keys:List (Option Expr)}{vals:List Expr}:zC K ρ s (zDj q keys vals ae σ) (W prog w A s (evalPairs (pairTrees keys vals env pos))) PrR:=by
 induction keys generalizing vals ρ σ s with
 | nil=>cases vals with
  | nil=>exact .ret a.I (b:=[]) ⟨⟨[],rfl,rfl⟩,vrs_nil'⟩ fun Q E h=>pairTrees_nil_walk h
  | cons=>exact .fail
 | cons o ks ih=>cases o with
  | none=>exact .fail
  | some e=>cases vals with
   | nil=>exact .fail
   | cons v vs=>
    exact (a.e e).then (g:=fun a A4 k=>liO (zBq a) fun x=>q.e v ae A4 fun b A5=>zDj q ks vs ae A5 fun l A8=>k ((x,b)::l) A8) _ (fun _ _ h=>pairTrees_cons_walk h) fun u A4 A7 A6 y I Y r=> .li fun x hx=>by
     obtain ⟨t,rfl⟩:=kY _ _ _ hx r;exact ((a.mv I Y).e v).then (g:=fun b A5 k=>zDj q ks vs ae A5 fun l A8=>k ((x,b)::l) A8) _ (fun _ _ h=>h) fun b A5 AJ A9 z I' Z rb=>
      (ih ((a.mv I Y).mv I' Z)).map (fun l=>(x,b)::l) (fun l=>(.str x t,z)::l) (fun _ _ h=>h) fun l ps AL AF X3 r3=>by
       obtain ⟨⟨ts,h1,h2⟩,h3⟩:=r3;exact ⟨⟨t::ts,congrArg (Value.str x t::·) h1,congrArg (· + 1) h2⟩,⟨_,_,rfl,rb.ext X3,h3⟩⟩
theorem zJk{kv:List (Str×V)}{ps:List (Value×Value)}(h:PrR ρ s.heap kv ps):Carries (strKind prog w) ps ((zG kv).zip (ps.map (·.2)))/\((zG kv).zip (ps.map (·.2))).map (·.1)=zG kv:=by
 obtain ⟨⟨ts,h1,h2⟩,h3⟩:=h;have hl:=h3.length;clear h3
 induction kv generalizing ps ts with
 | nil=>cases ps with
  | nil=>exact ⟨trivial,rfl⟩
  | cons=>exact absurd hl (by simp [zU])
 | cons p kv ih=>cases ps with
  | nil=>exact absurd hl (by simp [zU])
  | cons x ps=>cases ts with
   | nil=>exact absurd h2 (by simp)
   | cons t ts=>
    obtain ⟨e1,e2⟩:=Cc h1;obtain ⟨i1,i2⟩:=ih ts e2 (Nat.succ.inj h2) (Nat.succ.inj hl);exact ⟨⟨by rw [show x.1=Value.str p.1 t from e1]; exact zCX _ _,rfl,i1⟩,congrArg (p.1::·) i2⟩
theorem zRV{hs:Str->Int}(hw:hs=hashStr w){h':Heap}{d:Addr}{kv:List (Str×V)}{xs:List Value}(hn:(zG kv).Nodup)(hd:h'.DictOf (strKind prog w) d ((zG kv).zip xs))(rs:VRs ρ h' (zU kv) xs):ObR ρ h' d (.kd hs kv):=by
 obtain ⟨o,es,ep,ho,⟨e1,e2,e3⟩,hdat,hk,hp,_⟩:=hd;refine ⟨o,xs,ho,rs,es.toList,ep,?_,fun e he=>?_,hn,?_⟩
 ·clear hk hdat ho
  generalize (zG kv).zip xs=l at hp ⊢;generalize es.toList=es at hp ⊢
  induction hp with
  | nil=>rfl
  | @cons e kv es kvs h1 h2 _ ih=>
   obtain ⟨t,ht⟩:=Value.isStrOf_shape (show Value.isStrOf kv.1 e.key=true from h1);exact ⟨e,es,rfl,⟨t,ht⟩,h2,ih⟩
 ·obtain ⟨k,h1,h2⟩:=hk e (by simpa using he)
  obtain ⟨t,ht⟩:=Value.isStrOf_shape (show Value.isStrOf k e.key=true from h1);exact ⟨k,t,ht,by rw [h2,hw]; rfl⟩
 ·obtain ⟨c,d',dt,sl⟩:=o
  dsimp only at e1 e2 e3 hdat;subst e1 e2 e3 hdat;rw [Array.toArray_toList]
theorem zRE{hs:Str->Int}(hw:hs=hashStr w)(a:At prog w K n q A ae env ρ σ s){keys:List (Option Expr)}{vals:List Expr}:zC K ρ s (zU5 hs q keys vals ae σ) (W prog w A s (eval (.Dict keys vals pos) env)) VRr:= .only fun hc=>by
 refine zF hc fun c1 hc=>?_;refine zF hc fun c2 hc=>?_;refine zF hc fun c3 c4=>?_;have c2:keys.length=vals.length:=Bg c2;have c3:keys≠[]:=fun e=>by rw [e] at c3; exact noB c3
 have c4:keys.length<=15:=C9 c4;have y:=a.I.alloc (o:={cls:= .type "dict",data:= .dict #[]}) (ob:= .kd hs []) s.toks ⟨_,[],Bf _ rfl,vrs_nil',[],0,rfl,fun e h=>absurd h Ba,CH,rfl⟩;have hd:(ρ ++ [s.heap.objs.size])[σ.length]? =some s.heap.objs.size:=a.I.last _;intro hs0 k z hz Q E qq;refine wpAny_Dict_walk (knd:=strKind prog w) c1 c2 c3 c4 ?_;refine (zMA (pos:=pos) (a.mv y.1 y.2)) hs0 _ z hz _ _ fun kv A4 A7 A6 ps hk AG AK AS r=>?_;refine uA hk fun ob hob hk=>?_;cases hb:yBO ob && zTW (zG kv) with
 | false=>rw [hb] at hk; exact noS hk
 | true=>
  rw [hb] at hk;refine zF hb fun b1 b2=>?_;have hn:=zPc b2;have Am:=AK.preP _ _ hd;obtain ⟨r1,r2⟩:=zJk (prog:=prog) (w:=w) r;cases ob with
  | kd H kv0=>
   obtain rfl:kv0=[]:=Br.mp b1;obtain ⟨o,xs,ho,rs0,es,m,he,_,_,rfl⟩:=AG.obs _ _ _ Am hob;cases zW rs0;cases (show es=[] from he);refine ⟨_,r1,⟨_,#[],m,ho,⟨rfl,rfl,rfl⟩,rfl,fun e h=>absurd h (by simp),.nil,CH⟩,fun h' hm hb'=>?_⟩;rw [merged_nil_of_nodup _ (by rw [r2]; exact hn)] at hm;have kp:Kp true A7 A7 A6.heap h':=fun b o nb e _=>⟨hb'.extBut b o (fun z=>nb (z▸BZ Am)) e,nb⟩;have u:=AG.upd (ob:= .kd hs kv) Am hb'.extBut (A6.toks + ps.length) (zRV hw hn hm (r.2.mono (fun _ _ e=>e) kp));exact qq _ _ _ _ _ hk u.1 ((y.2.then y.1 AK).then AG u.2) (CV AS (C6 _ _)) ⟨_,Am,rfl⟩
  | _=>exact noB b1
end
structure DelOK(K:Frag)(dl:Addr->Option Addr):Prop where
 del:∀C f,dl C=some f->noSeq K C=true/\findIn K (.ref C) "__delitem__"=some (some (.ref f))/\typeIn K (.ref f)=some (.type "function")
noncomputable def zJc(u:V)(σ:Sto):Option Addr:=(zBr u σ).map (·.C)
noncomputable def yCo{α:Type}(l:List α):Option α:=match l with
 | []=>none
 | a::r=>(match r with
  | []=>some a
  | _::_=>none)
noncomputable def zQ4(dl:Addr->Option Addr)(q:RecK)(o i:Expr)(ae:AE)(σ:Sto)(k:Fl->Sto->Sy):Sy:=match slK i with
 | .no=>q.e o ae σ fun u A4=>q.e i ae A4 fun x A5=>liO (zJc u A5) fun C=>liO (dl C) fun f=>q.c (.val (.ref f)) [u,x] [] A5 fun _ A8=>k .next A8
 | _=> .fail
noncomputable def zQl(dl:Addr->Option Addr)(q:RecK)(t:Expr)(ae:AE)(σ:Sto)(k:Fl->Sto->Sy):Sy:=match tgt t with
 | false=> .fail
 | true=>(match t with
  | .Subscript o i _=>zQ4 dl q o i ae σ k
  | _=> .fail)
noncomputable def yC7(dl:Addr->Option Addr)(q:RecK)(ts:List Expr)(ae:AE)(σ:Sto)(k:Fl->Sto->Sy):Sy:=liO (yCo ts) fun t=>zQl dl q t ae σ k
noncomputable def zWB(ob:Ob):Option (List Pl):=match ob with
 | .pls l=>some l
 | _=>none
theorem zMg{σ:Sto}{i:Nat}{l:List Pl}(h:obO σ i zWB=some l):σ[i]? =some (.pls l):=by
 refine obC h fun ob e h=>e.trans (congrArg some ?_);clear e;cases ob with
 | pls=>cases h; rfl
 | _=>exact noS h
noncomputable def zLa(u v:V)(A5:Sto)(k:Fl->Sto->Sy):Sy:=liO (zHC u) fun i=>liO (zHC v) fun j=>if BQ i j then .fail else liO (obO A5 i zWB) fun l=>liO (obO A5 j zWB) fun l'=>need (decide (l.length + l'.length<=1000)) (k .next (A5.set i (.pls l')))
noncomputable def zHm(q:RecK)(o:Expr)(e:Expr)(ae:AE)(σ:Sto)(k:Fl->Sto->Sy):Sy:=if zC8 e then .fail else q.e e ae σ fun v A4=>q.e o ae A4 fun u A5=>zLa u v A5 k
section
variable{prog:Program}{w:World}{A:Around}{K:Frag}{n:Nat}{q:RecK}{ae:AE}{env:Env}{ρ AB:List Addr}{σ:Sto}{s AD:Shared}{pos:Pos}
theorem zJS{o i:Expr}{p:Pos}{Q:Unit->Shared->Prop}{E:Value->Shared->Prop}(h:wpAny (model prog w) A (eval o env) (fun x A6=>wpAny (model prog w) A (eval i env) (fun y A9=>wpAny (model prog w) A (delItem x y) Q E A9) E A6) E s):
  wpAny (model prog w) A (delete (.Subscript o i p) env) Q E s:=by
 rw [arm_delete_Subscript];exact BK (C7 h (fun x A6 AR=>BK (CT (C7 AR (fun y A9 AW=>BK (Cb (BK (CT (C7 AW (fun _ _ Ap=>wpAny_release Ap) fun _ _ e=>e))))) fun _ _ e=>e))) fun _ _ e=>e)
theorem zOy{dl:Addr->Option Addr}(D:DelOK K dl)(a:At prog w K n q A ae env ρ σ s){o i:Expr}{p:Pos}:zC K ρ s (zQ4 dl q o i ae σ) (W prog w A s (exec (.Delete [.Subscript o i p] pos) env)) FlR:=by
 unfold zQ4;cases hs:slK i with
 | no=>
  refine (a.e o).then (g:=fun u A4 k=>q.e i ae A4 fun x A5=>liO (zJc u A5) fun C=>liO (dl C) fun f=>q.c (.val (.ref f)) [u,x] [] A5 fun _ A8=>k Fl.next A8) (fun x A6 Q E=>wpAny (model prog w) A (eval i env) (fun y A9=>wpAny (model prog w) A (delItem x y) (fun _ AF=>Q Flow.next AF) E A9) E A6) (fun Q E h=>wpAny_Delete (wpAny_deleteEach_cons (zJS (C7 h (fun x A6 AR=>C7 AR (fun y A9 AW=>C7 AW (fun _ AF Ap=>wpAny_deleteEach_nil Ap) fun _ _ e=>e) fun _ _ e=>e) fun _ _ e=>e)))) fun u A4 A7 A6 x I Y ru=>?_;refine ((a.mv I Y).e i).then (g:=fun x A5 k=>liO (zJc u A5) fun C=>liO (dl C) fun f=>q.c (.val (.ref f)) [u,x] [] A5 fun _ A8=>k Fl.next A8) (fun y A9 Q E=>wpAny (model prog w) A (delItem x y) (fun _ AF=>Q Flow.next AF) E A9) (fun _ _ h=>h) fun v A5 AJ A9 y AH Z rv=> .li fun C hC=> .li fun f hf=>?_;obtain ⟨d1,d2,d3⟩:=D.del _ _ hf;have ru':=ru.ext Z;refine yJ hC fun zz hz e__=>?_;cases e__;refine zKU AH hz ru' fun b dx es m xs R=>?_;cases R.x;have go:=a.hr.c (.val (.ref f)) [u,v] [] A5 A AJ A9 (.ref f) [.ref b,y] [] a.hA AH kG ⟨_,_,rfl,ru',VRs.one rv⟩ ⟨rfl,vrs_nil'⟩;refine (go.then (g:=fun _ A8 k=>k Fl.next A8) (fun _ AF Q _=>Q Flow.next AF) (U:=fun Q E=>wpAny (model prog w) A (delItem (.ref b) y) (fun _ AF=>Q Flow.next AF) E A9) (fun Q E h=>?_) fun _ A8 AL AF _ AN _ _=> .ret AN .next fun _ _ h=>h);unfold delItem sequenceKey;refine CT (BK (BK (R.o.type.here ?_)));refine BK ((anyM_none AH.kin d1).here ?_);rw [if_pos (show (!false)=true from rfl)];exact BM (BK (special_fn AH.kin R.o d2 d3 (C7 h (fun _ _ z=>BM z) fun _ _ z=>z)))
 | _=>exact .fail
theorem zIf{a b sl:Addr}{items items2:Array Value}{m m2:Nat}{Q:Unit->Shared->Prop}{E:Value->Shared->Prop}(ha:s.heap.get? a=some ⟨.type "list",none,.seq items m,#[]⟩)(hb:s.heap.get? b=some ⟨.type "list",none,.seq items2 m2,#[]⟩)(hne:a≠b)(hs:s.heap.IsSliceOf sl .none .none .none)(hz:items.size + items2.size<=1000)
  (h:Q () {s with heap:=s.heap.update a (Cy fun xs=>xs.extract 0 (0:Int).toNat ++ items2 ++ xs.extract (max 0 (items.size:Int)).toNat xs.size)}):wpAny (model prog w) A (setItem (.ref a) (.ref sl) (.ref b)) Q E s:=by
 have hT:s.TypeIs (.ref a) "list":=⟨_,ha,rfl⟩;have hTb:s.TypeIs (.ref b) "list":=⟨_,hb,rfl⟩;obtain ⟨os,hos,hcs,hds⟩:=id hs;have hTs:s.TypeIs (.ref sl) "slice":=⟨os,hos,hcs⟩;unfold setItem;refine CT ?_;refine BK (wpAny_sequenceKey hT (by decide) ?_);refine BK (Cz (name:=BN "__setitem__") hT F.slot_list_setitem
  (Cj F.slot_list_setitem hT F.entry_list_setitem ?_ (F.args_list_setitem_3 _ _ _)))
 show wpAny _ _ (Builtin.List.listSubscript? (.ref sl) >>=_) _ _ s;refine BK ?_;unfold Builtin.List.listSubscript?;refine BK (wpAny_specialOf hTs slice_no_index ?_);rw [if_pos (show (none:Option Value).isNone=true from rfl)];refine BM ?_;show wpAny _ _ (typeOf (.ref sl) >>=_) _ _ s;refine BK (wpAny_typeOf hTs ?_);rw [if_neg (by decide)];rw [listSliceParts_eq];refine BK (BK (D4 hos hds (x:= .none) rfl (BK (wpAny_listPart .none ?_))));rw [if_neg (show ¬((rawPart none==rawInt 0)=true) from Bk)];refine BK (D4 hos hds (x:= .none) rfl (BK (wpAny_listPart .none ?_)));refine BK (D4 hos hds (x:= .none) rfl (BK (wpAny_listPart .none (BM ?_))));have hsame:Builtin.List.listSameRef (.ref a) (.ref b)=false:=beq_eq_false_iff_ne.mpr hne;dsimp only;rw [hsame,if_neg Bk];refine BK ?_;unfold Builtin.List.listAllItems;refine BK (wpAny_typeOf hTb ?_);rw [if_pos (by decide)];refine listItems_at hb rfl ?_;refine BK (listItems_at ha rfl ?_);refine BK (D3 (sliceIndices_raw none none none items.size (by simp)) ?_);have e:sliceBounds none none none items.size=(0,(items.size:Int),1):=by simp [sliceBounds]
 rw [e];dsimp only;rw [if_pos (show ((1:Int)==1)=true from rfl)];refine BK (D6 ?_);rw [if_neg (by rw [zN4 hz]; exact Bk)];refine BK (listUpdate_at ha rfl ?_ (zN (Bn (C6 _ _) hz)) ?_)
 ·exact BK (wpAny_letGo (BM ⟨_,rfl,BM h⟩))
 ·exact Ck (zN (by simp; lia))
theorem zMR(items items2:Array Value):(items.extract 0 (0:Int).toNat ++ items2 ++ items.extract (max 0 (items.size:Int)).toNat items.size).toList=items2.toList:=by
 have e:(max 0 (items.size:Int)).toNat=items.size:=by lia
 rw [e];simp
theorem zNn{e:Expr}{o p2 p pl env}:swapsWith e (some (.Subscript o (.Slice none none none p2) p)) pl env=pure false:=by cases e <;>rfl
theorem zJQ(a:At prog w K n q A ae env ρ σ s){o e:Expr}{p p2:Pos}:zC K ρ s (zHm q o e ae σ) (W prog w A s (exec (.Assign [.Subscript o (.Slice none none none p2) p] e pos) env)) FlR:= .not fun _=>by
 refine (a.e e).then (g:=fun v A4 k=>q.e o ae A4 fun u A5=>zLa u v A5 k) _ (fun _ _ h=>wpAny_Assign_Subscript h zNn) fun v A4 A7 A6 x I Y rv=>?_;refine ((a.mv I Y).e o).then (g:=fun u A5 k=>zLa u v A5 k) _ (fun _ _ h=>h) fun u A5 AJ A9 y AH Z ru=> .li fun i hi=> .li fun j hj=> .not fun hne=> .li fun l hl=> .li fun l' hl'=> .need fun hz=>?_;have hob:=zMg hl;have hob':=zMg hl';have hz:=of_decide_eq_true hz;have rv':=rv.ext Z;cases zCT hi;cases zCT hj;refine kM ru fun b1 hb1 e__=>?_;cases e__;refine kM rv' fun b2 hb2 e__=>?_;cases e__;have hne':b1≠b2:=fun e=>by
  subst e;rw [zY AH.nd hb1 hb2,CQ] at hne;exact noB hne.symm
 have xx:=AH.extra (vX .none .none) A9.toks;have I3:=zAY xx.1 hob;obtain ⟨items,m,ho,rs⟩:=I3.list hb1 (Bw (zQ hob));obtain ⟨items2,m2,ho2,rs2⟩:=xx.1.pls hb2 hob';have z:=I3.updList (f:=fun xs=>xs.extract 0 (0:Int).toNat ++ items2 ++ xs.extract (max 0 (items.size:Int)).toNat xs.size) (l':=plL l') hb1 ho (by rw [zMR]; exact rs2);have z1:=kR z.1 (l:=l') (i:=i) (Bw (by rw [Ce]; exact zQ hob));rw [Ct,Ct] at z1;refine .done ⟨z1,xx.2.then xx.1 z.2⟩ .next fun Q E h=>wpAny_Slice (De (De (De ?_)))
 have e1:=rs.size;have e2:=rs2.size;rw [BW] at e1 e2;exact zIf (s:={A9 with heap:=A9.heap.push (vX .none .none)}) ho ho2 hne' (Heap.IsSliceOf.new ..) (e1▸e2▸hz) h
end
structure Cf where
 gl:Str->Option Value
 fn:Addr->Option FuncData
 B:Bnd
 T:zCu
 D:Tabs
 kp:Addr->Bool
 kf:Addr->Bool
 ini:Addr->Option Addr
 lt:Value->Option Addr
 isF:Addr->Bool
 F:Addr->List V->Sto->Option (V×Sto)
 orcN:Nat
 hs:Str->Int
 dl:Addr->Option Addr
structure CfOK(prog:Program)(w:World)(K:Frag)(C:Cf):Prop where
 G:GlOK K C.gl
 F:FnOK prog w K C.fn C.B
 T:ClsOK K C.T
 D:TabsOK prog w K C.D
 keep:KeepOK K C.kp C.kf
 ini:MakeOK K C.ini
 lam:LamOK K C.lt
 sm:(K.lookup sysModules).isSome=true
 hs:C.hs=hashStr w
 dl:DelOK K C.dl
 con:∀a,C.isF a=true->zCb prog w K C.orcN a (C.F a)
noncomputable def zFG(C:Cf):Mth:=zPo zZl (zPo (yA6 C.T) (yBu C.D))
noncomputable def ltO(a b:V):Option Bool:=(pr2 a).bind fun p=>(pr2 b).map fun q=>ltP p q
noncomputable def yAK(C:Cf):Ops:=⟨zW9 C.D,ltO⟩
theorem zOK{prog:Program}{w:World}{K:Frag}{D:Tabs}(DO:TabsOK prog w K D):OpsOK prog w K ⟨zW9 D,ltO⟩ where
 inn:=(yCt DO).inn
 lt:=fun a b c h A ρ σ s x y hu I ra rb Q E q=>by
  refine zJ h fun p hp h=>?_;refine yJ h fun p' hp' e__=>?_;cases e__;cases zJe hp;cases zJe hp';exact cmp_ofLt (zTa hu ra rb (q s.toks))
noncomputable def yCd(D:Tabs)(kf:Addr->Bool)(i:Nat)(σ:Sto)(k:V->Sto->Sy)(ob:Ob):Sy:=match ob with
 | .pls l=> .pick ((zKI (.trk i) σ).map fun p=>(p.1,[])) fun v _=>k v (σ ++ [.list []])
 | _=>qJ D kf "max" [.trk i] σ k
noncomputable def yAd(D:Tabs)(kf:Addr->Bool)(u:V)(σ:Sto)(k:V->Sto->Sy):Sy:=match u with
 | .trk i=>liO (σ[i]? :Option Ob) (yCd D kf i σ k)
 | u=>qJ D kf "max" [u] σ k
noncomputable def zDe(sep:Str)(l:List Pl):Option V:=(zAN (plL l)).bind fun xs=>if (!DG (xs.toArray.foldl (· + ·.length + sep.length) 0) && decide ((vJ sep xs).length<=sizeLine)) then some (.str (vJ sep xs)) else none
noncomputable def zWi(sep:Str)(i:Nat)(σ:Sto)(k:V->Sto->Sy)(ob:Ob):Sy:=match ob with
 | .pls l=>pickV (zDe sep l) fun v=>k v σ
 | _=>zLA sep (.trk i) σ k
noncomputable def zOh(sep:Str)(v:V)(σ:Sto)(k:V->Sto->Sy):Sy:=match v with
 | .trk i=>liO (σ[i]? :Option Ob) (zWi sep i σ k)
 | v=>zLA sep v σ k
noncomputable def yBB(D:Tabs)(kf:Addr->Bool)(i:Nat)(σ:Sto)(k:V->Sto->Sy)(ob:Ob):Sy:=match ob with
 | .pls l=>need (decide (l.length < 2 ^ 63)) (k (.int l.length) σ)
 | .wls l=>need (decide (l.length < 2 ^ 63)) (k (.int l.length) σ)
 | _=>qJ D kf "len" [.trk i] σ k
noncomputable def zZY(D:Tabs)(kf:Addr->Bool)(u:V)(σ:Sto)(k:V->Sto->Sy):Sy:=match u with
 | .trk i=>liO (σ[i]? :Option Ob) (yBB D kf i σ k)
 | u=>qJ D kf "len" [u] σ k
noncomputable def yCK(D:Tabs)(kf:Addr->Bool)(id:String)(u v:V)(σ:Sto)(k:V->Sto->Sy):Sy:=match u with
 | .str sep=>if id=="str.join" then zOh sep v σ k else qJ D kf id [.str sep,v] σ k
 | u=>qJ D kf id [u,v] σ k
noncomputable def yAq(D:Tabs)(kf:Addr->Bool)(id:String)(args:List V)(σ:Sto)(k:V->Sto->Sy):Sy:=match args with
 | []=>qJ D kf id [] σ k
 | u::r=>(match r with
  | []=>if id=="sorted" then zL9 u σ k else if id=="max" then yAd D kf u σ k else if id=="len" then zZY D kf u σ k else qJ D kf id [u] σ k
  | v::r=>(match r with
   | []=>yCK D kf id u v σ k
   | _::_=>qJ D kf id (u::v::r) σ k))
theorem zTn{prog:Program}{w:World}{A:Around}{K:Frag}{D:Tabs}{kf:Addr->Bool}{ρ:List Addr}{σ:Sto}{s:Shared}{x:Value}(hh:A.handled=none)(hu:A.units + 67 < cLine)(hsm:(K.lookup sysModules).isSome=true)(DO:TabsOK prog w K D){u:V}(I:Inv K ρ σ s)(r:VR ρ s.heap u x):zC K ρ s (yAd D kf u σ) (yU prog w A s "max" [x]) VRr:=by
 have gen:=uR (prog:=prog) (w:=w) (A:=A) (id:="max") (kf:=kf) hh hsm DO I (VRs.one r);cases u with
 | trk i=>
  refine .li fun ob hob=>?_;cases ob with
  | pls l=>
   refine .up fun k z hk Q E qq=>?_;have hk:run (.pick ((zKI (.trk i) σ).map fun p=>(p.1,([]:Sto))) fun v _=>k v (σ ++ [.list []]))=some z:=hk;cases hm:zKI (.trk i) σ with
   | none=>rw [hm] at hk; exact noS hk
   | some p=>
    rw [hm] at hk;have e:p.2=σ ++ [.list []]:=by
     refine zJ hm fun l2 _ hm=>?_;refine zJ hm fun ps _ hm=>?_;cases ps with
     | nil=>exact noS hm
     | cons=>cases hm; rfl
    refine zSC (prog:=prog) (w:=w) (A:=A) hh hu I r p.1 p.2 hm Q E fun A7 A6 y AG AK BD=>qq _ _ _ _ _ hk (e▸AG) AK BD
  | _=>exact gen
 | _=>exact gen
theorem zMt{prog:Program}{w:World}{A:Around}{K:Frag}{ρ:List Addr}{σ:Sto}{s:Shared}{y:Value}{sep:Str}{t:Tok}{v:V}(I:Inv K ρ σ s)(r:VR ρ s.heap v y):zC K ρ s (zOh sep v σ) (yU prog w A s "str.join" [.str sep t,y]) VRr:=by
 have gen:=zH2 (prog:=prog) (w:=w) (A:=A) (sep:=sep) (t:=t) I r;cases v with
 | trk i=>
  refine .li fun ob hob=>?_;cases ob with
  | pls l=>
   refine fun hp k z hk Q E qq=>gen hp k z ?_ Q E qq;have hk:run (pickV (zDe sep l) fun v=>k v σ)=some z:=hk;have hl:zR (.trk i) σ=some (plL l):=by
    show (match σ[i]? with | some ob=>(match ob with | .list l=>some l | .stk _ l=>some (qW l) | .pls l=>some (plL l) | .wls l=>some (wlL l) | _=>none) | none=>none)=_;rw [hob]
   unfold zDe at hk;show run (liO (zR (.trk i) σ) _)=_;rw [hl];show run (liO (zAN (plL l)) _)=_;cases hs:zAN (plL l) with
   | none=>rw [hs] at hk; exact noS hk
   | some xs=>
    rw [hs] at hk;have hk:run (pickV (if (!DG (xs.toArray.foldl (· + ·.length + sep.length) 0) && decide ((vJ sep xs).length<=sizeLine)) then some (.str (vJ sep xs)) else none) fun v=>k v σ)=some z:=hk;show run (need (!DG (xs.toArray.foldl (· + ·.length + sep.length) 0) && decide ((vJ sep xs).length<=sizeLine)) _)=_;cases hc:(!DG (xs.toArray.foldl (· + ·.length + sep.length) 0) && decide ((vJ sep xs).length<=sizeLine)) with
    | false=>rw [hc] at hk; exact noS hk
    | true=>rw [hc] at hk; exact hk
  | _=>exact gen
 | _=>exact gen
theorem zTb{prog:Program}{w:World}{A:Around}{K:Frag}{D:Tabs}{kf:Addr->Bool}{ρ:List Addr}{σ:Sto}{s:Shared}{x:Value}(hh:A.handled=none)(hsm:(K.lookup sysModules).isSome=true)(DO:TabsOK prog w K D){u:V}(I:Inv K ρ σ s)(r:VR ρ s.heap u x):zC K ρ s (zZY D kf u σ) (yU prog w A s "len" [x]) VRr:=by
 have gen:=uR (prog:=prog) (w:=w) (A:=A) (id:="len") (kf:=kf) hh hsm DO I (VRs.one r);have ln:=zCF (prog:=prog) (w:=w) (A:=A) I r;cases u with
 | trk i=>
  refine .li fun ob hob=>?_;have lsE:∀l:List V,lsA σ i=some l->l.length < 2 ^ 63->zOC (.trk i) σ=some (.int l.length,σ):=fun l h hz=>by
   show (lsA σ i).bind (fun l=>zFK l.length σ)=_;rw [h];exact if_pos hz
  have lsO:lsA σ i=(match (some ob:Option Ob) with | some ob=>(match ob with | .list l=>some l | .stk _ l=>some (qW l) | .pls l=>some (plL l) | .wls l=>some (wlL l) | _=>none) | none=>none):=by
   show (match σ[i]? with | some ob=>(match ob with | .list l=>some l | .stk _ l=>some (qW l) | .pls l=>some (plL l) | .wls l=>some (wlL l) | _=>none) | none=>none)=_;rw [hob]
  cases ob with
  | pls l=>
   refine .need fun hz=> .ofOut ?_;have e:=lsE _ lsO (by rw [BW]; exact of_decide_eq_true hz);rw [BW] at e;exact e▸ln
  | wls l=>
   refine .need fun hz=> .ofOut ?_;have e:=lsE _ lsO (by rw [BW]; exact of_decide_eq_true hz);rw [BW] at e;exact e▸ln
  | _=>exact gen
 | _=>exact gen
theorem zSr{prog:Program}{w:World}{A:Around}{K:Frag}{D:Tabs}{kf:Addr->Bool}{ρ:List Addr}{σ:Sto}{s:Shared}{id:String}(hh:A.handled=none)(hu:A.units + 67 < cLine)(hsm:(K.lookup sysModules).isSome=true)(DO:TabsOK prog w K D){args:List V}{xs:List Value}(I:Inv K ρ σ s)(rs:VRs ρ s.heap args xs):zC K ρ s (yAq D kf id args σ) (yU prog w A s id xs) VRr:=by
 have gen:=uR (prog:=prog) (w:=w) (A:=A) (id:=id) (kf:=kf) hh hsm DO I rs;cases args with
 | nil=>exact gen
 | cons u r=>cases r with
  | nil=>
   obtain ⟨y,rfl,ry⟩:=xI rs;exact .onId (T:=fun id=>yU prog w A s id [y]) (zJd I ry) (.onId (T:=fun id=>yU prog w A s id [y]) (zTn hh hu hsm DO I ry) (.onId (T:=fun id=>yU prog w A s id [y]) (zTb hh hsm DO I ry) gen))
  | cons v r=>cases r with
   | nil=>
    obtain ⟨y,y',rfl,ry,ry'⟩:=zHn rs;cases u with
    | str sep=>
     obtain ⟨t,rfl⟩:=vrS ry;exact .onId (T:=fun id=>yU prog w A s id [.str sep t,y']) (zMt I ry') gen
    | _=>exact gen
   | cons=>exact gen
noncomputable def zOa(C:Cf)(q:RecK)(a:Addr)(args:List V)(kw:List (Str×V))(σ:Sto)(k:V->Sto->Sy):Sy:=match C.ini a with
 | some f=>zYP C.fn C.B q a f args kw σ k
 | none=>zAc C.fn C.B q a args kw σ k
noncomputable def zXm(C:Cf)(n:Nat)(q:RecK)(a:Addr)(args:List V)(kw:List (Str×V))(σ:Sto)(k:V->Sto->Sy):Sy:=
 if C.isF a then (if CL C.orcN n && kw.isEmpty then zPS (C.F a) args σ k else .fail) else zOa C q a args kw σ k
noncomputable def zXk(C:Cf)(q:RecK)(args:List V)(kw:List (Str×V))(σ:Sto)(k:V->Sto->Sy)(ob:Ob):Sy:=match ob with
 | .lam fd cl j=>zIa q fd cl j args kw σ k
 | .meth g u=>if C.kf g then zAc C.fn C.B q g (u::args) kw σ k else .fail
 | _=> .fail
noncomputable def zUx(C:Cf)(n:Nat)(q:RecK)(f:V)(args:List V)(kw:List (Str×V))(σ:Sto)(k:V->Sto->Sy):Sy:=match f with
 | .val v=>(match v with
  | .ref a=>zXm C n q a args kw σ k
  | .builtin id=>if kw.isEmpty then yAq C.D C.kf id args σ k else .fail
  | .type T=>if kw.isEmpty then zUY T args σ k else .fail
  | _=> .fail)
 | .trk i=>liO (σ[i]? :Option Ob) (zXk C q args kw σ k)
 | _=> .fail
noncomputable def zUB(gl:Str->Option Value)(x:Str)(ae:AE)(σ:Sto)(k:V->Sto->Sy):Sy:=if eqS x ("__debug__":Str) then k (.bool true) σ else liO (zJT gl x ae σ) fun v=>k v σ
noncomputable def zWX(C:Cf)(q:RecK)(f:Expr)(args:List Expr)(kws:List Keyword)(pos:Pos)(ae:AE)(σ:Sto)(k:V->Sto->Sy):Sy:=match f with
 | .Attribute o name apos=>if eqS name ("replace":Str) then yB5 q o apos pos args kws ae σ k else zU4 C.kp C.kf (zFG C) q o name apos pos args kws ae σ k
 | f=>zJ3 C.kp C.kf q f args kws ae σ k
noncomputable def kE(C:Cf)(q:RecK)(e:Expr)(ae:AE)(σ:Sto)(k:V->Sto->Sy):Sy:=match e with
 | .Constant c _ _=>liO (zK4 c) fun v=>k v σ
 | .Name x _=>zUB C.gl x ae σ k
 | .Tuple es _ _=>zOb q es ae σ k
 | .List es _=>zQr q es ae σ k
 | .IfExp t a b _=>zRx q t a b ae σ k
 | .BinOp a op b _=>zQu q (yBf op) a b ae σ k
 | .BoolOp op xs _=>zDv q op xs ae σ k
 | .UnaryOp op x _=>kUn q op x ae σ k
 | .Compare l ops rs _=>zIw (yAK C) q l ops rs ae σ k
 | .Subscript v i _=>zXK C.hs q v i ae σ k
 | .Dict ks vs _=>zU5 C.hs q ks vs ae σ k
 | .Attribute o name _=>zUL C.T q o name ae σ k
 | .ListComp elt gens scope _=>zI4 q elt gens scope ae σ k
 | .Lambda ps b scope _=>liO (zIp C.lt ps b scope ae σ) fun p=>k p.1 p.2
 | .Call f args kws pos=>zWX C q f args kws pos ae σ k
 | _=> .fail
noncomputable def zOU:Expr->Bool
 | .Constant .. =>true
 | .Name .. =>true
 | .Call .. =>true
 | .Attribute .. =>true
 | .Subscript .. =>true
 | .BinOp .. =>true
 | _=>false
noncomputable def zNS(C:Cf)(q:RecK)(e:Expr)(ae:AE)(σ:Sto)(k:Bool->Sto->Sy):Sy:=if zOU e then kE C q e ae σ fun v A4=>zBJ v A4 fun b=>k b A4 else .fail
noncomputable def zZJ{α β:Type}(l:List α)(r:List β)(k:α->β->Sy):Sy:=match l with
 | []=> .fail
 | a::l=>(match r with
  | []=> .fail
  | b::r=>if l.isEmpty && r.isEmpty then k a b else .fail)
noncomputable def kT(C:Cf)(q:RecK)(e:Expr)(ae:AE)(σ:Sto)(k:Bool->Sto->Sy):Sy:=match e with
 | .UnaryOp op x _=>(match op with
  | .Not=>q.t x ae σ fun b A4=>k (!b) A4
  | _=> .fail)
 | .BoolOp op xs _=>zMO q op xs ae σ k
 | .Compare l ops rs _=>zZJ ops rs fun op x=>zRg (yAK C) q l op x ae σ k
 | e=>zNS C q e ae σ k
noncomputable def yAQ(ts:List Expr):Option Expr:=match ts with
 | []=>none
 | t::r=>(match r with
  | []=>some t
  | _::_=>none)
noncomputable def zXw(C:Cf)(q:RecK)(t e:Expr)(ae:AE)(σ:Sto)(k:Fl->Sto->Sy):Sy:=match tgt t with
 | false=> .fail
 | true=>(match t with
  | .Name x _=>zIY q x e ae σ k
  | .Attribute o name _=>zIx C.T q o name e ae σ k
  | .Tuple es l p=>zL6 q (.Tuple es l p) e ae σ k
  | .Subscript o i _=>(match slK i with
   | .sl lo up=>(match lo with
    | none=>(match up with | none=>zHm q o e ae σ k | some _=> .fail)
    | some _=> .fail)
   | _=> .fail)
  | _=> .fail)
noncomputable def zYt(C:Cf)(q:RecK)(t:Expr)(op:Operator)(e:Expr)(ae:AE)(σ:Sto)(k:Fl->Sto->Sy):Sy:=match tgt t with
 | false=> .fail
 | true=>(match t with
  | .Name x _=>zHz C.gl q x op e ae σ k
  | .Attribute o name _=>zHA C.T q o name op e ae σ k
  | .Subscript o i _=>zGy q o i op e ae σ k
  | _=> .fail)
noncomputable def kX(C:Cf)(q:RecK)(st:Stmt)(ae:AE)(σ:Sto)(k:Fl->Sto->Sy):Sy:=match st with
 | .Return e _=>zZM q e ae σ k
 | .If t a b _=>kIf q t a b ae σ k
 | .For t it body orelse _=>zUI C.kf q t it body orelse ae σ k
 | .While t body el _=>if el.isEmpty then wQ q t body ae σ.length k 1000 σ else .fail
 | .Expr e _=>zPN q e ae σ k
 | .Assign ts e _=>liO (yAQ ts) fun t=>zXw C q t e ae σ k
 | .AugAssign t op e _=>zYt C q t op e ae σ k
 | .Delete ts _=>yC7 C.dl q ts ae σ k
 | .Continue _=>k .cont σ
 | _=> .fail
noncomputable def yBv(C:Cf)(n:Nat)(q:RecK):RecK:=⟨kE C q,kT C q,kX C q,zUx C n q⟩
noncomputable def evK(C:Cf):Nat->RecK
 | 0=>⟨fun _ _ _ _=> .fail,fun _ _ _ _=> .fail,fun _ _ _ _=> .fail,fun _ _ _ _ _=> .fail⟩
 | n + 1=>yBv C (2 * n + 5) (evK C n)
section
variable{prog:Program}{w:World}{A:Around}{K:Frag}{C:Cf}{n:Nat}{q:RecK}{ae:AE}{env:Env}{ρ:List Addr}{σ:Sto}{s:Shared}{pos:Pos}
theorem zGG(CO:CfOK prog w K C):MthOK prog w K (zFG C):=zIZ zTF (zIZ (zTI CO.T) (zTj CO.D))
theorem zJE(CO:CfOK prog w K C)(hr:SndK prog w K n q)(hA:Rm A (n + 1)){a:Addr}{args:List V}{kw:List (Str×V)}(I:Inv K ρ σ s){xs:List Value}{xk:List (Str×Value)}(rs:VRs ρ s.heap args xs)(rk:yB ρ s.heap kw xk):zC K ρ s (zAc C.fn C.B q a args kw σ) (W prog w A s (call (.ref a) xs xk)) VRr:=
 (zAG CO.F hr hA I rs rk).rule fun Q E h=>wpAny_call (h _ fun x s' h=>h)
theorem zPZ(CO:CfOK prog w K C)(hr:SndK prog w K n q)(hA:Rm A (n + 2))(hu:A.units + 67 < cLine){f:V}{args:List V}{kw:List (Str×V)}(I:Inv K ρ σ s){x:Value}{xs:List Value}{xk:List (Str×Value)}(rf:VR ρ s.heap f x)(rs:VRs ρ s.heap args xs)(rk:yB ρ s.heap kw xk):zC K ρ s (zUx C n q f args kw σ) (W prog w A s (call x xs xk)) VRr:=by
 cases f with
 | val v=>cases v with
  | ref a=>
   cases vrV rf;refine .cond (fun hf=> .only fun hn=>?_) fun _=>?_
   ·refine zF hn fun hb hk=>?_
    obtain rfl:=Br.mp hk;cases kH rk;exact zNh (CO.con a hf) (hA.le (Bn (C9 hb) (C6 _ _))) I rs
   ·show zC K ρ s (fun k=>match C.ini a with
     | some f=>zYP C.fn C.B q a f args kw σ k
     | none=>zAc C.fn C.B q a args kw σ k) _ _
    cases hi:C.ini a with
    | some f=>exact zTu CO.F CO.ini hr hA hi I rs rk
    | none=>exact zJE CO hr hA.down I rs rk
  | builtin id=>
   cases vrV rf;refine .only fun hk=>?_;obtain rfl:=Br.mp hk;cases kH rk;exact zSr hA.1 hu CO.sm CO.D I rs
  | type T=>
   cases vrV rf;refine .only fun hk=>?_;obtain rfl:=Br.mp hk;cases kH rk;exact zO6 hA.1 I rs
  | _=>exact .fail
 | trk i=>
  refine .li fun ob hi=>?_;refine kM rf fun a ha e__=>?_;cases e__;cases ob with
  | lam fd cl j=>exact zI5 CO.F.lim hr hA.down hi I ha rs rk
  | meth g u=>
   refine .only fun hg=>?_;obtain ⟨o,ys,ho,rr,y,rfl,rfl⟩:=I.obs _ a _ ha hi;refine zNi rr fun _ e ry=>?_;cases e;exact (zAG CO.F hr hA.down I (args:=u::args) (xs:=y::xs) (show VRs ρ s.heap (u::args) (y::xs) from ⟨_,_,rfl,ry,rs⟩) rk).rule fun Q E h=>wpAny_call (ks_codeAny_call_bound ho (h _ fun x s' h=>h))
  | _=>exact .fail
 | _=>exact .fail
theorem zPd(GO:GlOK K C.gl)(X:EnvR ρ ae env)(I:Inv K ρ σ s){x:Str}:zC K ρ s (zUB C.gl x ae σ) (W prog w A s (eval (.Name x pos) env)) VRr:=by
 refine .cond (fun hd=> .ret I zCN fun Q E h=>?_) fun hd=> .li fun v hv=> .up fun k z hz Q E qq=>?_
 ·show wpAny _ _ (eval (.Name x pos) env) Q E s
  rw [arm_eval_Name];refine BK (Cb ?_);rw [if_pos (show (x==("__debug__":Str))=true from (zAy _ _).symm.trans hd)];unfold debugConstant;exact BK (D6 (BM h))
 ·show wpAny _ _ (eval (.Name x pos) env) Q E s
  rw [arm_eval_Name];refine BK (Cb ?_);rw [if_neg (fun h=>noB (hd.symm.trans ((zAy _ _).trans h)))];exact zC2 GO X I hv fun y ry=>qq _ _ _ _ y hz I (.refl _ _) ry
theorem zUF(CO:CfOK prog w K C)(a:At prog w K n q A ae env ρ σ s)(hu:A.units + 65 < cLine){e:Expr}:zC K ρ s (kE C q e ae σ) (W prog w A s (eval e env)) VRr:=by
 cases e with
 | Constant c k p=>exact zM4 a.I
 | Name x p=>exact zPd CO.G a.X a.I
 | Tuple es k p=>exact zNg a
 | List es p=>exact zMF a
 | IfExp t x y p=>exact zNk a
 | BinOp x op y p=>exact (zHs a (T:=fun x y s=>W prog w A s (binaryOp op x y)) fun u v σ ρ s x y I ru rv=>zTX I ru rv).rule fun Q E h=>wpAny_BinOp h
 | BoolOp op xs p=>exact (zOQ a).rule fun Q E h=>by show wpAny _ _ (eval (.BoolOp op xs p) env) Q E s; rw [arm_eval_BoolOp]; exact h
 | UnaryOp op x p=>exact zYL a
 | Compare l ops rs p=>exact zIW (zOK CO.D) hu a
 | Dict ks vs p=>exact zRE CO.hs a
 | Subscript x i p=>exact zTP CO.hs a
 | Attribute o nm p=>exact zOt CO.T a
 | ListComp elt gens scope p=>exact zBl a
 | Lambda ps b scope p=>exact .liP (zHe CO.F.lim CO.lam a.X a.I)
 | Call f args kws p=>
  have gen:zBG f=false->zC K ρ s (zJ3 C.kp C.kf q f args kws ae σ) (W prog w A s (eval (.Call f args kws p) env)) VRr:=fun hf=>zNq CO.keep a hf;cases f with
  | Attribute o nm ap=>exact .cond (fun h=>zS1 a (Bo ((zAy _ _).symm.trans h))) fun _=>zPT hu CO.keep (zGG CO) a
  | _=>exact gen rfl
 | _=>exact .fail
theorem zCv{e:Expr}(h:zOU e=true)(whole:Sem Value):isTrue e env whole=(do let v <-whole; standAt e.pos; holding [v] (truthy v)):=by
 cases e with
 | Constant=>rfl
 | Name=>rfl
 | Call=>rfl
 | Attribute=>rfl
 | Subscript=>rfl
 | BinOp=>rfl
 | _=>exact noB h
theorem zM0(CO:CfOK prog w K C)(a:At prog w K n q A ae env ρ σ s)(hu:A.units + 65 < cLine){e:Expr}:zC K ρ s (zNS C q e ae σ) (W prog w A s (EP e env (eval e env))) BRr:= .only fun hp=>
 (zUF CO a hu).then (g:=fun v A4 k=>zBJ v A4 fun b=>k b A4) (fun x A6=>W prog w A A6 (truthy x)) (fun Q E h=>isTrue_plain h (zCv hp _)) fun v A4 A7 A6 x I X r=> .tst (g:=fun b k=>k b A4) (zBB I r) fun c hc=> .retTok I (b:=c) rfl fun Q E h=>hc _ _ h
theorem yBZ(CO:CfOK prog w K C)(a:At prog w K n q A ae env ρ σ s)(hu:A.units + 65 < cLine){e:Expr}:zC K ρ s (kT C q e ae σ) (W prog w A s (EP e env (eval e env))) BRr:=by
 have gen:=zM0 CO a hu (e:=e);cases e with
 | UnaryOp op x p=>cases op with
  | Not=>exact (a.t x).map (fun b=>!b) (fun b=>!b) (fun _ _=>wpAny_isTrue_Not) fun b c A7 A6 X r=>congrArg (fun b=>!b) r
  | _=>exact .fail
 | BoolOp op xs p=>exact (zRK a).rule fun _ _=>wpAny_isTrue_BoolOp
 | Compare l ops rs p=>cases ops with
  | nil=>exact .fail
  | cons o os=>cases rs with
   | nil=>exact .fail
   | cons x xs=>
    refine .only fun h=>?_;refine zF h fun h1 h2=>?_;cases Br.mp h1;cases Br.mp h2;exact zNf (zOK CO.D) hu a
 | _=>exact gen
theorem zRL{ts:List Expr}{t:Expr}(h:yAQ ts=some t):ts=[t]:=by
 cases ts with
 | nil=>exact noS h
 | cons x r=>cases r with
  | nil=>cases h; rfl
  | cons=>exact noS h
theorem yBJ(CO:CfOK prog w K C)(hA:Rm A (n + 1))(a:At prog w K n q A ae env ρ σ s){st:Stmt}:zC K ρ s (kX C q st ae σ) (W prog w A s (exec st env)) FlR:=by
 cases st with
 | Return e p=>exact zUb a
 | If t x y p=>exact zWR a
 | For t it body orelse p=>exact zQE CO.sm CO.keep hA a
 | While t body el p=>
  refine .only fun h=>?_;cases Br.mp h;exact zMB a
 | Expr e p=>exact zMM a
 | Assign ts e p=>
  refine .li fun t ht=>?_;cases zRL ht;refine zBD (P:=fun t=>zC K ρ s (zXw C q t e ae σ) (W prog w A s (exec (.Assign [t] e p) env)) FlR) t (fun x p=>?_) (fun o nm p=>?_) (fun es k p=>?_) (fun o i p=>?_) fun t ht=>?_
  ·exact zIX a
  ·exact zH3 CO.T a
  ·exact zKc a
  ·show zC K ρ s (fun k=>match slK i with
    | .sl lo up=>(match lo with
     | none=>(match up with | none=>zHm q o e ae σ k | some _=> .fail)
     | some _=> .fail)
    | _=> .fail) _ _
   cases hs:slK i with
   | sl lo up=>
    obtain ⟨p2,rfl⟩:=zPF hs;cases lo with
    | none=>cases up with
     | none=>exact zJQ a
     | some=>exact .fail
    | some=>exact .fail
   | _=>exact .fail
  ·unfold zXw
   rw [ht];exact .fail
 | Delete ts p=>
  refine .li fun t ht=>?_;have ht:ts=[t]:=by
   cases ts with
   | nil=>exact noS ht
   | cons x r=>cases r with
    | nil=>cases ht; rfl
    | cons=>exact noS ht
  subst ht;refine zBD (P:=fun t=>zC K ρ s (zQl C.dl q t ae σ) (W prog w A s (exec (.Delete [t] p) env)) FlR) t (fun x p=> .fail) (fun o nm p=> .fail) (fun es k p=> .fail) (fun o i p=>?_) fun t ht=>?_
  ·exact zOy CO.dl a
  ·unfold zQl
   rw [ht];exact .fail
 | AugAssign t op e p=>
  refine zBD (P:=fun t=>zC K ρ s (zYt C q t op e ae σ) (W prog w A s (exec (.AugAssign t op e p) env)) FlR) t (fun x p=>?_) (fun o nm p=>?_) (fun es k p=> .fail) (fun o i p=>?_) fun t ht=>?_
  ·exact zHt CO.G a
  ·exact zHS CO.T a
  ·exact zJI a
  ·unfold zYt
   rw [ht];exact .fail
 | Continue p=>exact .ret a.I .cont fun _ _ h=>wpAny_Continue h
 | _=>exact .fail
theorem zMf(CO:CfOK prog w K C)(n:Nat):SndK prog w K (2 * n + 5) (evK C n):=by
 induction n with
 | zero=>exact ⟨fun _ _ _ _ _ _ _ _ _ _=> .fail,fun _ _ _ _ _ _ _ _ _ _=> .fail,fun _ _ _ _ _ _ _ _ _ _=> .fail,fun _ _ _ _ _ _ _ _ _ _ _ _ _ _ _=> .fail⟩
 | succ n hr=>
  have hu:∀{A:Around},Rm A (2 * n + 5 + 2)->A.units + 65 < cLine:=fun h=>C4 (D1 (Bn (by decide) (E5 16 (Bn (Nat.le_add_left 5 (2 * n)) (C6 _ 2)))) _) h.2.2;refine ⟨fun e ae σ A env ρ s hA X I=>?_,fun e ae σ A env ρ s hA X I=>?_,fun e ae σ A env ρ s hA X I=>?_,fun f args kw σ A ρ s x xs xk hA I rf rs rk=>?_⟩
  ·exact zUF CO ⟨hr,Rm.down (Rm.down hA),X,I⟩ (hu hA)
  ·exact yBZ CO ⟨hr,Rm.down (Rm.down hA),X,I⟩ (hu hA)
  ·exact yBJ CO (Rm.down hA) ⟨hr,Rm.down (Rm.down hA),X,I⟩
  ·exact zPZ CO hr hA (C4 (D1 (Bn (by decide) (E5 16 (Bn (Nat.le_add_left 5 (2 * n)) (C6 _ 2)))) _) hA.2.2) I rf rs rk
end
noncomputable abbrev evC(C:Cf)(n:Nat)(f:V)(args:List V)(kw:List (Str×V))(σ:Sto):Option (V×Sto):=run ((evK C n).c f args kw σ .done)
theorem zAF{C:Cf}{n:Nat}{f:V}{args:List V}{kw:List (Str×V)}{ds:List Dec}{l:List Prop}{p:V×Sto}{σ:Sto}(h:zD ((evK C n).c f args kw σ .done) ds []=some (l,p))(hl:qQ l):evC C n f args kw σ=some p:=(uC h hl).1
theorem wW{C:Cf}{n:Nat}{f v:V}{args:List V}{kw:List (Str×V)}{σ AA:Sto}(h:Run ((evK C n).c f args kw σ) v AA):evC C n f args kw σ=some (v,AA):=h _ _ rfl
theorem kJ{prog:Program}{w:World}{K:Frag}{C:Cf}(CO:CfOK prog w K C){N n:Nat}(hN:2 * N + 5<=n){a:Addr}:zCb prog w K n a (fun args σ=>evC C N (.val (.ref a)) args [] σ):=
 fun args σ A ρ s xs hA hs I rs v AA h Q E q=>(zMf CO N).c _ _ _ _ A ρ s (.ref a) xs [] (hA.le hN) I kG rs ⟨rfl,vrs_nil'⟩ hs _ _ h Q E fun B0 A4 A7 A6 x hk I X hs r=>by
  cases hk; exact q _ _ _ I X r
section
variable{α β:Type}{q:RecK}{ae:AE}{kf:Addr->Bool}{σ A4 A5 A8:Sto}{f:Fl}{v u:V}{t:Expr}{st:Stmt}{a b l body:List Stmt}{m fu i:Nat}{nx:Nx}
noncomputable def zK9(q:RecK)(l:List Stmt)(ae:AE)(k:Fl->Sto->Sy)(f:Fl)(σ:Sto):Sy:=match f with
 | .next=>kS q l ae σ k
 | f=>k f σ
theorem zQT{k:Fl->Sto->Sy}:kS q (a ++ b) ae σ k=kS q a ae σ (zK9 q b ae k):=by
 induction a generalizing σ with
 | nil=>rfl
 | cons st a ih=>
  refine congrArg (q.x st ae σ) (funext fun f=>funext fun A4=>?_);cases f with
  | next=>exact ih
  | _=>rfl
theorem yA(h:Run (kS q a ae σ) .next A4)(h2:Run (kS q b ae A4) f A5):Run (kS q (a ++ b) ae σ) f A5:=fun k z hz=>by
 rw [zQT]; exact h _ z (h2 k z hz)
theorem zL(h:Run (q.x st ae σ) .next A4)(h2:Run (kS q l ae A4) f A5):Run (kS q (st::l) ae σ) f A5:=fun k z hz=>h _ z (h2 k z hz)
theorem zFI(h:Run (q.x st ae σ) (.ret v) A4):Run (kS q (st::l) ae σ) (.ret v) A4:=fun k z hz=>h _ z hz
theorem zEA{k:Fl->Sto->Sy}:zK9 q [] ae k=k:=funext fun f=>funext fun σ=>by cases f <;>rfl
theorem zHg(h:Run (kS q [st] ae σ) f A4):Run (q.x st ae σ) f A4:=fun k z hz=>by
 have z':=h k z hz;have e:kS q [st] ae σ k=q.x st ae σ (zK9 q [] ae k):=rfl;rw [e,zEA] at z';exact z'
theorem yG(h:Run (q.x st ae σ) f A4):Run (kS q [st] ae σ) f A4:=fun k z hz=>by
 have e:kS q [st] ae σ k=q.x st ae σ (zK9 q [] ae k):=rfl;rw [e,zEA];exact h k z hz
theorem zK{ds:List Dec}(ps:List Prop)(h:∀k,zD (kS q l ae σ k) ds []=zD (k f A4) [] ps)(hp:qQ ps):Run (kS q l ae σ) f A4:=qR (fun _=>ds) ps h hp
theorem zJU{c:Bool}(h:Run (q.t t ae σ) c A4)(h2:Run (kS q (if c then a else b) ae A4) f A5):Run (kIf q t a b ae σ) f A5:=fun k z hz=>by
 refine h (fun c AA=>xG c (kS q a ae AA k) (kS q b ae AA k)) z ?_;cases c with
 | true=>exact h2 k z hz
 | false=>exact h2 k z hz
noncomputable def zYw(m:Nat)(k:Fl->Sto->Sy)(fl:Fl)(σ:Sto):Sy:=match fl with
 | .next=>k .next (gc m σ)
 | .cont=>k .next (gc m σ)
 | fl=>k fl σ
noncomputable def yB7(q:RecK)(t:Expr)(body:List Stmt)(ae:AE)(m:Nat)(nx:Nx)(i:Nat)(σ:Sto)(k:Fl->Sto->Sy):Sy:=liO (nx σ i) fun o=>match o with
 | none=> .fail
 | some v=>liO (wO t v ae σ) fun A4=>kS q body ae A4 (zYw m k)
noncomputable abbrev zJJ(q:RecK)(t:Expr)(body:List Stmt)(ae:AE)(m:Nat)(nx:Nx)(i:Nat)(σ:Sto)(f:Fl)(AA:Sto):Prop:=Run (yB7 q t body ae m nx i σ) f AA
noncomputable abbrev zKF(q:RecK)(t:Expr)(body:List Stmt)(ae:AE)(m:Nat)(nx:Nx)(fu i:Nat)(σ:Sto)(f:Fl)(AA:Sto):Prop:=Run (fun k=>vP q t body ae m nx k fu i σ) f AA
noncomputable def zRq(k:Fl->Sto->Sy)(go:Sto->Sy)(f:Fl)(σ:Sto):Sy:=match f with
 | .next=>go σ
 | .cont=> .fail
 | .brk=>k .next σ
 | .ret v=>k (.ret v) σ
theorem zQ9{k:Fl->Sto->Sy}{z:V×Sto}(h:zJJ q t body ae m nx i σ f A4)(hz:run (zRq k (vP q t body ae m nx k fu (i + 1)) f A4)=some z):run (vP q t body ae m nx k (fu + 1) i σ)=some z:=by
 have z':=h (zRq k (vP q t body ae m nx k fu (i + 1))) z hz;refine uA z' fun o ho z'=>?_;show run (liO (nx σ i) _)=_;rw [ho];cases o with
 | none=>exact noS z'
 | some v=>
  refine uA z' fun AA Ax z'=>?_;show run (liO (wO t v ae σ) _)=_;rw [Ax];have e:zYw m (zRq k (vP q t body ae m nx k fu (i + 1)))=fun fl A5=>zDG k (fun A5=>vP q t body ae m nx k fu (i + 1) (gc m A5)) fl A5:=funext fun fl=>funext fun A5=>by cases fl <;>rfl
  show run (kS q body ae AA fun fl A5=>zDG k (fun A5=>vP q t body ae m nx k fu (i + 1) (gc m A5)) fl A5)=some z;rw [<-e];exact z'
theorem yM(h:zJJ q t body ae m nx i σ .next A4)(h2:zKF q t body ae m nx fu (i + 1) A4 f A5):zKF q t body ae m nx (fu + 1) i σ f A5:=fun k z hz=>zQ9 h (h2 k z hz)
theorem xO(h:nx σ i=some none):zKF q t body ae m nx (fu + 1) i σ .next σ:=fun k z hz=>by
 show run (liO (nx σ i) _)=_;rw [h]; exact hz
theorem zAm{k:Nat}(h1:nx σ k=some (some v))(h2:wO t v ae σ=some A4)(h3:Run (kS q body ae A4) .next A5)(h4:gc m A5=A8):zJJ q t body ae m nx k σ .next A8:=fun k' z hz=>by
 show run (liO (nx σ k) _)=_;rw [h1];show run (liO (wO t v ae σ) _)=_;rw [h2];exact h3 _ z (by show run (k' .next (gc m A5))=_; rw [h4]; exact hz)
noncomputable def zQR(kf:Addr->Bool)(q:RecK)(t:Expr)(body:List Stmt)(ae:AE)(i:Nat)(σ:Sto)(kn:Sto->Sy)(k:Fl->Sto->Sy):Sy:=wR kf q t i σ fun o A4=>match o with
 | none=>kn A4
 | some v=>liO (wO t v ae A4) fun A5=>kS q body ae A5 k
noncomputable abbrev zD3(kf:Addr->Bool)(q:RecK)(t:Expr)(body:List Stmt)(ae:AE)(i:Nat)(σ:Sto)(f:Fl)(AA:Sto):Prop:=∀kn,Run (zQR kf q t body ae i σ kn) f AA
noncomputable abbrev zHv(kf:Addr->Bool)(q:RecK)(t:Expr)(body:List Stmt)(ae:AE)(i fu:Nat)(σ:Sto)(f:Fl)(AA:Sto):Prop:=Run (fun k=>wL kf q t body ae i k fu σ) f AA
theorem zBU{k:Fl->Sto->Sy}{z:V×Sto}(h:zD3 kf q t body ae i σ f A4)(hz:run (zDG k (wL kf q t body ae i k fu) f A4)=some z):run (wL kf q t body ae i k (fu + 1) σ)=some z:=by
 have z':=h (fun A4=>k .next A4) (fun fl A8=>zDG k (fun A8=>wL kf q t body ae i k fu A8) fl A8) z hz;have e:(zOB q t body ae k fun A8=>wL kf q t body ae i k fu A8)=fun o A4=>match o with
  | none=>k .next A4
  | some v=>liO (wO t v ae A4) fun A5=>kS q body ae A5 fun fl A8=>zDG k (fun A8=>wL kf q t body ae i k fu A8) fl A8:=funext fun o=>funext fun A4=>by cases o <;>rfl
 show run (wR kf q t i σ (zOB q t body ae k fun A8=>wL kf q t body ae i k fu A8))=some z;rw [e];exact z'
theorem kW(h:zD3 kf q t body ae i σ .next A4\/zD3 kf q t body ae i σ .cont A4)(h2:zHv kf q t body ae i fu A4 f A5):zHv kf q t body ae i (fu + 1) σ f A5:=fun k z hz=>h.elim (fun h=>zBU h (h2 k z hz)) fun h=>zBU h (h2 k z hz)
theorem xT(h:zD3 kf q t body ae i σ (.ret v) A4):zHv kf q t body ae i (fu + 1) σ (.ret v) A4:=fun k z hz=>zBU h hz
theorem zJZ(h:Run (wR kf q t i σ) none A4):zHv kf q t body ae i (fu + 1) σ .next A4:=fun k z hz=>h _ z hz
theorem yH{ds:List Dec}(ps:List Prop)(h:∀kn k,zD (zQR kf q t body ae i σ kn k) ds []=zD (k f A4) [] ps)(hp:qQ ps):zD3 kf q t body ae i σ f A4:=fun kn=>qR (fun _=>ds) ps (h kn) hp
noncomputable def zUD(kf:Addr->Bool)(q:RecK)(t:Expr)(ae:AE)(i:Nat)(σ:Sto)(kn:Sto->Sy)(k:Unit->Sto->Sy):Sy:=wR kf q t i σ fun o A4=>match o with
 | none=>kn A4
 | some v=>liO (wO t v ae A4) (k ())
noncomputable abbrev zRj(kf:Addr->Bool)(q:RecK)(t:Expr)(ae:AE)(i:Nat)(σ AA:Sto):Prop:=∀kn,Run (zUD kf q t ae i σ kn) () AA
theorem zVg{ds:List Dec}(ps:List Prop)(h:∀kn k,zD (zUD kf q t ae i σ kn k) ds []=zD (k () A4) [] ps)(hp:qQ ps):zRj kf q t ae i σ A4:=fun kn=>qR (fun _=>ds) ps (h kn) hp
theorem zJ8(h:zRj kf q t ae i σ A4)(h2:Run (kS q body ae A4) f A5):zD3 kf q t body ae i σ f A5:=fun kn k z hz=>h kn (fun _ A4=>kS q body ae A4 k) z (h2 k z hz)
theorem zVc{o:Option V}{ds:List Dec}(ps:List Prop)(h:∀k,zD (wR kf q t i σ k) ds []=zD (k o A4) [] ps)(hp:qQ ps):Run (wR kf q t i σ) o A4:=qR (fun _=>ds) ps h hp
theorem zJj{c:Bool}{ds:List Dec}(ps:List Prop)(h:∀k,zD (q.t t ae σ k) ds []=zD (k c A4) [] ps)(hp:qQ ps):Run (q.t t ae σ) c A4:=qR (fun _=>ds) ps h hp
theorem xZ(h:Run (kS q body ae σ) (.ret v) A4)(e:gcv m v A4=(u,A5)):Run (kU q m body ae σ) u A5:=fun k z hz=>h _ z (by
 show run (match gcv m v A4 with | (u,A8)=>k u A8)=some z;rw [e]; exact hz)
theorem zBt(h:Run (kS q body ae σ) .next A4)(e:gcv m .none A4=(u,A5)):Run (kU q m body ae σ) u A5:=fun k z hz=>h _ z (by
 show run (match gcv m .none A4 with | (u,A8)=>k u A8)=some z;rw [e]; exact hz)
theorem yT{γ:Type}{m m':(γ->Sto->Sy)->Sy}{x:γ}(e:∀k,m k=m' k)(h:Run m' x A4):Run m x A4:=fun k z hz=>e k▸h k z hz
end
noncomputable def KL(b:Bool)(P:Params):Frag:=[
 (0,(tp1 P)),
 (1,(tp2 P)),
 (2,(tp3 P)),
 (3,(zHP b P)),
 (4,(tp5 P)),
 (37,zAt),
 (38,zAs),
 (46,(uF b P)),
 (55,zB5),
 (56,zBh),
 (57,(uO b P)),
 (101,zC9),
 (102,zBs),
 (115,zDF),
 (116,zBv),
 (122,zEc),
 (123,zBC),
 (129,zDb),
 (130,zAL),
 (136,zDz),
 (137,zBQ),
 (139,(zDV P)),
 (140,zD1),
 (145,(vM b P)),
 (151,zKs),
 (152,zJG),
 (156,zHl),
 (157,zFZ),
 (161,zGJ),
 (162,zF8),
 (163,zKq),
 (169,zJh),
 (170,zKj),
 (178,wX),
 (184,zPA),
 (185,zJ0),
 (191,zQO),
 (192,zKw),
 (198,zRi),
 (199,zQt),
 (205,zO3),
 (206,zOd),
 (210,zOA),
 (211,zDd),
 (217,zOE),
 (218,zOf),
 (224,zPn),
 (225,zQA),
 (229,zOS),
 (230,zD4),
 (231,wX),
 (237,zP7),
 (238,zNO),
 (242,zRF),
 (243,zPu),
 (247,zPj),
 (248,zP6),
 (254,zPE),
 (255,zJ2),
 (261,zRc),
 (262,zPf),
 (266,zOj),
 (267,zOn),
 (273,zRC),
 (274,zNP),
 (280,zP2),
 (281,zPg),
 (287,zRe),
 (288,zKE),
 (290,(zNY P)),
 (291,zRy),
 (301,zRv),
 (302,(zJ7 b P)),
 (308,zPR),
 (309,(zJC b P)),
 (315,zQP),
 (316,(zJW b P)),
 (322,zQo),
 (323,(zJv b P)),
 (329,(zGC b P)),
 (330,(zGr b P)),
 (334,zQJ),
 (335,(zFS b P)),
 (339,zNZ),
 (340,(zHa b P)),
 (344,zPp),
 (345,(zGK b P)),
 (349,zPr),
 (350,(zGw b P)),
 (356,zRD),
 (357,(zHb b P)),
 (361,zNH),
 (362,(zGQ b P))]
noncomputable def qD(o:Obj):FuncData:=match o.data with
 | .func fd=>fd
 | _=>default
noncomputable def fnT(b:Bool)(P:Params):List (Addr×FuncData):=[
 (56,qD zBh),
 (102,qD zBs),
 (185,qD zJ0),
 (192,qD zKw),
 (230,qD zD4),
 (255,qD zJ2),
 (288,qD zKE),
 (211,qD zDd),
 (116,qD zBv),
 (123,qD zBC),
 (130,qD zAL),
 (137,qD zBQ),
 (302,qD (zJ7 b P)),
 (309,qD (zJC b P)),
 (316,qD (zJW b P)),
 (323,qD (zJv b P)),
 (330,qD (zGr b P)),
 (335,qD (zFS b P)),
 (340,qD (zHa b P)),
 (345,qD (zGK b P)),
 (350,qD (zGw b P)),
 (357,qD (zHb b P)),
 (362,qD (zGQ b P))]
noncomputable def gT:List (Str×Value):=[
 (S "_name_disallowed_re",R 157),
 (S "_value_disallowed_re",R 162),
 (S "Headers",R 291),
 (S "_netrclex",R 140),
 (S "b1_set",R 46),
 (S "in_table_b1",R 56),
 (S "b3_exceptions",R 57),
 (S "map_table_b3",R 102),
 (S "EXACT_TOKEN_TYPES",R 145),
 (S "_law_cells",R 302),
 (S "_law_road",R 309),
 (S "_law_spelled",R 316),
 (S "_law_written",R 323),
 (S "_law_lexer",R 330),
 (S "_law_read",R 335),
 (S "_law_lay",R 340),
 (S "_law_joined",R 345),
 (S "_law_due",R 350),
 (S "_law_run",R 357)]
noncomputable def bT:List (Str×Value):=[
 (S "len",B "len"),
 (S "min",B "min"),
 (S "max",B "max"),
 (S "abs",B "abs"),
 (S "chr",B "chr"),
 (S "ord",B "ord"),
 (S "iter",B "iter"),
 (S "sum",B "sum"),
 (S "sorted",B "sorted"),
 (S "range",Y "range"),
 (S "list",Y "list"),
 (S "str",Y "str"),
 (S "type",Y "type"),
 (S "enumerate",Y "enumerate")]
noncomputable def zWE:List (Addr×List (Str×Option Addr)):=[(291,[(S "_convert_string_type",some 192),(S "get_all",some 230),(S "items",some 255),(S "add_header",some 288),(S "__delitem__",some 211),(S "_headers",none)]),(140,[(S "_read_char",some 123),(S "get_token",some 130),(S "push_token",some 137),(S "lineno",none),(S "instream",none),(S "whitespace",none),(S "pushback",none),(S "read",none)])]
noncomputable def yDE:zCu:=fun C n=>(zWE.lookup C).bind fun l=>lkS l n
noncomputable def zT4:List (Addr×Addr):=[(291,185),(140,116)]
noncomputable def orE{α:Type}(a b:Option α):Option α:=match a with
 | some x=>some x
 | none=>b
inductive Sh where
 | pos (names:List Str) (dfl:List V)
 | kwo (names:List Str) (kw:Str)
 | star (names:List Str) (kw:Str)
noncomputable def shB(sh:Sh)(args:List V)(kw:List (Str×V))(σ:Sto):Option (List (Str×V)×Sto):=match sh with
 | .pos names dfl=>if kw.isEmpty && (decide (args.length<=names.length) && decide (names.length<=args.length + dfl.length)) then some (names.zip (args ++ dfl.drop (args.length + dfl.length - names.length)),σ) else none
 | .kwo names x=>(match kw with
  | []=>none
  | p::r=>if r.isEmpty && (args.length==names.length && eqS p.1 x) then some (names.zip args ++ [(x,p.2)],σ) else none)
 | .star names x=>if kw.isEmpty && args.length==names.length then some (names.zip args ++ [(x,.trk σ.length)],σ ++ [.dict []]) else none
noncomputable def shT:List (Addr×Sh):=[(56,.pos [S "code"] []),(102,.pos [S "code"] []),(185,.pos [S "self",S "headers"] [.none]),(192,.kwo [S "self",S "value"] (S "name")),(230,.pos [S "self",S "name"] []),(255,.pos [S "self"] []),(288,.star [S "self",S "_name",S "_value"] (S "_params")),(211,.pos [S "self",S "name"] []),(116,.pos [S "self",S "fp"] []),(123,.pos [S "self"] []),(130,.pos [S "self"] []),(137,.pos [S "self",S "token"] []),(302,.pos [S "script"] []),(309,.pos [S "cell"] []),(316,.pos [S "word",S "look",S "nothing"] []),(323,.pos [S "road",S "look"] []),(330,.pos [S "text"] []),(335,.pos [S "word"] []),(340,.pos [S "tree",S "roads",S "new"] []),(345,.pos [S "ties",S "one",S "two"] []),(350,.pos [S "roads",S "laid"] []),(357,.pos [S "lexer",S "words",S "roads",S "order"] []),(362,.pos [S "script"] [])]
noncomputable def yAI:Bnd:=fun a args kw σ=>(shT.lookup a).bind fun sh=>shB sh args kw σ
noncomputable def zNb:Value->V
 | .int i _=> .int i
 | .str s _=> .str s
 | _=> .none
noncomputable def kA(o:Obj):List DictEntry:=match o.data with
 | .dict es _=>es.toList
 | _=>[]
noncomputable def zHE(o:Obj):List (Int×Value):=match o.data with
 | .set es _ _=>es.toList
 | _=>[]
noncomputable def zA7(o:Obj):Array Value:=match o.data with
 | .fields vs=>vs
 | .seq vs _=>vs
 | _=>#[]
noncomputable def isS(k:Str):Value->Bool
 | .str s _=>eqS s k
 | _=>false
noncomputable def isI(k:Int):Value->Bool
 | .int i _=>i==k
 | _=>false
noncomputable def zAw(r:Except String (Bool×Sre.Seen)):Option Bool:=match r with
 | .ok p=>some p.1
 | .error _=>none
noncomputable def zKK(code:Array Nat)(c:Nat):Bool:=match zAw (EW code c code.size 5 true {}) with
 | some b=>b
 | none=>true
noncomputable def zY8(b:Bool)(P:Params):Tabs where
 sget a k:=if a==145 then some (((kA (vM b P)).find? (fun e=>isS k e.key)).map fun e=>zNb e.val) else none
 iget a k:=if a==57 then some (((kA (uO b P)).find? (fun e=>isI k e.key)).map fun e=>zNb e.val) else none
 sset a k:=if a==46 then some ((zHE (uF b P)).any fun e=>isI k e.2) else none
 isD a:=a==145 || a==57
 pat a:=if a==157 then some (zKK #[14,10,4,1,1,22,0,31,16,127,0,13,7,22,0,31,16,127,0,1])
  else if a==162 then some (zKK #[14,14,4,1,1,9,4294966783,0,0,2147483648,0,0,0,0,0,13,11,9,4294966783,0,0,2147483648,0,0,0,0,0,1]) else none
noncomputable def cf(b:Bool)(P:Params):Cf where
 gl n:=orE (lkS gT n) (lkS bT n)
 fn a:=(fnT b P).lookup a
 B:=yAI
 T:=yDE
 D:=zY8 b P
 kp a:=(fnT b P).any (fun p=>p.1==a) || zT4.any (fun p=>p.1==a)
 kf a:=(fnT b P).any (fun p=>p.1==a)
 ini a:=zT4.lookup a
 lt v:=if v== .ref 329 then some 325 else none
 isF _:=false
 F _ _ _:=none
 orcN:=0
 hs:=DH P
 dl a:=if a==291 then some 211 else none
noncomputable def nsF:List DictEntry->Str->Option Value
 | [],_=>none
 | e::r,n=>match isS n e.key with
  | true=>some e.val
  | false=>nsF r n
noncomputable def zLn:Value->Bool
 | .str _ _=>true
 | _=>false
noncomputable def zLb:Value->Bool
 | .int _ _=>true
 | _=>false
noncomputable def zUP:Value->Bool
 | .bool _=>true
 | _=>false
noncomputable def zH6(l:List DictEntry):Bool:=l.all fun e=>zLn e.key
noncomputable def zA1(o:Obj):Bool:=match o.data with
 | .dict _ _=>true
 | _=>false
theorem stV{v:Value}(h:zLn v=true):∃s t,v= .str s t:=by
 cases v with
 | str=>exact ⟨_,_,rfl⟩
 | _=>exact noB h
theorem inV{v:Value}(h:zLb v=true):∃s t,v= .int s t:=by
 cases v with
 | int=>exact ⟨_,_,rfl⟩
 | _=>exact noB h
theorem boV{v:Value}(h:zUP v=true):∃s,v= .bool s:=by
 cases v with
 | bool=>exact ⟨_,rfl⟩
 | _=>exact noB h
theorem zWp(k:Str)(v:Value):isS k v=Value.isStrOf k v:=by
 cases v with
 | str=>exact zAy _ _
 | _=>rfl
theorem zRu(k:Int)(v:Value):isI k v=Value.isInt k v:=by cases v <;>rfl
theorem zWn(n:Str)(l:List DictEntry)(h:∀e∈l,∃n t,e.key= .str n t):(l.find? fun e=>e.key.isStr n).map (·.val)=nsF l n:=by
 induction l with
 | nil=>rfl
 | cons e l ih=>
  obtain ⟨s,t,hk⟩:=h e (CB ..);show _=(match isS n e.key with | true=>some e.val | false=>nsF l n);rw [E9,hk,show Value.isStr (.str s t) n=isS n (.str s t) from (zAy s n).symm];cases isS n (.str s t) with
  | true=>rfl
  | false=>exact ih fun e he=>h e (Bq _ he)
theorem kns{K:Frag}{h:Heap}(hI:K.In h){a:Addr}{o:Obj}(e:K.lookup a=some o)(d:zA1 o=true)(k:zH6 (kA o)=true):h.Ns a (nsF (kA o)):=by
 obtain ⟨cls,dict,data,slots⟩:=o;cases data with
 | dict es ep=>
  have hk:StrKeys es:=fun x hx=>stV (BV.mp k x (Array.mem_toList_iff.mpr hx));refine ⟨_,es,ep,hI a _ e,rfl,hk,fun n=>?_⟩;show _=nsF es.toList n;rw [<-zWn n es.toList (fun x hx=>hk x (Array.mem_toList_iff.mp hx))];unfold nsFind findBy;rw [Array.find?_toList]
 | _=>exact noB d
noncomputable def zL0(es:List DictEntry):List (Str×Value)->Prop
 | []=>True
 | p::r=>nsF es p.1=some p.2/\zL0 es r
noncomputable def zK3(eg es:List DictEntry):List (Str×Value)->Prop
 | []=>True
 | p::r=>(nsF eg p.1=none/\nsF es p.1=some p.2)/\zK3 eg es r
theorem zQW{es:List DictEntry}{l:List (Str×Value)}(h:zL0 es l){n:Str}{v:Value}(e:lkS l n=some v):nsF es n=some v:=by
 induction l with
 | nil=>exact noS e
 | cons p l ih=>
  have e:(match eqS n p.1 with | true=>some p.2 | false=>lkS l n)=some v:=e;cases hq:eqS n p.1 with
  | true=>rw [hq] at e; cases e; rw [(yI _ _).mp hq]; exact h.1
  | false=>rw [hq] at e; exact ih h.2 e
theorem zRB{eg es:List DictEntry}{l:List (Str×Value)}(h:zK3 eg es l){n:Str}{v:Value}(e:lkS l n=some v):nsF eg n=none/\nsF es n=some v:=by
 induction l with
 | nil=>exact noS e
 | cons p l ih=>
  have e:(match eqS n p.1 with | true=>some p.2 | false=>lkS l n)=some v:=e;cases hq:eqS n p.1 with
  | true=>rw [hq] at e; cases e; rw [(yI _ _).mp hq]; exact h.1
  | false=>rw [hq] at e; exact ih h.2 e
theorem zZw{K:Frag}{og ob:Obj}(e1:K.lookup mainGlobals=some og)(d1:zA1 og=true)(k1:zH6 (kA og)=true)(e2:K.lookup builtinsNs=some ob)(d2:zA1 ob=true)(k2:zH6 (kA ob)=true)
  {gT bT:List (Str×Value)} (g:zL0 (kA og) gT) (bb:zK3 (kA og) (kA ob) bT):GlOK K (fun n=>orE (lkS gT n) (lkS bT n)):=⟨fun h hI n v hv=>⟨_,kns hI e1 d1 k1,by
  have hv:orE (lkS gT n) (lkS bT n)=some v:=hv;cases hg:lkS gT n with
  | some x=>rw [hg] at hv; cases hv; exact .inl (zQW g hg)
  | none=>
   rw [hg] at hv;have z:=zRB bb hv;exact .inr ⟨z.1,_,kns hI e2 d2 k2,z.2⟩⟩⟩
theorem zXO{K:Frag}{o:Obj}(e1:K.lookup cStatics=some o)(d1:zA1 o=true)(k1:zH6 (kA o)=true)(z:nsF (kA o) "sys.recursionlimit"=none):∀h,K.In h->h.NoLimit:=fun h hI=>⟨_,kns hI e1 d1 k1,z⟩
noncomputable def yB2(K:Frag)(a:Addr):Option FuncData:=(K.lookup a).bind fun o=>match o.data with
 | .func fd=>some fd
 | _=>none
theorem zOe{K:Frag}{a:Addr}{fd:FuncData}(h:yB2 K a=some fd):∃o,K.lookup a=some o/\o.data= .func fd:=by
 refine zJ h fun o ho h=>?_;obtain ⟨cls,dict,data,slots⟩:=o;cases data with
 | func=>cases h; exact ⟨_,ho,rfl⟩
 | _=>exact noS h
noncomputable def fnB(K:Frag)(a:Addr)(fd:FuncData):Bool:=codeIn K fd.code fd.qualname && (!fd.scope.isCoroutine && (!fd.scope.isGenerator && (fd.scope.kind== .function && (fd.globals==mainGlobals && (fd.builtins==builtinsNs && fd.closure.isEmpty)))))
noncomputable def zNE(K:Frag):List (Addr×FuncData)->Prop
 | []=>True
 | p::r=>(yB2 K p.1=some p.2/\fnB K p.1 p.2=true)/\zNE K r
theorem zAi{α:Type}{p:Addr×α}{l:List (Addr×α)}{a:Addr}{x:α}(e:(p::l).lookup a=some x):p=(a,x)\/l.lookup a=some x:=by
 have e:(match a==p.1 with | true=>some p.2 | false=>l.lookup a)=some x:=e;cases hq:a==p.1 with
 | true=>rw [hq] at e; cases e; exact .inl (by rw [Bo hq])
 | false=>rw [hq] at e; exact .inr e
theorem zNX{K:Frag}{l:List (Addr×FuncData)}(h:zNE K l){a:Addr}{fd:FuncData}(e:l.lookup a=some fd):FnAt K a fd:=by
 induction l with
 | nil=>exact noS e
 | cons p l ih=>
  rcases zAi e with rfl | e
  ·refine zF h.1.2 fun h1 h2=>?_
   refine zF h2 fun h3 h2=>?_;refine zF h2 fun h4 h2=>?_;refine zF h2 fun h5 h2=>?_;refine zF h2 fun h6 h2=>?_;refine zF h2 fun h7 h8=>?_;exact ⟨zOe h.1.1,h1,(Bx _).mp h3,(Bx _).mp h4,Bo h5,Bo h6,Bo h7,Br.mp h8⟩
  ·exact ih h.2 e
noncomputable def zMm(o:Obj):Nat:=match o.data with
 | .dict _ n=>n
 | .set _ n _=>n
 | .seq _ n=>n
 | _=>0
noncomputable def yAD(v:Value):Bool:=zLb v || zLn v
theorem zVw{ρ:List Addr}{h:Heap}{v:Value}(l:yAD v=true):VR ρ h (zNb v) v:=by
 rcases CI.mp l with l | l
 ·obtain ⟨_,_,rfl⟩:=inV l; exact vZ
 ·obtain ⟨_,_,rfl⟩:=stV l; exact yL
noncomputable def zRd(l:List DictEntry):Bool:=l.all fun e=>yAD e.val
noncomputable def zPP(h:Int):Value->Bool
 | .int k _=>decide (h=hashInt k)
 | _=>false
theorem zIK{h:Int}{v:Value}(e:zPP h v=true):∃k t,v= .int k t/\h=hashInt k:=by
 cases v with
 | int=>exact ⟨_,_,rfl,of_decide_eq_true e⟩
 | _=>exact noB e
noncomputable def zZu(l:List DictEntry):Bool:=l.all fun e=>zPP e.hash e.key
section
variable{prog:Program}{w:World}{K:Frag}{a:Addr}{o:Obj}
theorem zLG{p q:DictEntry->Bool}{l:List DictEntry}(hl:zRd l=true)(e:∀x,p x=q x)(ρ:List Addr)(h:Heap):OR ρ h ((l.find? p).map fun e=>zNb e.val) ((l.find? q).map (·.val)):=by
 rw [show p=q from funext e];cases hf:l.find? q with
 | none=>exact trivial
 | some x=>exact zVw (BV.mp hl x (List.mem_of_find?_eq_some hf))
theorem zZi(hl:K.lookup a=some ⟨.type "dict",none,.dict (kA o).toArray (zMm o),#[]⟩)(hk:KeysLit w.params (kA o))(hv:zRd (kA o)=true)(k:Str):
  ∀h,K.In h->∃f,h.MapOf (strKind prog w) a f/\∀ρ h',OR ρ h' (((kA o).find? fun e=>isS k e.key).map fun e=>zNb e.val) (f k):=fun h X=>
 ⟨_,mapOf_K X hl (by simpa using hk),fun ρ h'=>by
  unfold findBy;rw [List.find?_toArray];exact zLG hv (fun x=>zWp k x.key) ρ h'⟩
theorem yAy(hl:K.lookup a=some ⟨.type "dict",none,.dict (kA o).toArray (zMm o),#[]⟩)(hk:zZu (kA o)=true)(hv:zRd (kA o)=true)(k:Int):
  ∀h,K.In h->∃f,h.MapOf (intKind prog w) a f/\∀ρ h',OR ρ h' (((kA o).find? fun e=>isI k e.key).map fun e=>zNb e.val) (f k):=fun h X=>
 ⟨_,⟨_,_,_,X _ _ hl,⟨rfl,rfl,rfl⟩,rfl,fun e he=>by
  obtain ⟨k,t,h1,h2⟩:=zIK (BV.mp hk e (by simpa using he));exact ⟨k,by rw [h1]; exact beq_self_eq_true k,h2⟩,fun _=>rfl⟩,fun ρ h'=>by
  unfold findBy;rw [List.find?_toArray];exact zLG hv (fun x=>zRu k x.key) ρ h'⟩
noncomputable def yBT(l:List (Int×Value)):Bool:=l.all fun e=>zPP e.1 e.2
noncomputable def yDh(o:Obj):Option SetTable:=match o.data with
 | .set _ _ t=>some t
 | _=>none
theorem yAT{t:SetTable}(hl:K.lookup a=some ⟨.type "set",none,.set (zHE o).toArray (zMm o) t,#[]⟩)(hk:yBT (zHE o)=true)(hz:(decide ((zHE o).length < scanBound) && t.fits (zHE o).length)=true)(k:Int):
  ∀h,K.In h->∃S n,h.SetOf (intKind prog w) a S n/\S k=(zHE o).any fun e=>isI k e.2:=fun h X=>by
 refine zF hz fun z1 z2=>?_;refine ⟨fun k=>(zHE o).any fun e=>isI k e.2,(zHE o).length,⟨_,_,_,t,X _ _ hl,⟨rfl,rfl,rfl⟩,rfl,fun e he=>?_,fun k=>?_,by simpa using of_decide_eq_true z1,by simpa using z2,by simp⟩,rfl⟩
 ·obtain ⟨k,t,h1,h2⟩:=zIK (BV.mp hk e (by simpa using he))
  exact ⟨⟨k,by rw [h1]; exact beq_self_eq_true k,h2⟩,by rw [h1]; rfl⟩
 ·simp only [Ci,zRu]
  exact Iff.rfl
noncomputable def zYg(K:Frag)(C:Addr)(n:Str)(f:Option Addr):Bool:=match f with
 | some f=>zUu K C n f
 | none=>zLY K C n
noncomputable def zCG(K:Frag):List (Addr×List (Str×Option Addr))->Prop
 | []=>True
 | p::r=>p.2.all (fun x=>zYg K p.1 x.1 x.2)=true/\zCG K r
theorem zWz{α:Type}{f:Str×α->Bool}{l:List (Str×α)}(h:l.all f=true){x:Str}{v:α}(e:lkS l x=some v):f (x,v)=true:=by
 induction l with
 | nil=>exact noS e
 | cons p l ih=>
  refine zF ((D7).symm.trans h) fun h1 h2=>?_;have e:(match eqS x p.1 with | true=>some p.2 | false=>lkS l x)=some v:=e;cases hq:eqS x p.1 with
  | true=>rw [hq] at e; cases e; rw [(yI _ _).mp hq]; exact h1
  | false=>rw [hq] at e; exact ih h2 e
theorem zJx{L:List (Addr×List (Str×Option Addr))}(h:zCG K L){C:Addr}{l:List (Str×Option Addr)}(e:L.lookup C=some l):l.all (fun x=>zYg K C x.1 x.2)=true:=by
 induction L with
 | nil=>exact noS e
 | cons p L ih=>
  rcases zAi e with rfl | e
  ·exact h.1
  ·exact ih h.2 e
theorem zYu{L:List (Addr×List (Str×Option Addr))}(H:zCG K L){T:zCu}(hT:∀C n,T C n=(L.lookup C).bind fun l=>lkS l n):ClsOK K T:=by
 have z:∀C n f,T C n=some f->zYg K C n f=true:=fun C n f h=>by
  rw [hT] at h;refine zJ h fun l hl h=>?_;exact zWz (zJx H hl) h
 exact ⟨fun C n h=>z C n _ h,fun C n f h=>z C n _ h⟩
noncomputable def zL8(K:Frag):List (Addr×FuncData)->Prop
 | []=>True
 | p::r=>(keepIn K (.ref p.1) && fnIn K p.1)=true/\zL8 K r
theorem zFn{l:List (Addr×FuncData)}(h:zL8 K l):∀p∈l,keepIn K (.ref p.1)=true/\fnIn K p.1=true:=by
 induction l with
 | nil=>exact fun _ m=>absurd m Ba
 | cons q l ih=>exact fun p m=>(Bl.mp m).elim (fun e=>e▸Bd.mp h.1) (ih h.2 p)
structure MkAt(K:Frag)(C f:Addr):Prop where
 mks:makesIn K C=true
 ini:findIn K (.ref C) "__init__"=some (some (.ref f))
 ty:typeIn K (.ref f)=some (.type "function")
 kp:keepIn K (.ref C)=true
noncomputable def zIV(K:Frag):List (Addr×Addr)->Prop
 | []=>True
 | p::r=>MkAt K p.1 p.2/\zIV K r
theorem zMH{l:List (Addr×Addr)}(h:zIV K l):∀p∈l,MkAt K p.1 p.2:=by
 induction l with
 | nil=>exact fun _ m=>absurd m Ba
 | cons q l ih=>exact fun p m=>(Bl.mp m).elim (fun e=>e▸h.1) (ih h.2 p)
theorem zSe{F:List (Addr×FuncData)}{L:List (Addr×Addr)}(H:zL8 K F)(H2:zIV K L):KeepOK K (fun a=>F.any (fun p=>p.1==a) || L.any (fun p=>p.1==a)) (fun a=>F.any (fun p=>p.1==a)):=by
 refine ⟨fun a h=>?_,fun a h=>?_⟩
 ·rcases CI.mp h with h | h
  ·obtain ⟨p,hp,e⟩:=Ci.mp h
   exact Bo e▸(zFn H p hp).1
  ·obtain ⟨p,hp,e⟩:=Ci.mp h
   exact Bo e▸(zMH H2 p hp).kp
 ·obtain ⟨p,hp,e⟩:=Ci.mp h
  exact Bo e▸(zFn H p hp).2
theorem zZU{L:List (Addr×Addr)}(H2:zIV K L):MakeOK K (fun a=>L.lookup a):=⟨fun C f h=>by
 induction L with
 | nil=>exact noS h
 | cons p L ih=>
  rcases zAi h with rfl | h
  ·exact ⟨H2.1.mks,H2.1.ini,H2.1.ty⟩
  ·exact ih H2.2 h⟩
theorem zDq{b:Bool}{x x' y y':Except String (Bool×Sre.Seen)}(h:zAw x=zAw y)(h':zAw x'=zAw y'):zAw (if b=true then x else x')=zAw (if b=true then y else y'):=by
 cases b with
 | true=>exact h
 | false=>exact h'
theorem zKg(code:Array Nat)(c:Nat)(fuel i:Nat)(yes:Bool)(s1 s2:Sre.Seen):zAw (EW code c fuel i yes s1)=zAw (EW code c fuel i yes s2):=by
 induction fuel generalizing i yes s1 s2 with
 | zero=>rfl
 | succ fuel ih=>
  conv=>lhs; arg 1; whnf
  conv=>rhs; arg 1; whnf
  generalize Sre.ops[(fun k:Nat=>code.getD (i + k) 0) 0]? =o;cases o with
  | none=>rfl
  | some o=>cases o with
   | FAILURE=>rfl
   | NEGATE=>exact ih ..
   | LITERAL=>exact zDq rfl (ih ..)
   | RANGE=>exact zDq rfl (ih ..)
   | RANGE_UNI_IGNORE=>exact zDq rfl (ih ..)
   | CATEGORY=>
    cases Sre.category (code.getD (i + 1) 0) c with
    | error e=>rfl
    | ok b=>cases b with
     | true=>rfl
     | false=>exact ih ..
   | CHARSET=>exact zDq rfl (ih ..)
   | BIGCHARSET=>exact zDq rfl (ih ..)
   | _=>rfl
theorem zJf(code:Array Nat):zAf code (zKK code):=fun c seen h=>by
 have e:=zKg code c code.size 5 true {} seen;have h:(match zAw (EW code c code.size 5 true {}) with | some b=>b | none=>true)=false:=h;rw [e] at h;cases hq:EW code c code.size 5 true seen with
 | error=>rw [hq] at h; exact noB h.symm
 | ok p=>rw [hq] at h; obtain ⟨b,s⟩:=p; cases (show b=false from h); exact ⟨s,rfl⟩
open Builtin.Re in
theorem zO4{oT:Obj}{T:Addr}{code:Array Nat}(e:K.lookup a=some ⟨.type "re.Pattern",none,.fields (zA7 o),#[]⟩)(h6:reRawNat ((zA7 o).getD 6 .none)=0)(h5:(zA7 o).getD 5 .none= .ref T)(eT:K.lookup T=some ⟨.type "tuple",none,.seq (zA7 oT) (zMm oT),#[]⟩)
  (hc:((zA7 oT).map reRawOf).map (·.toNat)=code) (hh:zFN code=true):zRz K a (zKK code):=⟨_,T,_,_,e,h6,h5,eT,hc.symm▸hh,hc.symm▸zJf code⟩
end
noncomputable def KX(b:Bool)(P:Params)(X:Frag):Frag:=KL b P ++ X
theorem yAi(b:Bool)(P:Params):zL0 (kA (zHP b P)) gT:=by
 unfold gT
 repeat (first | exact trivial | refine And.intro (by kernel_rfl) ?_)
theorem yAn(b:Bool)(P:Params):zK3 (kA (zHP b P)) (kA (tp1 P)) bT:=by
 unfold bT
 repeat (first | exact trivial | refine And.intro (And.intro (by kernel_rfl) (by kernel_rfl)) ?_)
theorem gl1(b:Bool)(P:Params)(X:Frag):GlOK (KX b P X) (cf b P).gl:=
 zZw (og:=zHP b P) (ob:=tp1 P) (by kernel_rfl) (by kernel_rfl) (by kernel_rfl) (by kernel_rfl) (by kernel_rfl) (by kernel_rfl) (yAi b P) (yAn b P)
theorem yCN(b:Bool)(P:Params)(X:Frag):∀h,(KX b P X).In h->h.NoLimit:=zXO (o:=tp3 P) (by kernel_rfl) (by kernel_rfl) (by kernel_rfl) (by kernel_rfl)
theorem fn1(b:Bool)(P:Params)(X:Frag):zNE (KX b P X) (fnT b P):=by
 unfold fnT
 repeat (first | exact trivial | refine And.intro ⟨by kernel_rfl,by kernel_rfl⟩ ?_)
theorem yCz(b:Bool)(P:Params)(X:Frag):zCG (KX b P X) zWE:=by
 unfold zWE
 repeat (first | exact trivial | refine And.intro (by kernel_rfl) ?_)
theorem kp1(b:Bool)(P:Params)(X:Frag):zL8 (KX b P X) (fnT b P):=by
 unfold fnT
 repeat (first | exact trivial | refine And.intro (by kernel_rfl) ?_)
theorem mk1(b:Bool)(P:Params)(X:Frag):zIV (KX b P X) zT4:=by
 unfold zT4
 repeat (first | exact trivial | refine And.intro ⟨by kernel_rfl,by kernel_rfl,by kernel_rfl,by kernel_rfl⟩ ?_)
noncomputable def zN9(v:Value):Option Str:=match v with
 | .str x _=>some x
 | _=>none
noncomputable def kOf(v:Value):Str:=(zN9 v).getD ""
theorem zJV{P:Params}{es:List DictEntry}(h1:es.map (·.hash)=es.map fun e=>DH P (kOf e.key))(h2:es.all (fun e=>(zN9 e.key).isSome)=true):KeysLit P es:=by
 induction es with
 | nil=>trivial
 | cons e es ih=>
  obtain ⟨i1,i2⟩:=Cc h1;refine zF ((D7).symm.trans h2) fun j1 j2=>?_;refine ⟨?_,ih i2 j2⟩;obtain ⟨hh,k,v⟩:=e;cases k with
  | str x t=>exact ⟨x,t,rfl,i1⟩
  | _=>exact noB j1
theorem zZC(b:Bool)(P:Params):KeysLit P (kA (vM b P)):=zJV (by kernel_rfl) (by kernel_rfl)
theorem xJ{α:Type}{b:Bool}{x y:α}{o:Option α}(h:(if b then some x else o)=some y):(b=true/\x=y)\/o=some y:=by
 cases b with
 | true=>exact .inl ⟨rfl,CR h⟩
 | false=>exact .inr h
theorem zZZ{prog:Program}{w:World}(b:Bool)(X:Frag):TabsOK prog w (KX b w.params X) (zY8 b w.params) where
 sg:=fun a k r h=>by
  rcases xJ h with ⟨ha,rfl⟩ | h
  ·obtain rfl:=Bo ha
   exact ⟨rfl,zZi (o:=vM b w.params) (by kernel_rfl) (zZC b w.params) (by kernel_rfl) k⟩
  ·exact noS h
 ig:=fun a k r h=>by
  rcases xJ h with ⟨ha,rfl⟩ | h
  ·obtain rfl:=Bo ha
   exact ⟨rfl,yAy (o:=uO b w.params) (by kernel_rfl) (by kernel_rfl) (by kernel_rfl) k⟩
  ·exact noS h
 ss:=fun a k r h=>by
  rcases xJ h with ⟨ha,rfl⟩ | h
  ·obtain rfl:=Bo ha
   exact yAT (o:=uF b w.params) (t:=((yDh (uF b w.params)).getD default)) (by kernel_rfl) (by kernel_rfl) (by kernel_rfl) k
  ·exact noS h
 dd:=fun a h=>by
  rcases CI.mp h with h | h
  ·obtain rfl:=Bo h
   exact ⟨(kA (vM b w.params)).toArray,zMm (vM b w.params),by kernel_rfl⟩
  ·obtain rfl:=Bo h
   exact ⟨(kA (uO b w.params)).toArray,zMm (uO b w.params),by kernel_rfl⟩
 pp:=fun a c h=>by
  rcases xJ h with ⟨ha,rfl⟩ | h
  ·obtain rfl:=Bo ha
   exact zO4 (o:=zFZ) (oT:=zHl) (T:=156) (by kernel_rfl) (by kernel_rfl) (by kernel_rfl) (by kernel_rfl) (by kernel_rfl) (by kernel_rfl)
  ·rcases xJ h with ⟨ha,rfl⟩ | h
   ·obtain rfl:=Bo ha
    exact zO4 (o:=zF8) (oT:=zGJ) (T:=161) (by kernel_rfl) (by kernel_rfl) (by kernel_rfl) (by kernel_rfl) (by kernel_rfl) (by kernel_rfl)
   ·exact noS h
noncomputable def isF(o:Obj):Bool:=match o.data with
 | .fields _=>true
 | _=>false
noncomputable def zLh(o:Obj):Bool:=isF o && (zLn ((zA7 o).getD 18 .none) && (zLb ((zA7 o).getD 7 .none) && (zUP ((zA7 o).getD 9 .none) && zLb ((zA7 o).getD 10 .none))))
theorem zZP{o:Obj}(h:isF o=true):o.data= .fields (zA7 o):=by
 obtain ⟨cls,dict,data,slots⟩:=o;cases data with
 | fields=>rfl
 | _=>exact noB h
theorem zMK{K:Frag}{h:Heap}(X:K.In h){c P:Addr}{o:Obj}(e:K.lookup c=some o)(hc:o.cls= .type "code")(hB:zLh o=true)(h11:(zA7 o)[11]? =some (.ref P))(hne:c≠P):CodeHd h c P:=by
 refine zF hB fun b1 hB=>?_;refine zF hB fun b2 hB=>?_;refine zF hB fun b3 hB=>?_;refine zF hB fun b4 b5=>?_;obtain ⟨_,_,h18⟩:=stV b2;obtain ⟨_,_,h7⟩:=inV b3;obtain ⟨_,h9⟩:=boV b4;obtain ⟨_,_,h10⟩:=inV b5;have h11':(zA7 o).getD 11 .none= .ref P:=by rw [Array.getD_eq_getD_getElem?,h11]; rfl
 exact ⟨o,zA7 o,_,_,_,_,_,_,_,X _ _ e,hc,zZP b1,h11,h11',h18,h7,h9,h10,hne⟩
theorem zWw{K:Frag}{c P bm:Addr}{o og ob:Obj}(e:K.lookup c=some o)(hc:o.cls= .type "code")(hB:zLh o=true)(h11:(zA7 o)[11]? =some (.ref P))(hne:c≠P)
  (e1:K.lookup mainGlobals=some og) (d1:zA1 og=true) (k1:zH6 (kA og)=true) (hb:nsF (kA og) "__builtins__"=some (.ref bm)) (n1:bm≠builtinsNs) (n2:bm≠mainGlobals) (n3:bm≠P)
  (e2:K.lookup bm=some ob) (c2:ob.cls= .type "module") (c3:ob.dict=some builtinsNs) (c4:ob.data= .plain) (n4:mainGlobals≠P):LamOK K (fun v=>if v== .ref c then some P else none):=⟨fun v p h=>by
 rcases xJ h with ⟨hv,rfl⟩ | h
 ·exact ⟨c,Bo hv,fun h X=>⟨zMK X e hc hB h11 hne,_,kns X e1 d1 k1,⟨bm,ob,hb,n1,n2,n3,X _ _ e2,c2,c3,c4⟩,n4⟩⟩
 ·exact noS h⟩
theorem yDD(b:Bool)(P:Params)(X:Frag):LamOK (KX b P X) (cf b P).lt:=
 zWw (c:=329) (P:=325) (bm:=4) (o:=zGC b P) (og:=zHP b P) (ob:=tp5 P) (by kernel_rfl) (by kernel_rfl) (by kernel_rfl) (by kernel_rfl) (by decide) (by kernel_rfl) (by kernel_rfl) (by kernel_rfl) (by kernel_rfl) (by decide) (by decide) (by decide) (by kernel_rfl) (by kernel_rfl) (by kernel_rfl) (by kernel_rfl) (by decide)
noncomputable def zOc(n:Nat):List Value:=List.replicate n .none
noncomputable def Lxs:Nat->Nat->(List Value->Prop)->Prop
 | _,0,P=>P []
 | 0,h + 1,P=>P []/\∀x,Lxs 0 h fun l=>P (x::l)
 | l + 1,h + 1,P=>∀x,Lxs l h fun r=>P (x::r)
theorem zGo{l h:Nat}{P:List Value->Prop}(H:Lxs l h P){xs:List Value}(h1:l<=xs.length)(h2:xs.length<=h):P xs:=by
 induction h generalizing l P xs with
 | zero=>cases xs with
  | nil=>cases l with
   | zero=>exact H
   | succ l=>exact absurd h1 (Nat.not_succ_le_zero _)
  | cons=>exact absurd h2 (Nat.not_succ_le_zero _)
 | succ h ih=>cases l with
  | zero=>cases xs with
   | nil=>exact H.1
   | cons x xs=>exact ih (H.2 x) (Ca _) (Nat.le_of_succ_le_succ h2)
  | succ l=>cases xs with
   | nil=>exact absurd h1 (Nat.not_succ_le_zero _)
   | cons x xs=>exact ih (H x) (Nat.le_of_succ_le_succ h1) (Nat.le_of_succ_le_succ h2)
noncomputable def zPt(K:Frag)(fd:FuncData):Sh->Prop
 | .pos names dfl=>dfl.all (fun v=>v matches V.none)=true/\Lxs (names.length - dfl.length) names.length fun xs=>∀S,peek K S (bindArgs fd ⟨xs,[]⟩)=some (names.zip (xs ++ zOc (names.length - xs.length)))
 | .kwo names x=>Lxs names.length names.length fun xs=>∀S v,peek K S (bindArgs fd ⟨xs,[(x,v)]⟩)=some (names.zip xs ++ [(x,v)])
 | .star names x=>Lxs names.length names.length fun xs=>∀_:Nat,bindArgs fd ⟨xs,[]⟩=(do let d <-alloc {cls:= .type "dict",data:= .dict #[]}; pure (names.zip xs ++ [(x,.ref d)]))
theorem zP8{n a d:Nat}(h1:a<=n)(h2:n<=a + d):n - a=d - (a + d - n):=by
 obtain ⟨k,rfl⟩:=Nat.exists_eq_add_of_le h1;rw [Nat.add_sub_cancel_left,Nat.add_sub_add_left,Nat.sub_sub_self (Nat.le_of_add_le_add_left h2)]
noncomputable def zL7(K:Frag):List (Addr×FuncData)->List (Addr×Sh)->Prop
 | [],l'=>l'=[]
 | p::l,l'=>∃sh r,l'=(p.1,sh)::r/\zPt K p.2 sh/\zL7 K l r
theorem zNz{K:Frag}{l:List (Addr×FuncData)}{l':List (Addr×Sh)}(h:zL7 K l l'){a:Addr}{fd:FuncData}{sh:Sh}(e:l.lookup a=some fd)(e':l'.lookup a=some sh):zPt K fd sh:=by
 induction l generalizing l' with
 | nil=>exact noS e
 | cons p l ih=>
  obtain ⟨sh',r,rfl,g,h⟩:=h;have e:(match a==p.1 with | true=>some p.2 | false=>l.lookup a)=some fd:=e;have e':(match a==p.1 with | true=>some sh' | false=>r.lookup a)=some sh:=e';cases hx:a==p.1 with
  | true=>rw [hx] at e e'; cases e; cases e'; exact g
  | false=>rw [hx] at e e'; exact ih h e e'
section
variable{ρ:List Addr}{h:Heap}
theorem zBz{names:List Str}{l:List V}{xs:List Value}(r:VRs ρ h l xs):yB ρ h (names.zip l) (names.zip xs):=by
 induction names generalizing l xs with
 | nil=>exact ⟨rfl,vrs_nil'⟩
 | cons n ns ih=>cases l with
  | nil=>cases zW r; exact ⟨rfl,vrs_nil'⟩
  | cons v l=>
   obtain ⟨y,ys,rfl,ry,r⟩:=r;obtain ⟨i1,i2⟩:=ih r;exact ⟨congrArg (n::·) i1,⟨y,_,rfl,ry,i2⟩⟩
theorem zHK{α:Type}{l l':List (Str×α)}:zG (l ++ l')=zG l ++ zG l':=by
 induction l with
 | nil=>rfl
 | cons p l ih=>exact congrArg (p.1::·) ih
theorem zOw{l l':List (Str×V)}:zU (l ++ l')=zU l ++ zU l':=by
 induction l with
 | nil=>rfl
 | cons p l ih=>exact congrArg (p.2::·) ih
theorem zE7{k k':List (Str×V)}{l l':List (Str×Value)}(r:yB ρ h k l)(r':yB ρ h k' l'):yB ρ h (k ++ k') (l ++ l'):=
 ⟨by rw [zHK,zHK,r.1,r'.1],by rw [zOw,Bv]; exact r.2.append r'.2⟩
theorem zMW{l:List V}(z:l.all (fun v=>v matches V.none)=true):VRs ρ h l (zOc l.length):=by
 induction l with
 | nil=>exact vrs_nil'
 | cons v l ih=>
  refine zF ((D7).symm.trans z) fun h1 h2=>?_;cases v with
  | none=>exact ⟨.none,zOc l.length,rfl,qA,ih h2⟩
  | _=>exact noB h1
theorem zOu{α:Type}{f:α->Bool}{l:List α}(h:l.all f=true)(n:Nat):(l.drop n).all f=true:=BV.mpr fun x hx=>BV.mp h x (List.mem_of_mem_drop hx)
end
theorem zSa{prog:Program}{w:World}{K:Frag}{l:List (Addr×FuncData)}(A1:zL7 K l shT):∀a fd args kw b σ A4,l.lookup a=some fd->yAI a args kw σ=some (b,A4)->∀A ρ s xs xk,Inv K ρ σ s->VRs ρ s.heap args xs->yB ρ s.heap kw xk->
  ∀(Q:List (Str×Value)->Shared->Prop) (E:Value->Shared->Prop),(∀AC s' l,Inv K AC A4 s'->Ext ρ s AC s'->yB AC s'.heap b l->Q l s')->wpAny (model prog w) A (bindArgs fd ⟨xs,xk⟩) Q E s:=by
 intro a fd args kw b σ A4 hf hB A ρ s xs xk I rs rk Q E q;refine zJ hB fun sh hs hB=>?_;have G:=zNz A1 hf hs;have hl:=rs.length;cases sh with
 | pos names dfl=>
  rcases xJ hB with ⟨hc,e⟩ | h
  ·cases e
   refine zF hc fun hk hc=>?_;refine zF hc fun c1 c2=>?_;have c1:=of_decide_eq_true c1;have c2:=of_decide_eq_true c2;cases Br.mp hk;cases kH rk;refine (kp_binds I.stat (zGo G.2 (hl▸Nat.sub_le_of_le_add c2) (hl▸c1))) _ _ _ _ ?_;refine q ρ s _ I (.refl _ _) (zBz (rs.append ?_));have e:names.length - xs.length=(dfl.drop (args.length + dfl.length - names.length)).length:=by rw [List.length_drop,<-hl]; exact zP8 c1 c2
   rw [e];exact zMW (zOu G.1 _)
  ·exact noS h
 | kwo names x=>cases kw with
  | nil=>exact noS hB
  | cons p r=>
   rcases xJ hB with ⟨hc,e⟩ | h
   ·cases e
    refine zF hc fun hk hc=>?_;refine zF hc fun c1 c2=>?_;cases Br.mp hk;obtain ⟨p1,p2⟩:=p;obtain rfl:=(yI _ _).mp c2;obtain ⟨k1,y,ys,k2,ry,k3⟩:=rk;cases xk with
    | nil=>exact nomatch k1
    | cons z xk=>
     obtain ⟨e1,e2⟩:=Cc k1;obtain ⟨e3,e4⟩:=Cc k2;obtain ⟨z1,z2⟩:=z;cases zW k3;cases E6.mp e4;cases (show z1=p1 from e1);cases (show z2=y from e3);refine (kp_binds I.stat (fun S=>zGo G (D2 (hl▸(Bo c1).symm)) (D2 (hl▸Bo c1)) S _)) _ _ _ _ ?_;exact q ρ s _ I (.refl _ _) (zE7 (zBz rs) ⟨rfl,VRs.one ry⟩)
   ·exact noS h
 | star names x=>
  rcases xJ hB with ⟨hc,e⟩ | h
  ·cases e
   refine zF hc fun hk hc=>?_;cases Br.mp hk;cases kH rk;rw [zGo G (D2 (hl▸(Bo hc).symm)) (D2 (hl▸Bo hc)) 0];have x:=I.alloc (o:={cls:= .type "dict",data:= .dict #[]}) (ob:= .dict []) s.toks ⟨_,[],Bf _ rfl,vrs_nil',[],0,rfl,rfl⟩;exact BK (wpAny_alloc (BM (q _ _ _ x.1 x.2 (zE7 (zBz (rs.ext x.2)) ⟨rfl,VRs.one ⟨_,I.last _,rfl⟩⟩))))
  ·exact noS h
theorem bd1(b:Bool)(P:Params)(X:Frag):zL7 (KX b P X) (fnT b P) shT:=by
 unfold fnT shT
 repeat (first | exact rfl | (refine ⟨_,_,rfl,?_,?_⟩; rotate_left))
 all_goals (repeat' first | intro _ | apply And.intro)
 all_goals kernel_rfl
theorem zV9(b:Bool)(P:Params)(X:Frag):(noSeq (KX b P X) 291 && findIn (KX b P X) (.ref 291) "__delitem__"==some (some (.ref 211)) && typeIn (KX b P X) (.ref 211)==some (.type "function"))=true:=by kernel_rfl
theorem yDo(b:Bool)(P:Params)(X:Frag):DelOK (KX b P X) (cf b P).dl where
 del:=fun C f h=>by
  have h:(if C==291 then some 211 else none)=some f:=h;split at h
  ·rename_i hc
   cases Bo hc;cases h;refine zF (zV9 b P X) fun h1 h3=>?_;refine zF h1 fun h1 h2=>?_;exact ⟨h1,Bo h2,Bo h3⟩
  ·exact noS h
noncomputable def cfF(b:Bool)(P:Params)(isF:Addr->Bool)(F:Addr->List V->Sto->Option (V×Sto))(n:Nat):Cf:={cf b P with isF:=isF,F:=F,orcN:=n}
theorem zNt{prog:Program}{w:World}{b:Bool}{iF:Addr->Bool}{F:Addr->List V->Sto->Option (V×Sto)}{n:Nat}{X:Frag}(hc:∀a,iF a=true->zCb prog w (KX b w.params X) n a (F a)):CfOK prog w (KX b w.params X) (cfF b w.params iF F n) where
 G:=gl1 b w.params X
 F:=⟨fun a fd h=>zNX (fn1 b w.params X) h,yCN b w.params X,zSa (bd1 b w.params X)⟩
 T:=zYu (yCz b w.params X) fun _ _=>rfl
 D:=zZZ b X
 keep:=zSe (kp1 b w.params X) (mk1 b w.params X)
 ini:=zZU (mk1 b w.params X)
 lam:=yDD b w.params X
 sm:=by kernel_rfl
 hs:=rfl
 dl:=yDo b w.params X
 con:=hc
noncomputable def inH(h:Heap):List (Addr×Obj)->Prop
 | []=>True
 | p::r=>h.get? p.1=some p.2/\inH h r
theorem zXa{h:Heap}{l:List (Addr×Obj)}(x:inH h l){a:Addr}{o:Obj}(e:l.lookup a=some o):h.get? a=some o:=by
 induction l with
 | nil=>exact noS e
 | cons p l ih=>
  rcases zAi e with rfl | e
  ·exact x.1
  ·exact ih x.2 e
theorem zZB(P:Params):inH (H1 P) (KL (P.followText "set-order") P):=by
 unfold KL
 repeat (first | exact trivial | refine And.intro (by kernel_rfl) ?_)
noncomputable def zLM(v:Value):Bool:=match v with
 | .type t=>!(t=="list")
 | _=>true
theorem yBN(b:Bool)(P:Params):(KL b P).all (fun p=>zLM p.2.cls)=true:=by kernel_rfl
theorem zTV{f:Obj->Bool}{l:List (Addr×Obj)}(h:l.all (fun p=>f p.2)=true){a:Addr}{o:Obj}(e:l.lookup a=some o):f o=true:=by
 induction l with
 | nil=>exact noS e
 | cons p l ih=>
  refine zF ((D7).symm.trans h) fun h1 h2=>?_;rcases zAi e with rfl | e
  ·exact h1
  ·exact ih h2 e
theorem zWN(b:Bool)(P:Params):Co 325 (KL b P)=none:=by kernel_rfl
theorem zJB(P:Params):(H1 P).get? 325=some {cls:= .none,data:= .fields #[]}:=by kernel_rfl
theorem zSd{xs:List WData}(h:WShape.hasItems [] xs .int=true):∃l:List Int,xs=l.map .int:=by
 induction xs with
 | nil=>exact ⟨[],rfl⟩
 | cons x xs ih=>
  unfold WShape.hasItems at h;refine zF h fun h1 h2=>?_;obtain ⟨l,rfl⟩:=ih h2;cases x with
  | int i=>exact ⟨i::l,rfl⟩
  | _=>exact nomatch (show false=true from h1)
theorem zIP{cl:Str->Option Addr}{P:Params}{ord:List DictEntry->List DictEntry}{l:List Int}{s s':Shared}{vs:List Value}(h:layAllW [] cl P ord (l.map .int) s=some (vs,s')):(s'.heap=s.heap/\s.toks<=s'.toks)/\∀ρ h,VRs ρ h (l.map V.int) vs:=by
 induction l generalizing s vs with
 | nil=>
  simp only [List.map_nil,layAllW] at h;cases h;exact ⟨⟨rfl,CD _⟩,fun _ _=>vrs_nil'⟩
 | cons i l ih=>
  simp only [Cs,layAllW,layW] at h;split at h
  ·rename_i r hr
   cases h;obtain ⟨e,z⟩:=ih hr;exact ⟨⟨e.1,Bn (EL _) e.2⟩,fun ρ h=>⟨_,_,rfl,vZ,z ρ h⟩⟩
  ·exact noS h
noncomputable abbrev rw1:=DK
noncomputable def yDt(s:Shared):Heap×Bool:=(s.heap,Cn 0 s.toks)
theorem zUQ:LeftO pw qv zK6 XtL yDt (fun w=>(H1 w.params,true)) 40000:=
 LeftO.of_pieces zVJ szs yCy (by decide +kernel) fun w=>by
  funext os
  rw [yAH,zZQ];rfl
theorem xtl{s:Shared}(e:XtL s=true):XL qv [] (s.heap.nsMap mainGlobals) s.heap/\RecFacts [] s.heap:=⟨xl_of s (Bd.mp e).1,recFacts_of (Bd.mp e).2⟩
theorem zKr{d:DefRec}{kwd:List (Str×Expr)}(hdef:defOf qv rw1.row.name=some (d,kwd))(hp:pw.theDef rw1.row.name=some (d.params,d.body,d.scope))(hk:kwWritten? d.params.kwonlyargs d.params.kw_defaults=some kwd)
  (said:rw1.row.wellSaid=true) (hw:rw1.row.toRowW.promised)
  (call:∀(w:World) (AD A6:Shared) (mg:Str->Option Value),A6.heap.Ns mainGlobals mg->Hk.says w A6.heap->0 < AD.toks->∀a,mg rw1.row.name=some (.ref a)->∀(args:List WData) (vs:List Value) (as:List Addr),
   rw1.row.claim.pre args=true->WData.layableAll args=true->Laid rw1.row.records w AD A6 args vs as->
   wpAny (model pw w) callerA (PySem.call (.ref a) vs) (fun v s'=>GoodWG rw1.row.claim (classAt AD.heap) (ExcName.means AD.heap) args A6 (.ok (.ret v)) s')
    (fun e s'=>GoodWG rw1.row.claim (classAt AD.heap) (ExcName.means AD.heap) args A6 (.error e) s') A6):rw1.row.Holds:=by
 have ok:(chainsOk qv && opensWell rw1.row.prog && (frees rw1.row.toRowW && rw1.row.within.isEmpty))=true:=by decide +kernel
 refine zF ok fun ok1 ok2=>?_;refine zF ok1 fun hch hop=>?_;refine zF ok2 fun hfr hwi=>?_;obtain ⟨hsame,hu,ha,hap,hm⟩:=frees_parts hfr;refine ⟨said,hw,⟨⟨⟨rfl,rfl,rfl,rfl,rfl,by decide +kernel⟩,hop,rfl⟩,hw.witness,fun w=>⟨(zUQ.behind (fun s e=>(xtl e).1) hch w).1,fun s' hs'=>?_⟩⟩⟩;obtain ⟨AD,hf,hg0,s,hT,hz,hgens,hg,G,y⟩:=(zUQ.behind (XP:=fun mg h=>XL qv [] mg h/\RecFacts [] h) (fun s e=>xtl e) hch w).2 s' hs';have G0:Ground qv zK6 [] (XL qv []) w s (s.heap.nsMap mainGlobals) (s.heap.nsMap builtinsNs) s.heap:=⟨G.T,G.B,G.D,G.TE,G.TD,G.W,G.X.1,G.cls,G.has,G.apart,G.once,G.K⟩;obtain ⟨yh,yt⟩:=Prod.mk.inj y;refine ⟨AD,hf,hg0,s,hT,fun n hn=>?_,G.X.2.1,G.X.2.2.1,ClaimW.callFrom_of_specG (c:=rw1.row.claim) hz (Dk (beq_iff_eq.mp hgens)) fun args hpre hlay ord hord=>?_⟩
 ·obtain rfl:n=rw1.row.name:=by split at hn <;>simp_all
  exact pinned_of_view hg G0 hdef hp hk
 ·obtain ⟨⟨vs,A6⟩,hl⟩:=CW.mp (layAllW_isSome (P:=w.params) (ord:=ord) (G.X.2.ground G0).has args rw1.row.args s (pre_splitW hpre).1)
  have kp:=layAllW_keeps _ _ _ hl;have rs:=layAllW_rest _ _ _ hl;obtain ⟨as,r1,r2,r3⟩:=reads_layAllW hord _ _ _ hl hlay A6.heap fun _ _ e=>e;have L:Laid rw1.row.records w s A6 args vs as:=⟨⟨ord,hord,hl⟩,r1,r2,r3,kp,rs.1.trans (Dk (beq_iff_eq.mp hgens)),rs.2.2.1⟩;have B2:=(G.X.2.ground G0).keeps XL.keeps kp;obtain ⟨a,o,pm,cd,doc,dV,kV,h1,_⟩:=B2.fn hdef;have fin:∀{r:Result} {s':Shared},GoodWG rw1.row.claim (classAt s.heap) (ExcName.means s.heap) args A6 r s'->_:=fun g=>g.laid (c:=rw1.row.claim) hsame (Br.mp hwi) (ident_freeW hu ha hap) L;refine ⟨vs,A6,hl,BK (wpAny_nsGet B2.T.g ?_)⟩;rw [show s.heap.nsMap mainGlobals rw1.row.name=_ from h1];exact BK (C7 (call w s A6 _ B2.T.g (fun b o e=>kp b o (yh▸e)) (DM.mp yt) a (defOf_name hdef▸h1) args vs as hpre hlay L)
   (fun v s' g=>BM ⟨_,rfl,(fin g).1,(fin g).2.1,(fin g).2.2,fun q=>⟨namesKept_of hT hg _ kp g.2.1.old,noTable (by rfl) q⟩⟩)
   fun e s' g=>⟨(fin g).1,(fin g).2.1,(fin g).2.2,fun q=>⟨namesKept_of hT hg _ kp g.2.1.old,noTable (by rfl) q⟩⟩)
theorem zWO{h:Heap}{a:Addr}{m m':Str->Option Value}(x:h.Ns a m)(y:h.Ns a m'):m=m':=by
 obtain ⟨o,es,ep,e1,e2,_,e4⟩:=x;obtain ⟨o',es',ep',f1,f2,_,f4⟩:=y;cases e1.symm.trans f1;cases e2.symm.trans f2;exact funext fun n=>(e4 n).symm.trans (f4 n)
noncomputable abbrev zPL(vs:Array Value):Obj:=⟨.type "list",none,.seq vs 0,#[]⟩
noncomputable def zIH(la:Addr)(vs:Array Value):Frag:=[(la,zPL vs)]
theorem ws:OpenLaw.wellSaid DK=true:=by kernel_rfl
theorem zCM{w:World}{h:Heap}(Y:Hk.says w h):(KL (bO w) w.params).In h:=fun a o e=>Y a o (zXa (zZB _) e)
theorem zWf{w:World}{h:Heap}{mg:Str->Option Value}{a:Addr}(Y:Hk.says w h)(hg:h.Ns mainGlobals mg)(hm:mg rw1.row.name=some (.ref a)):a=362:=by
 have e:=zWO hg (kns (o:=zHP (bO w) w.params) (zCM Y) (by kernel_rfl) (by kernel_rfl) (by kernel_rfl));rw [e] at hm;have g4:nsF (kA (zHP (bO w) w.params)) "law"=some (.ref 362):=by kernel_rfl
 cases g4.symm.trans hm;rfl
theorem zPC{args:List WData}(h:rw1.row.claim.pre args=true):∃l:List Int,args=[.list (l.map .int)]/\WTm.holds [] (.and (.not (.lt (.lit (.int 63)) (.len (.arg 0)))) (.lit (.bool true))) {args:=[.list (l.map .int)]}=true:=by
 obtain ⟨p1,p2⟩:=pre_splitW h;obtain ⟨x,r,rfl,p3,p4⟩:=hasAllW_cons p1;cases r with
 | cons=>exact nomatch (show false=true from p4)
 | nil=>cases x with
  | list xs=>
   have z:(WShape.hasItems [] xs .int || false)=true:=p3;rw [Bool.or_false] at z;obtain ⟨l,rfl⟩:=zSd z;exact ⟨l,rfl,p2⟩
  | _=>exact nomatch (show false=true from p3)
theorem zTe{l:List Int}(h:WTm.holds [] (.and (.not (.lt (.lit (.int 63)) (.len (.arg 0)))) (.lit (.bool true))) {args:=[.list (l.map .int)]}=true):l.length<=63:=by
 have z:WTm.value [] (.lt (.lit (.int 63)) (.len (.arg 0))) {args:=[.list (l.map .int)]}=some (.bool (decide ((63:Int) < ((l.map WData.int).length:Int)))):=rfl;have z2:WTm.value [] (.not (.lt (.lit (.int 63)) (.len (.arg 0)))) {args:=[.list (l.map .int)]}=some (.bool (!decide ((63:Int) < ((l.map WData.int).length:Int)))):=by
  unfold WTm.value; rw [z]
 have e:WTm.value [] (.and (.not (.lt (.lit (.int 63)) (.len (.arg 0)))) (.lit (.bool true))) {args:=[.list (l.map .int)]}=some (.bool (!decide ((63:Int) < ((l.map WData.int).length:Int)))):=by
  unfold WTm.value;rw [z2];cases decide ((63:Int) < ((l.map WData.int).length:Int)) <;>rfl
 unfold WTm.holds at h;rw [e,BW] at h;refine Int.ofNat_le.mp (ET.mp fun hz=>?_);rw [decide_eq_true (show (63:Int) < (l.length:Int) from hz)] at h;exact nomatch h
theorem zTx{cl:Str->Option Addr}{P:Params}{ord:List DictEntry->List DictEntry}{l:List Int}{s A6:Shared}{vs:List Value}(h:layAllW [] cl P ord [.list (l.map .int)] s=some (vs,A6)):
  ∃(s':Shared) (r1:List Value),vs=[.ref s'.heap.objs.size]/\A6={s' with heap:=s'.heap.push (zPL r1.toArray)}/\s.toks<=s'.toks/\∀ρ h,VRs ρ h (l.map V.int) r1:=by
 simp only [layAllW,layW] at h;cases hz:layAllW [] cl P ord (l.map .int) s with
 | none=>rw [hz] at h; exact noS h
 | some r=>
  rw [hz] at h;obtain ⟨r1,s'⟩:=r;cases h;exact ⟨s',r1,rfl,rfl,(zIP hz).1.2,(zIP hz).2⟩
structure Scr(w:World)(s:Shared)(la:Addr)(vs:Array Value):Prop where
 at':s.heap.get? la=some (zPL vs)
 Y:Hk.says w s.heap
 gens:s.gens=#[]
section
variable{w:World}{s:Shared}{la:Addr}{vs:Array Value}
theorem zQS(S:Scr w s la vs):Co la (KL (bO w) w.params)=none:=by
 cases hk:Co la (KL (bO w) w.params) with
 | none=>rfl
 | some o'=>
  cases (zCM S.Y _ _ hk).symm.trans S.at';exact nomatch (show false=true from zTV (f:=fun o=>zLM o.cls) (yBN (bO w) w.params) hk)
theorem zVF(S:Scr w s la vs):la≠325:=fun e=>by
 have z:=S.at';rw [e] at z;exact nomatch (S.Y _ _ (zJB w.params)).symm.trans z
theorem zYk(S:Scr w s la vs):(KX (bO w) w.params (zIH la vs)).In s.heap:=fun a o e=>by
 unfold KX at e;rw [List.lookup_append] at e;cases hk:Co a (KL (bO w) w.params) with
 | some o'=>rw [hk] at e; cases e; exact zCM S.Y _ _ hk
 | none=>
  rw [hk] at e;rcases zAi (l:=[]) (show Co a [(la,zPL vs)]=some o from e) with z | z
  ·cases z; exact S.at'
  ·exact noS z
theorem zUd(S:Scr w s la vs):Inv (KX (bO w) w.params (zIH la vs)) [325] [.ctab 325 false] s:=
 ⟨rfl,Dg _ _,fun i a ob h1 h2=>by
  cases i with
  | zero=>cases h1; cases h2; exact ⟨_,[],S.Y _ _ (zJB w.params),vrs_nil',#[],rfl,rfl,fun _=>rfl⟩
  | succ=>exact noS h1,zYk S,fun a m=>by
  cases BP.mp m;unfold KX zIH;rw [List.lookup_append,zWN,CX,beq_eq_false_iff_ne.mpr (zVF S).symm];rfl,S.gens⟩
end
theorem zHW(H:∀(w:World) (l:List Int) (la:Addr) (vs:Array Value),l.length<=63->(∀ρ h,VRs ρ h (l.map V.int) vs.toList)->Co la (KL (bO w) w.params)=none->∃iF F n N m AA,(∀a,iF a=true->zCb pw w (KX (bO w) w.params (zIH la vs)) n a (F a))/\Rm callerA (2 * N + 5)/\
  run ((evK (cfF (bO w) w.params iF F n) N).c (.val (.ref 362)) [.val (.ref la)] [] [.ctab 325 false] .done)=some (.bool true,AA)/\AA[0]? =some (.ctab 325 m)):DK.Holds:=by
 refine holds_law ws fun said=>?_;refine zKr (by rfl) (by rfl) (by rfl) (by assumption) ⟨[.list []],by decide +kernel,by decide +kernel⟩ ?_;intro w AD A6 mg hg Y h0t a hm args vs as hpre hlay L;obtain rfl:=zWf Y hg hm;obtain ⟨l,rfl,hp⟩:=zPC hpre;obtain ⟨ord,_,hl⟩:=L.laid;obtain ⟨s',r1,rfl,rfl,htk,e2⟩:=zTx hl;have S:Scr w {s' with heap:=s'.heap.push (zPL r1.toArray)} s'.heap.objs.size r1.toArray:=⟨Bf _ rfl,Y,L.gens⟩;obtain ⟨iF,F,n,N,m,AA,hc,hR,he,h0⟩:=H w l s'.heap.objs.size r1.toArray (zTe hp) e2 (zQS S);refine (zMf (zNt (prog:=pw) hc) N).c (.val (.ref 362)) [.val (.ref s'.heap.objs.size)] [] _ callerA [325] _ (.ref 362) [.ref s'.heap.objs.size] [] hR (zUd S) kG (VRs.one kG) ⟨rfl,vrs_nil'⟩ (CV h0t htk) _ _ he _ _ fun v A4 AC s'' x hk I' X' _ rx=>?_;cases hk;cases vrB rx;have k0:∃ps,s''.heap.get? 325=some {cls:= .none,data:= .fields ps}:=by
  obtain ⟨ls,hls⟩:=X'.pre;obtain ⟨o,xs,q,_,ps,_,rfl,_⟩:=I'.obs 0 325 _ (by rw [hls]; rfl) h0;exact ⟨ps,q⟩
 obtain ⟨ps,k0⟩:=k0;refine ⟨.inl ⟨.bool true,.bool true,[],rfl,fun cls=>rfl,.bool true,by exact (postW_of (r:=rw1.row.toRowW) rfl rfl (by decide +kernel)),fun _=>⟨CH,fun _ h=>absurd h Ba⟩⟩,⟨fun b o e=>?_,fun b o e=>?_⟩,X'.os,.of_eq I'.gens⟩
 ·by_cases hb:b=325
  ·subst hb
   cases (S.Y _ _ (zJB w.params)).symm.trans e;have k1:(KL (bO w) w.params).lookup 329=some (zGC (bO w) w.params):=by kernel_rfl
   exact .inr (.inl ⟨⟨329,_,_,zCM S.Y _ _ k1,by kernel_rfl,zZP (by kernel_rfl),by kernel_rfl⟩,rfl,#[],ps,rfl,by rw [k0]; simp⟩)
  ·exact .inl (X'.keep b o (fun m=>hb (BP.mp m)) e)
 ·by_cases hb:b=325
  ·subst hb
   exact ⟨_,k0⟩
  ·exact ⟨o,X'.keep b o (fun m=>hb (BP.mp m)) e⟩
noncomputable def zAz:List Nat:=[0,1,2,3,4,5,6,7,8,9,10,11,12,13,14,15,16,17,18,19,20,21,22,23,24,25,26,27,28,29,30,31,32,33,34,35,36,37,38,39,40,41,42,43,44,45,46,47,48,49,50,51,52,53,54,55,56,57,58,59,60,61,62,63]
noncomputable def zLP(x:Int):List Int->Nat->List Int
 | [],_=>[]
 | c::l,0=>(c + x)::l
 | c::l,k + 1=>c::zLP x l k
theorem zEH(x:Int):∀(l:List Int) (k:Nat),(zLP x l k).length=l.length
 | [],_=>rfl
 | _::_,0=>rfl
 | c::l,k + 1=>congrArg (· + 1) (zEH x l k)
noncomputable def csN(a:Nat->Int)(n:Nat):List Int:=(zAz.take n).foldl (fun cs i=>zLP (Int.fmod (a i) (10 ^ Int.toNat 9)) cs (i % 5)) [23376,14557,264870,69590,759903]
theorem zRR(a:Nat->Int)(n:Nat):(csN a n).length=5:=by
 have key:∀(l:List Nat) (cs:List Int),(l.foldl (fun cs i=>zLP (Int.fmod (a i) (10 ^ Int.toNat 9)) cs (i % 5)) cs).length=cs.length:=by
  intro l
  induction l with
  | nil=>intro cs; rfl
  | cons i l ih=>intro cs; rw [List.foldl_cons,ih,zEH]
 exact key _ _
noncomputable def ceL(p n:Nat)(b:Bool)(P:Params)(m:Bool)(a:Nat->Int):List (Option (V×Sto)):=((zAz.drop p).take n).map fun n=>evC (cf b P) 20 (.val (.ref 302)) [.lst ((zAz.take n).map fun i=> .int (a i))] [] [.ctab 325 m]
noncomputable def ceR(p n:Nat)(m:Bool)(a:Nat->Int):List (Option (V×Sto)):=((zAz.drop p).take n).map fun n=>some (.trk 1,[.ctab 325 m,.list ((csN a n).map .int)])
theorem yCP{b:Bool}{P:Params}{m:Bool}{a:Nat->Int}:ceL 0 20 b P m a=ceR 0 20 m a:=by kernel_rfl
theorem yCr{b:Bool}{P:Params}{m:Bool}{a:Nat->Int}:ceL 20 12 b P m a=ceR 20 12 m a:=by kernel_rfl
theorem yDJ{b:Bool}{P:Params}{m:Bool}{a:Nat->Int}:ceL 32 12 b P m a=ceR 32 12 m a:=by kernel_rfl
theorem yDB{b:Bool}{P:Params}{m:Bool}{a:Nat->Int}:ceL 44 10 b P m a=ceR 44 10 m a:=by kernel_rfl
theorem yDz{b:Bool}{P:Params}{m:Bool}{a:Nat->Int}:ceL 54 10 b P m a=ceR 54 10 m a:=by kernel_rfl
theorem zPs:∀n,n < 64->n∈(zAz.drop 0).take 20\/n∈(zAz.drop 20).take 12\/n∈(zAz.drop 32).take 12\/n∈(zAz.drop 44).take 10\/n∈(zAz.drop 54).take 10:=by decide +kernel
theorem zNp:∀n,n < 64->zAz.take n=zAn 0 n:=by decide +kernel
theorem zOO(b:Bool)(P:Params)(m:Bool)(l:List Int)(h:l.length<=63):∃cs:List Int,cs.length=5/\evC (cf b P) 20 (.val (.ref 302)) [.lst (l.map .int)] [] [.ctab 325 m]=some (.trk 1,[.ctab 325 m,.list (cs.map .int)]):=by
 have e:(zAz.take l.length).map (fun i=>V.int (l.getD i 0))=l.map .int:=by
  rw [zNp _ (by lia)];apply List.ext_getElem?;intro i;rw [Bc,Bc]
  by_cases h:i < l.length
  ·rw [uK l.length 0 i h,Bi h]
   simp [C0,Bi h]
  ·rw [C3 (by rw [zIr]; lia),C3 (by lia)]
   rfl
 refine ⟨csN (fun i=>l.getD i 0) l.length,zRR _ _,?_⟩;rw [<-e];rcases zPs l.length (by lia) with q | q | q | q | q
 ·exact BO.mp yCP _ q
 ·exact BO.mp yCr _ q
 ·exact BO.mp yDJ _ q
 ·exact BO.mp yDB _ q
 ·exact BO.mp yDz _ q
noncomputable def zA(l:List Nat):Str:=⟨l.toArray⟩
noncomputable def zIQ:Stmt->Expr
 | .Assign _ e _=>e
 | .AugAssign _ _ e _=>e
 | .Return (some e) _=>e
 | _=>default
noncomputable def zQC(b:Bool)(P:Params):FuncData:=match zIQ (((zDc (qD (zGr b P)).body).getD []).getD 3 default) with
 | .Lambda ps bd sc _=>zQk (S "_law_lexer.<locals>.<lambda>") ps bd sc
 | _=>default
noncomputable def wsS:Str:=S "\n\t\r "
noncomputable def zCC(b:Bool)(P:Params)(ln:Int)(l:List Nat):Sto:=
  [.ctab 325 true,.inst 140 2,.dict [(S "lineno",.int ln),(S "instream",.trk 3),(S "whitespace",.str wsS),(S "pushback",.trk 10)],.inst 140 4,
   .dict [(S "lineno",.int 1),(S "instream",.none),(S "whitespace",.str wsS),(S "pushback",.trk 5),(S "read",.trk 6)],.pls [],.lam (zQC b P) [(S "signs",8)] 7,.crec (S "_law_lexer.<locals>.<lambda>"),.cell (some (.trk 9)),.stk 1000 l,.pls []]
theorem zQd(b:Bool)(P:Params)(x:Str)(hx:x.cps.size<=1000):evC (cf b P) 20 (.val (.ref 330)) [.str x] [] [.ctab 325 false]=some (.trk 1,zCC b P 1 x.cps.toList):=by
 have h:zD ((evK (cf b P) 20).c (.val (.ref 330)) [.str x] [] [.ctab 325 false] .done) [.ans 0 true] []=some ([decide (x.cps.size<=1000)=true],.trk 1,zCC b P 1 x.cps.toList.reverse.reverse):=by kernel_rfl
 rw [List.reverse_reverse] at h;exact zAF h ⟨decide_eq_true hx,trivial⟩
noncomputable def stP:Stmt->Expr×Expr×List Stmt×List Stmt
 | .For t i b _ _=>(t,i,b,[])
 | .If t a b _=>(t,default,a,b)
 | .While t b _ _=>(t,default,b,[])
 | _=>(default,default,[],[])
noncomputable def xY(s:Stmt):Expr:=(stP s).1
noncomputable def qT(s:Stmt):List Stmt:=(stP s).2.2.1
noncomputable def ifT(s:Stmt):Expr:=(stP s).1
noncomputable def ifA(s:Stmt):List Stmt:=(stP s).2.2.1
noncomputable def ifB(s:Stmt):List Stmt:=(stP s).2.2.2
noncomputable def zTU(P:Params):FuncData:=qD zAL
noncomputable def gtB(P:Params):List Stmt:=(zDc (zTU P).body).getD []
noncomputable def zBb(P:Params):AE:={scope:=(zTU P).scope,loc:=11,cells:=[],qual:=(zTU P).qualname ++ ".<locals>.",code:=(zTU P).code}
noncomputable def gt0(P:Params):Stmt:=(gtB P).getD 3 default
noncomputable def gtQ(P:Params):Stmt:=(ifA ((qT (gt0 P)).getD 1 default)).getD 0 default
noncomputable def gtR(P:Params):Stmt:=(ifB ((qT (gt0 P)).getD 1 default)).getD 2 default
noncomputable def zTA(t:Str):List (Str×V):=[(S "self",.trk 1),(S "token",.str t),(S "fiter",.trk 13)]
noncomputable def qE(t c:Str):List (Str×V):=[(S "self",.trk 1),(S "token",.str t),(S "fiter",.trk 13),(S "ch",.str c)]
noncomputable def gtS(b:Bool)(P:Params)(ln:Int)(l:List Nat)(kv:List (Str×V)):Sto:=zCC b P ln l ++ [.ns kv,.meth 123 (.trk 1),.citer (.trk 12) (.str (S "")) true]
noncomputable def isW(c:Nat):Bool:=[10,9,13,32].any (BQ c)
noncomputable def yC(c:Nat)(ln:Int):Int:=if c=10 then ln + 1 else ln
noncomputable def uB:List Nat->Int->List Nat->Option (List Nat×Int×List Nat)
 | _,_,[]=>none
 | t,ln,c::l=>if c=34 then some (t,ln,l) else if c=92 then (match l with
  | []=>none
  | c2::l2=>uB (t ++ [c2]) (yC c2 ln) l2) else uB (t ++ [c]) (yC c ln) l
theorem zF7(t:List Nat)(ln:Int)(c:Nat)(l:List Nat):uB t ln (c::l)=(if c=34 then some (t,ln,l) else if c=92 then (match l with
  | []=>none
  | c2::l2=>uB (t ++ [c2]) (yC c2 ln) l2) else uB (t ++ [c]) (yC c ln) l):=by cases l <;>rfl
noncomputable def uH:List Nat->Int->List Nat->Option (List Nat×Int×List Nat)
 | _,_,[]=>none
 | t,ln,c::l=>match isW c with
  | true=>some (t,yC c ln,l)
  | false=>if c=92 then (match l with
   | []=>none
   | c2::l2=>uH (t ++ [c2]) (yC c2 ln) l2) else uH (t ++ [c]) (yC c ln) l
noncomputable def vR:Int->List Nat->Option (List Nat×Int×List Nat)
 | ln,[]=>some ([],ln,[])
 | ln,c::l=>match isW c with
  | true=>vR (yC c ln) l
  | false=>if c=34 then uB [] ln l else if c=92 then (match l with
   | []=>none
   | c2::l2=>uH [c2] (yC c2 ln) l2) else uH [c] (yC c ln) l
theorem vE(t:List Nat)(c:Nat):zA t ++ (⟨#[c]⟩:Str)=zA (t ++ [c]):=by
 show (⟨t.toArray ++ #[c]⟩:Str)=⟨(t ++ [c]).toArray⟩;simp
theorem ne1{c k:Nat}(h:c≠k):([c]==[k])=false:=by simp [h]
theorem vO{t:List Nat}{c:Nat}(h:t.length + 1<=1000):decide ((zA t ++ (⟨#[c]⟩:Str)).length<=sizeLine)=true:=by
 rw [vE];have e:(zA (t ++ [c])).length=t.length + 1:=by
  show ((t ++ [c]).toArray).size=_;simp
 rw [e];exact decide_eq_true (Bn h (by decide))
section
variable(b:Bool)(P:Params)
noncomputable abbrev zBX(n:Nat)(st:Stmt)(σ:Sto)(f:Fl)(AA:Sto):Prop:=zD3 (cf b P).kf (evK (cf b P) n) (xY st) (qT st) (zBb P) 13 σ f AA
noncomputable abbrev zEZ(n:Nat)(st:Stmt)(fu:Nat)(σ:Sto)(f:Fl)(AA:Sto):Prop:=zHv (cf b P).kf (evK (cf b P) n) (xY st) (qT st) (zBb P) 13 fu σ f AA
variable{b P}{ln:Int}{c a:Nat}{t d:Str}{l tl:List Nat}
theorem zHf:yC 10 ln=ln + 1:=rfl
theorem qX(h:c≠10):yC c ln=ln:=if_neg h
theorem yCh:zBX b P 16 (gtQ P) (gtS b P ln (34::l) (qE t d)) (.ret (.str t)) (gtS b P ln l (qE t (zA [34]))):=yH (ds:=[]) (ps:=[]) (fun kn k=>by kernel_rfl) trivial
theorem yDH(h1:c≠34)(h2:c≠92)(hs:tl.length + 1<=1000):zBX b P 16 (gtQ P) (gtS b P ln (c::l) (qE (zA tl) d)) .next (gtS b P (yC c ln) l (qE (zA (tl ++ [c])) (zA [c]))):=by
 rw [<-vE]
 by_cases h10:c=10
 ·subst h10
  rw [zHf];cases tl with
  | nil=>exact yH (ds:=[]) (ps:=[]) (fun kn k=>by kernel_rfl) trivial
  | cons a tl=>exact yH (ds:=[.ans 10 true]) (ps:=[decide ((zA (a::tl) ++ (⟨#[10]⟩:Str)).length<=sizeLine)=true]) (fun kn k=>by kernel_rfl) ⟨vO hs,trivial⟩
 ·rw [qX h10]
  cases tl with
  | nil=>exact yH (ds:=[.ans 3 false,.ans 1 false,.ans 0 false]) (ps:=[([c]==[10])=false,([c]==[34])=false,([c]==[92])=false]) (fun kn k=>by kernel_rfl) ⟨ne1 h10,ne1 h1,ne1 h2,trivial⟩
  | cons a tl=>exact yH (ds:=[.ans 3 false,.ans 1 false,.ans 0 false,.ans 2 true]) (ps:=[([c]==[10])=false,([c]==[34])=false,([c]==[92])=false,decide ((zA (a::tl) ++ (⟨#[c]⟩:Str)).length<=sizeLine)=true]) (fun kn k=>by kernel_rfl) ⟨ne1 h10,ne1 h1,ne1 h2,vO hs,trivial⟩
theorem yCQ(hs:tl.length + 1<=1000):zBX b P 16 (gtQ P) (gtS b P ln (92::c::l) (qE (zA tl) d)) .next (gtS b P (yC c ln) l (qE (zA (tl ++ [c])) (zA [c]))):=by
 rw [<-vE]
 by_cases h10:c=10
 ·subst h10
  rw [zHf];cases tl with
  | nil=>exact yH (ds:=[]) (ps:=[]) (fun kn k=>by kernel_rfl) trivial
  | cons a tl=>exact yH (ds:=[.ans 14 true]) (ps:=[decide ((zA (a::tl) ++ (⟨#[10]⟩:Str)).length<=sizeLine)=true]) (fun kn k=>by kernel_rfl) ⟨vO hs,trivial⟩
 ·rw [qX h10]
  cases tl with
  | nil=>exact yH (ds:=[.ans 10 false]) (ps:=[([c]==[10])=false]) (fun kn k=>by kernel_rfl) ⟨ne1 h10,trivial⟩
  | cons a tl=>exact yH (ds:=[.ans 10 false,.ans 2 true]) (ps:=[([c]==[10])=false,decide ((zA (a::tl) ++ (⟨#[c]⟩:Str)).length<=sizeLine)=true]) (fun kn k=>by kernel_rfl) ⟨ne1 h10,vO hs,trivial⟩
theorem zFp(h:isW c=true):c=10\/c=9\/c=13\/c=32:=by simpa [isW] using h
theorem yAr(h:isW c=true):zBX b P 16 (gtR P) (gtS b P ln (c::l) (qE t d)) (.ret (.str t)) (gtS b P (yC c ln) l (qE t (zA [c]))):=by
 rcases zFp h with rfl | rfl | rfl | rfl <;>exact yH (ds:=[]) (ps:=[]) (fun kn k=>by kernel_rfl) trivial
theorem yCB(h1:isW c=false)(h2:c≠92)(hs:tl.length + 1<=1000):zBX b P 16 (gtR P) (gtS b P ln (c::l) (qE (zA tl) d)) .next (gtS b P (yC c ln) l (qE (zA (tl ++ [c])) (zA [c]))):=by
 have h10:c≠10:=fun e=>by subst e; cases h1
 rw [<-vE,qX h10];cases tl with
 | nil=>exact yH (ds:=[.ans 3 false,.ans 1 false,.ans 0 false]) (ps:=[([c]==[10])=false,isW c=false,([c]==[92])=false]) (fun kn k=>by kernel_rfl) ⟨ne1 h10,h1,ne1 h2,trivial⟩
 | cons a tl=>exact yH (ds:=[.ans 3 false,.ans 1 false,.ans 0 false,.ans 2 true]) (ps:=[([c]==[10])=false,isW c=false,([c]==[92])=false,decide ((zA (a::tl) ++ (⟨#[c]⟩:Str)).length<=sizeLine)=true]) (fun kn k=>by kernel_rfl) ⟨ne1 h10,h1,ne1 h2,vO hs,trivial⟩
theorem yCZ(hs:tl.length + 1<=1000):zBX b P 16 (gtR P) (gtS b P ln (92::c::l) (qE (zA tl) d)) .next (gtS b P (yC c ln) l (qE (zA (tl ++ [c])) (zA [c]))):=by
 rw [<-vE]
 by_cases h10:c=10
 ·subst h10
  rw [zHf];cases tl with
  | nil=>exact yH (ds:=[]) (ps:=[]) (fun kn k=>by kernel_rfl) trivial
  | cons a tl=>exact yH (ds:=[.ans 14 true]) (ps:=[decide ((zA (a::tl) ++ (⟨#[10]⟩:Str)).length<=sizeLine)=true]) (fun kn k=>by kernel_rfl) ⟨vO hs,trivial⟩
 ·rw [qX h10]
  cases tl with
  | nil=>exact yH (ds:=[.ans 10 false]) (ps:=[([c]==[10])=false]) (fun kn k=>by kernel_rfl) ⟨ne1 h10,trivial⟩
  | cons a tl=>exact yH (ds:=[.ans 10 false,.ans 2 true]) (ps:=[([c]==[10])=false,decide ((zA (a::tl) ++ (⟨#[c]⟩:Str)).length<=sizeLine)=true]) (fun kn k=>by kernel_rfl) ⟨ne1 h10,vO hs,trivial⟩
theorem zGM{c x:Nat}{tl l:List Nat}(h:tl.length + (c::l).length<=1000):(tl ++ [x]).length + l.length<=1000:=by
 rw [BY,List.length_singleton,Nat.add_assoc,Nat.add_comm 1];exact h
theorem zGh{c:Nat}{tl l:List Nat}(h:tl.length + (c::l).length<=1000):tl.length + 1<=1000:=Bn (D1 (Dd (Ca _)) _) h
theorem zYS{tl:List Nat}{ln:Int}{c:Nat}{l:List Nat}{z:List Nat×Int×List Nat}(h:uB tl ln (c::l)=some z){G:Prop}(g1:c=34->(tl,ln,l)=z->G)(g2:∀c2 l2,c=92->l=c2::l2->uB (tl ++ [c2]) (yC c2 ln) l2=some z->G)(g3:c≠34->c≠92->uB (tl ++ [c]) (yC c ln) l=some z->G):G:=by
 cases l with
 | nil=>
  have h:(if c=34 then some (tl,ln,[]) else if c=92 then none else uB (tl ++ [c]) (yC c ln) [])=some z:=h
  by_cases h1:c=34
  ·exact g1 h1 (CR ((if_pos h1).symm.trans h))
  ·have h:=(if_neg h1).symm.trans h
   by_cases h2:c=92
   ·exact noS ((if_pos h2).symm.trans h)
   ·exact g3 h1 h2 ((if_neg h2).symm.trans h)
 | cons c2 l2=>
  have h:(if c=34 then some (tl,ln,c2::l2) else if c=92 then uB (tl ++ [c2]) (yC c2 ln) l2 else uB (tl ++ [c]) (yC c ln) (c2::l2))=some z:=h
  by_cases h1:c=34
  ·exact g1 h1 (CR ((if_pos h1).symm.trans h))
  ·have h:=(if_neg h1).symm.trans h
   by_cases h2:c=92
   ·exact g2 c2 l2 h2 rfl ((if_pos h2).symm.trans h)
   ·exact g3 h1 h2 ((if_neg h2).symm.trans h)
theorem zZy(n:Nat):∀(l tl:List Nat) (ln:Int) (d:Str) (fu:Nat) (t' l':List Nat) (ln':Int),l.length<=n->uB tl ln l=some (t',ln',l')->tl.length + l.length<=1000->l.length < fu->
  ∃d',zEZ b P 16 (gtQ P) fu (gtS b P ln l (qE (zA tl) d)) (.ret (.str (zA t'))) (gtS b P ln' l' (qE (zA t') d')):=by
 induction n with
 | zero=>
  intro l tl ln d fu t' l' ln' hn h _ _;cases l with
  | nil=>exact nomatch h
  | cons=>exact absurd hn (Nat.not_succ_le_zero _)
 | succ n ih=>
  intro l tl ln d fu t' l' ln' hn h hs hf;cases fu with
  | zero=>exact absurd hf (Nat.not_lt_zero _)
  | succ fu=>cases l with
   | nil=>exact nomatch h
   | cons c l=>
    refine zYS h (fun h1 e=>?_) (fun c2 l2 h1 e h=>?_) (fun h1 h2 h=>?_)
    ·cases e
     exact ⟨_,xT (h1▸yCh)⟩
    ·cases h1
     cases e;obtain ⟨d',e⟩:=ih l2 (tl ++ [c2]) (yC c2 ln) (zA [c2]) fu t' l' ln' (Nat.le_of_succ_le (Nat.le_of_succ_le_succ hn)) h (Nat.le_of_succ_le (zGM hs)) (Nat.lt_of_succ_lt (CJ hf));exact ⟨d',kW (.inl (yCQ (zGh hs))) e⟩
    ·obtain ⟨d',e⟩:=ih l (tl ++ [c]) (yC c ln) (zA [c]) fu t' l' ln' (Nat.le_of_succ_le_succ hn) h (zGM hs) (CJ hf)
     exact ⟨d',kW (.inl (yDH h1 h2 (zGh hs))) e⟩
theorem zYK{tl:List Nat}{ln:Int}{c:Nat}{l:List Nat}{z:List Nat×Int×List Nat}(h:uH tl ln (c::l)=some z){G:Prop}(g1:isW c=true->(tl,yC c ln,l)=z->G)(g2:∀c2 l2,c=92->l=c2::l2->uH (tl ++ [c2]) (yC c2 ln) l2=some z->G)(g3:isW c=false->c≠92->uH (tl ++ [c]) (yC c ln) l=some z->G):G:=by
 unfold uH at h;split at h
 ·rename_i h1
  exact g1 h1 (CR h)
 ·rename_i h1
  split at h
  ·rename_i h2
   split at h
   ·exact noS h
   ·exact g2 _ _ h2 rfl h
  ·rename_i h2
   exact g3 h1 h2 h
theorem zU9(n:Nat):∀(l tl:List Nat) (ln:Int) (d:Str) (fu:Nat) (t' l':List Nat) (ln':Int),l.length<=n->uH tl ln l=some (t',ln',l')->tl.length + l.length<=1000->l.length < fu->
  ∃d',zEZ b P 16 (gtR P) fu (gtS b P ln l (qE (zA tl) d)) (.ret (.str (zA t'))) (gtS b P ln' l' (qE (zA t') d')):=by
 induction n with
 | zero=>
  intro l tl ln d fu t' l' ln' hn h _ _;cases l with
  | nil=>exact nomatch h
  | cons=>exact absurd hn (Nat.not_succ_le_zero _)
 | succ n ih=>
  intro l tl ln d fu t' l' ln' hn h hs hf;cases fu with
  | zero=>exact absurd hf (Nat.not_lt_zero _)
  | succ fu=>cases l with
   | nil=>exact nomatch h
   | cons c l=>
    refine zYK h (fun h1 e=>?_) (fun c2 l2 h1 e h=>?_) (fun h1 h2 h=>?_)
    ·cases e
     exact ⟨_,xT (yAr h1)⟩
    ·cases h1
     cases e;obtain ⟨d',e⟩:=ih l2 (tl ++ [c2]) (yC c2 ln) (zA [c2]) fu t' l' ln' (Nat.le_of_succ_le (Nat.le_of_succ_le_succ hn)) h (Nat.le_of_succ_le (zGM hs)) (Nat.lt_of_succ_lt (CJ hf));exact ⟨d',kW (.inl (yCZ (zGh hs))) e⟩
    ·obtain ⟨d',e⟩:=ih l (tl ++ [c]) (yC c ln) (zA [c]) fu t' l' ln' (Nat.le_of_succ_le_succ hn) h (zGM hs) (CJ hf)
     exact ⟨d',kW (.inl (yCB h1 h2 (zGh hs))) e⟩
theorem xQ{f:Fl}{AA:Sto}:zEZ b P 16 (gtQ P) 1000 (gtS b P ln l (qE t d)) f AA->Run ((evK (cf b P) 17).x (gtQ P) (zBb P) (gtS b P ln l (qE t d))) f AA:=yT fun k=>by kernel_rfl
theorem xR{f:Fl}{AA:Sto}:zEZ b P 16 (gtR P) 1000 (gtS b P ln l (qE t d)) f AA->Run ((evK (cf b P) 17).x (gtR P) (zBb P) (gtS b P ln l (qE t d))) f AA:=yT fun k=>by kernel_rfl
noncomputable abbrev w1(P:Params):Stmt:=(qT (gt0 P)).getD 0 default
noncomputable abbrev w2(P:Params):Stmt:=(qT (gt0 P)).getD 1 default
theorem zZ4:qT (gt0 P)=[w1 P,w2 P]:=by kernel_rfl
theorem yAz:w2 P= .If (ifT (w2 P)) (ifA (w2 P)) (ifB (w2 P)) (w2 P).pos:=by kernel_rfl
theorem w2A:ifA (w2 P)=[gtQ P]:=by kernel_rfl
theorem w2B:ifB (w2 P)=(ifB (w2 P)).take 2 ++ [gtR P]:=by kernel_rfl
inductive Frm:List (Str×V)->Prop
 | zero:Frm (zTA (zA []))
 | one (d:Str):Frm (qE (zA []) d)
theorem zWd{kv:List (Str×V)}(hk:Frm kv)(h:isW c=true):zBX b P 18 (gt0 P) (gtS b P ln (c::l) kv) .cont (gtS b P (yC c ln) l (qE (zA []) (zA [c]))):=by
 cases hk <;>(rcases zFp h with rfl | rfl | rfl | rfl <;>exact yH (ds:=[]) (ps:=[]) (fun kn k=>by kernel_rfl) trivial)
theorem zWa{kv:List (Str×V)}(hk:Frm kv)(h:c≠10):zRj (cf b P).kf (evK (cf b P) 18) (xY (gt0 P)) (zBb P) 13 (gtS b P ln (c::l) kv) (gtS b P ln l (qE (zA []) (zA [c]))):=by
 cases hk <;>exact zVg (ds:=[.ans 3 false]) (ps:=[([c]==[10])=false]) (fun kn k=>by kernel_rfl) ⟨ne1 h,trivial⟩
theorem yB0(h:isW c=false):Run ((evK (cf b P) 18).x (w1 P) (zBb P) (gtS b P ln l (qE (zA []) (zA [c])))) .next (gtS b P ln l (qE (zA []) (zA [c]))):=by
 exact zHg (zK (ds:=[.ans 0 false]) (ps:=[isW c=false]) (fun k=>by kernel_rfl) ⟨h,trivial⟩)
theorem w_q:Run ((evK (cf b P) 17).t (ifT (w2 P)) (zBb P) (gtS b P ln l (qE (zA []) (zA [c])))) ([c]==[34]) (gtS b P ln l (qE (zA []) (zA [c]))):=zJj (ds:=[]) (ps:=[]) (fun k=>by kernel_rfl) trivial
theorem yCU(h:c≠92):Run (kS (evK (cf b P) 17) ((ifB (w2 P)).take 2) (zBb P) (gtS b P ln l (qE (zA []) (zA [c])))) .next (gtS b P ln l (qE (zA [c]) (zA [c]))):=
 zK (ds:=[.ans 0 false]) (ps:=[([c]==[92])=false]) (fun k=>by kernel_rfl) ⟨ne1 h,trivial⟩
theorem yCO:Run (kS (evK (cf b P) 17) ((ifB (w2 P)).take 2) (zBb P) (gtS b P ln (c::l) (qE (zA []) (zA [92])))) .next (gtS b P (yC c ln) l (qE (zA [c]) (zA [c]))):=by
 by_cases h10:c=10
 ·subst h10; rw [zHf]
  exact zK (ds:=[]) (ps:=[]) (fun k=>by kernel_rfl) trivial
 ·rw [qX h10]
  exact zK (ds:=[.ans 4 false]) (ps:=[([c]==[10])=false]) (fun k=>by kernel_rfl) ⟨ne1 h10,trivial⟩
noncomputable def gtE(b:Bool)(P:Params)(ln:Int)(kv:List (Str×V)):Sto:=zCC b P ln [] ++ [.ns kv,.meth 123 (.trk 1),.citer .none .none false]
theorem zXr{kv:List (Str×V)}(hk:Frm kv):Run (wR (cf b P).kf (evK (cf b P) 18) (xY (gt0 P)) 13 (gtS b P ln [] kv)) none (gtE b P ln kv):=by
 cases hk <;>exact zVc (ds:=[]) (ps:=[]) (fun k=>by kernel_rfl) trivial
inductive GtEnd (b:Bool) (P:Params):Fl->Sto->List Nat->Int->List Nat->Prop
 | ret (t:List Nat) (ln:Int) (l:List Nat) (d:Str):GtEnd b P (.ret (.str (zA t))) (gtS b P ln l (qE (zA t) d)) t ln l
 | out (ln:Int) {kv:List (Str×V)} (hk:Frm kv):GtEnd b P .next (gtE b P ln kv) [] ln []
theorem zJ1{f:Fl}{AA:Sto}{kv:List (Str×V)}(hk:Frm kv)(h1:isW c=false)(h:Run (kS (evK (cf b P) 17) (if ([c]==[34]) then ifA (w2 P) else ifB (w2 P)) (zBb P) (gtS b P ln l (qE (zA []) (zA [c])))) f AA):zBX b P 18 (gt0 P) (gtS b P ln (c::l) kv) f AA:=
 zJ8 (zWa hk fun e=>by subst e; exact nomatch h1) (by
  rw [zZ4];exact zL (yB0 h1) (yG (by rw [yAz]; exact zJU w_q h)))
theorem zWI{ln:Int}{c:Nat}{l:List Nat}{z:List Nat×Int×List Nat}(h:vR ln (c::l)=some z){G:Prop}(g1:isW c=true->vR (yC c ln) l=some z->G)(g2:isW c=false->c=34->uB [] ln l=some z->G)(g3:∀c2 l2,isW c=false->c≠34->c=92->l=c2::l2->uH [c2] (yC c2 ln) l2=some z->G)(g4:isW c=false->c≠34->c≠92->uH [c] (yC c ln) l=some z->G):G:=by
 unfold vR at h;split at h
 ·rename_i h1
  exact g1 h1 h
 ·rename_i h1
  split at h
  ·rename_i h2
   exact g2 h1 h2 h
  ·rename_i h2
   split at h
   ·rename_i h3
    split at h
    ·exact noS h
    ·exact g3 _ _ h1 h2 h3 rfl h
   ·rename_i h3
    exact g4 h1 h2 h3 h
theorem zRw{c:Nat}{l:List Nat}(h:(c::l).length<=900):l.length<=900:=Nat.le_of_succ_le h
theorem zZs{l:List Nat}(h:l.length<=900):([]:List Nat).length + l.length<=1000:=(Cx _).symm▸Bn h (by decide)
theorem zQI{c:Nat}{l:List Nat}(h:l.length<=900):[c].length + l.length<=1000:=Bn (D1 h 1) (by decide)
theorem zNL{l:List Nat}(h:l.length<=900):l.length < 1000:=C4 h (by decide)
theorem zZN(l:List Nat):∀(kv:List (Str×V)) (ln:Int) (fu:Nat) (t' l':List Nat) (ln':Int),Frm kv->vR ln l=some (t',ln',l')->l.length<=900->l.length < fu->∃f AA,zEZ b P 18 (gt0 P) fu (gtS b P ln l kv) f AA/\GtEnd b P f AA t' ln' l':=by
 induction l with
 | nil=>
  intro kv ln fu t' l' ln' hk h hs hf;cases fu with
  | zero=>exact absurd hf (Nat.not_lt_zero _)
  | succ fu=>
   cases h;exact ⟨_,_,zJZ (zXr hk),.out _ hk⟩
 | cons c l ih=>
  intro kv ln fu t' l' ln' hk h hs hf;cases fu with
  | zero=>exact absurd hf (Nat.not_lt_zero _)
  | succ fu=>
   replace hs:=zRw hs
   refine zWI h (fun h1 h=>?_) (fun h1 h2 h=>?_) (fun c2 l2 h1 h2 h3 e h=>?_) (fun h1 h2 h3 h=>?_)
   ·obtain ⟨f,AA,e,z⟩:=ih _ _ fu t' l' ln' (.one _) h hs (CJ hf)
    exact ⟨f,AA,kW (.inr (zWd hk h1)) e,z⟩
   ·cases h2
    obtain ⟨d',e⟩:=zZy (b:=b) (P:=P) l.length l [] ln (zA [34]) 1000 t' l' ln' (CD _) h (zZs hs) (zNL hs);exact ⟨_,_,xT (zJ1 hk h1 (by rw [if_pos (by rfl),w2A]; exact yG (xQ e))),.ret _ _ _ _⟩
   ·cases h3
    cases e;obtain ⟨d',e⟩:=zU9 (b:=b) (P:=P) l2.length l2 [c2] (yC c2 ln) (zA [c2]) 1000 t' l' ln' (CD _) h (zQI (zRw hs)) (zNL (zRw hs));exact ⟨_,_,xT (zJ1 hk h1 (by rw [if_neg (by decide),w2B]; exact yA yCO (yG (xR e)))),.ret _ _ _ _⟩
   ·have h10:c≠10:=fun e=>by subst e; exact nomatch h1
    obtain ⟨d',e⟩:=zU9 (b:=b) (P:=P) l.length l [c] ln (zA [c]) 1000 t' l' ln' (CD _) (by rw [qX h10] at h; exact h) (zQI hs) (zNL hs);exact ⟨_,_,xT (zJ1 hk h1 (by rw [ne1 h2,if_neg Bk,w2B]; exact yA (yCU h3) (yG (xR e)))),.ret _ _ _ _⟩
theorem zTO{k:V->Sto->Sy}:(evK (cf b P) 20).c (.val (.ref 130)) [.trk 1] [] (zCC b P ln l) k=kU (evK (cf b P) 19) 11 (gtB P) (zBb P) (zCC b P ln l ++ [.ns [(S "self",.trk 1)]]) k:=by kernel_rfl
theorem zWu:gtB P=(gtB P).take 3 ++ [gt0 P,(gtB P).getD 4 default]:=by kernel_rfl
theorem zIN:Run (kS (evK (cf b P) 19) ((gtB P).take 3) (zBb P) (zCC b P ln l ++ [.ns [(S "self",.trk 1)]])) .next (gtS b P ln l (zTA (zA []))):=zK (ds:=[]) (ps:=[]) (fun k=>by kernel_rfl) trivial
theorem x0{f:Fl}{AA:Sto}:zEZ b P 18 (gt0 P) 1000 (gtS b P ln l (zTA (zA []))) f AA->Run ((evK (cf b P) 19).x (gt0 P) (zBb P) (gtS b P ln l (zTA (zA [])))) f AA:=yT fun k=>by kernel_rfl
theorem zTw{kv:List (Str×V)}(hk:Frm kv):Run (kS (evK (cf b P) 19) [(gtB P).getD 4 default] (zBb P) (gtE b P ln kv)) (.ret (.str (zA []))) (gtE b P ln kv):=by
 cases hk <;>exact zK (ds:=[]) (ps:=[]) (fun k=>by kernel_rfl) trivial
theorem zXE:gcv 11 (.str t) (gtS b P ln l (qE t d))=(.str t,zCC b P ln l):=by kernel_rfl
theorem zR0{kv:List (Str×V)}(hk:Frm kv):gcv 11 (.str t) (gtE b P ln kv)=(.str t,zCC b P ln []):=by cases hk <;>kernel_rfl
theorem zUZ{t' l':List Nat}{ln':Int}(h:vR ln l=some (t',ln',l'))(hs:l.length<=900):Run ((evK (cf b P) 20).c (.val (.ref 130)) [.trk 1] [] (zCC b P ln l)) (.str (zA t')) (zCC b P ln' l'):=by
 refine yT (fun k=>zTO) ?_;obtain ⟨f,AA,e,z⟩:=zZN (b:=b) (P:=P) l _ ln 1000 t' l' ln' .zero h hs (by lia);rw [zWu];cases z with
 | ret t ln l d=>exact xZ (yA zIN (zFI (x0 e))) zXE
 | out ln hk=>exact xZ (yA zIN (zL (x0 e) (zTw hk))) (zR0 hk)
end
noncomputable def kK(o:Option V)(v:V):Prop:=o.map (·,([]:Sto))=some (v,[])
theorem qG{o:Option V}{v:V}(h:o=some v):kK o v:=by subst h; rfl
noncomputable def twL:List (List Nat):=[[97],[98,32,99],[115,115],[102,102,108]]
noncomputable def twN(i:Nat):List Nat:=twL.getD i []
noncomputable def twV:V:= .tup [.str (zA [97]),.str (zA [98,32,99]),.str (zA [115,115]),.str (zA [102,102,108])]
theorem zPJ{i:Nat}(h:i < 4):xM twV (.int (BL i))=some (.str (zA (twN i))):=by
 match i,h with
 | 0,_=>kernel_rfl
 | 1,_=>kernel_rfl
 | 2,_=>kernel_rfl
 | 3,_=>kernel_rfl
theorem fmN(x:Int)(n:Nat)(h:0 < n):Int.fmod x n=BL (Int.fmod x n).toNat/\(Int.fmod x n).toNat < n:=by
 rw [Int.fmod_eq_emod_of_nonneg x (by lia)];have b1:=Int.emod_nonneg x (show (n:Int)≠0 by lia);have b2:=Int.emod_lt_of_pos x (show (0:Int) < n by lia);exact ⟨(Int.toNat_of_nonneg b1).symm,by lia⟩
noncomputable def e0(c:Int):Nat:=(c.fmod (4:Nat)).toNat
noncomputable def e1(c:Int):Nat:=((c + 1 + (c.fdiv 4).fmod 3).fmod (4:Nat)).toNat
noncomputable def zEs(c:Int):Int:=7 + (c.fdiv 12).fmod 48
noncomputable def zI3(c:Int):V:= .tup [.str (zA (twN (e0 c))),.int (zEs c),.str (zA (twN (e1 c)))]
theorem zYa(b:Bool)(P:Params)(m:Bool)(c:Int)(t0 t1:List Nat):zD ((evK (cf b P) 20).c (.val (.ref 309)) [.int c] [] [.ctab 325 m] .done) [.val 2 (.str (zA t0)) [],.val 8 (.str (zA t1)) []] []=
  some ([kK (xM twV (.int (c.fmod 4))) (.str (zA t0)),kK (xM twV (.int ((c + 1 + (c.fdiv 4).fmod 3).fmod 4))) (.str (zA t1))],.tup [.str (zA t0),.int (7 + (c.fdiv 12).fmod 48),.str (zA t1)],[.ctab 325 m]):=by kernel_rfl
theorem zS9(b:Bool)(P:Params)(m:Bool)(c:Int):evC (cf b P) 20 (.val (.ref 309)) [.int c] [] [.ctab 325 m]=some (zI3 c,[.ctab 325 m]):=by
 obtain ⟨a1,a2⟩:=fmN c 4 (by decide);obtain ⟨b1,b2⟩:=fmN (c + 1 + (c.fdiv 4).fmod 3) 4 (by decide);have a1':c.fmod 4=BL (e0 c):=a1;have b1':(c + 1 + (c.fdiv 4).fmod 3).fmod 4=BL (e1 c):=b1;exact zAF (zYa b P m c (twN (e0 c)) (twN (e1 c))) ⟨by rw [a1']; exact qG (zPJ a2),by rw [b1']; exact qG (zPJ b2),trivial⟩
theorem zG3(c:Int):e0 c≠e1 c:=by
 obtain ⟨a1,a2⟩:=fmN c 4 (by decide);obtain ⟨b1,b2⟩:=fmN (c + 1 + (c.fdiv 4).fmod 3) 4 (by decide);obtain ⟨d1,d2⟩:=fmN (c.fdiv 4) 3 (by decide);intro e;unfold e0 e1 at e;have h1:c.fmod (4:Nat)=(c + 1 + (c.fdiv 4).fmod 3).fmod (4:Nat):=by rw [a1,b1,e]
 have d1':(c.fdiv 4).fmod 3=BL ((c.fdiv 4).fmod (3:Nat)).toNat:=d1;rw [d1'] at h1;generalize ((c.fdiv 4).fmod (3:Nat)).toNat=d at d2 h1;rw [Int.fmod_eq_emod_of_nonneg _ (by decide),Int.fmod_eq_emod_of_nonneg _ (by decide)] at h1;have:(BL d)=(d:Int):=rfl;rw [this] at h1
 lia
theorem xU(a b:List Nat):zA a ++ zA b=zA (a ++ b):=by
 show (⟨a.toArray ++ b.toArray⟩:Str)=⟨(a ++ b).toArray⟩;simp
theorem uU(a:List Nat):(zA a).length=a.length:=by
 show a.toArray.size=_;simp
theorem zIn(x:Str):zA x.cps.toList=x:=by
 show (⟨x.cps.toList.toArray⟩:Str)=x;simp
theorem vD{a b:List Nat}(h:a.length + b.length<=1000):decide ((zA a ++ zA b).length<=sizeLine)=true:=by
 rw [xU,uU,BY];exact decide_eq_true (Bn h (by decide))
noncomputable def jn(sep:List Nat):List (List Nat)->List Nat
 | []=>[]
 | a::r=>a ++ (r.map (sep ++ ·)).flatten
theorem zFh(sep:List Nat):∀(r:List (List Nat)) (a:List Nat),(r.map zA).foldl (fun acc p=>acc ++ (zA sep).cps ++ p.cps) a.toArray=(a ++ (r.map (sep ++ ·)).flatten).toArray
 | [],a=>by simp
 | x::r,a=>by
  rw [Cs,List.foldl_cons];have e:a.toArray ++ (zA sep).cps ++ (zA x).cps=(a ++ (sep ++ x)).toArray:=by simp [zA]
  rw [e,zFh sep r];simp
theorem zDE(sep a:List Nat)(r:List (List Nat)):Builtin.Str.glued (zA sep) (zA a::r.map zA)=zA (jn sep (a::r)):=by
 show (⟨(r.map zA).foldl (fun acc p=>acc ++ (zA sep).cps ++ p.cps) a.toArray⟩:Str)=_;rw [zFh];rfl
theorem zBF(sep:List Nat)(l:List (List Nat)):vJ (zA sep) (l.map zA)=zA (jn sep l):=by
 match l with
 | []=>rfl
 | [a]=>show zA a=zA (a ++ []); rw [Bp]
 | a::x::r=>exact zDE sep a (x::r)
noncomputable def zTo(sep:Str)(l:List Str):Bool:=!DG (l.toArray.foldl (· + ·.length + sep.length) 0) && decide ((vJ sep l).length<=sizeLine)
theorem zIG(n:Nat):∀(l:List Str) (k:Nat),l.foldl (fun a x=>a + x.length + n) k=k + (l.map fun x=>x.length + n).sum
 | [],k=>by simp
 | x::l,k=>by rw [List.foldl_cons,zIG n l,Cs,List.sum_cons]; lia
theorem zUC{sep:List Nat}{l:List (List Nat)}(h:(l.map fun x=>x.length + sep.length).sum<=1000)(h2:(jn sep l).length<=1000):zTo (zA sep) (l.map zA)=true:=by
 unfold zTo;rw [zBF,uU,List.foldl_toArray,zIG,EU];have e:((fun x:Str=>x.length + sep.length) ∘ zA)=fun x:List Nat=>x.length + sep.length:=funext fun x=>by show (zA x).length + sep.length=_; rw [uU]
 rw [e,Cx];refine Bd.mpr ⟨?_,decide_eq_true (Bn h2 (by decide))⟩;unfold DG;rw [decide_eq_false (Dj.mpr (Bn h (by decide)))];rfl
theorem zI8{s:Nat}:∀{a a' x y:List Nat},s ∉ a->s ∉ a'->a ++ s::x=a' ++ s::y->a=a'/\x=y
 | [],[],x,y,_,_,h=>⟨rfl,(Cc h).2⟩
 | [],c::a',x,y,_,h',h=>absurd ((Cc h).1▸CB ..) h'
 | c::a,[],x,y,h',_,h=>absurd ((Cc h).1▸CB ..) h'
 | c::a,d::a',x,y,h1,h2,h=>by
  obtain ⟨rfl,h3⟩:=Cc h;obtain ⟨rfl,rfl⟩:=zI8 (fun m=>h1 (Bq _ m)) (fun m=>h2 (Bq _ m)) h3;exact ⟨rfl,rfl⟩
theorem zD0{s:Nat}(a b:List Nat)(r:List (List Nat)):jn [s] (a::b::r)=a ++ s::jn [s] (b::r):=by simp [jn]
theorem zUR{s:Nat}{a:List Nat}(h:s ∉ a){b c:List Nat}{r:List (List Nat)}:jn [s] [a]≠jn [s] (b::c::r):=fun e=>by
 rw [zD0,show jn [s] [a]=a by simp [jn]] at e;exact h (e▸by simp)
theorem zPV{s:Nat}:∀{l l':List (List Nat)},l≠[]->l'≠[]->(∀x∈l,s ∉ x)->(∀x∈l',s ∉ x)->jn [s] l=jn [s] l'->l=l'
 | [],_,h,_,_,_,_=>absurd rfl h
 | _,[],_,h,_,_,_=>absurd rfl h
 | [a],[a'],_,_,_,_,e=>by
  rw [show jn [s] [a]=a by simp [jn],show jn [s] [a']=a' by simp [jn]] at e;rw [e]
 | [a],b::c::r,_,_,h,_,e=>absurd e (zUR (h a (by simp)))
 | b::c::r,[a],_,_,_,h,e=>absurd e.symm (zUR (h a (by simp)))
 | a::b::r,a'::b'::r',_,_,h,h',e=>by
  rw [zD0,zD0] at e;obtain ⟨rfl,e2⟩:=zI8 (h a (by simp)) (h' a' (by simp)) e;rw [zPV (l:=b::r) (l':=b'::r') (by simp) (by simp) (fun x hx=>h x (Bq _ hx)) (fun x hx=>h' x (Bq _ hx)) e2]
theorem zLU(s:List Nat)(l:List (List Nat)):Str.join (zA s) (l.map zA)=zA (jn s l):=by
 cases l with
 | nil=>rfl
 | cons a r=>rw [<-StrLaws.glued_eq_join]; exact zDE s a r
theorem zIc{a b:List Nat}(h:zA a=zA b):a=b:=by
 have z:=congrArg (fun s:Str=>s.cps.toList) h
 simpa [zA] using z
theorem zQX{s:Nat}{l:List (List Nat)}(h0:l≠[])(h:∀x∈l,s ∉ x):Dl (zA (jn [s] l)) (zA [s])=l.map zA:=by
 have e:=StrLaws.join_split (zA (jn [s] l)) (zA [s]);have f:∀p∈Dl (zA (jn [s] l)) (zA [s]),s ∉ p.cps.toList:=StrLaws.split_free (zA (jn [s] l)) s;have hp:=split_pos (zA (jn [s] l)) (zA [s]);generalize hs:Dl (zA (jn [s] l)) (zA [s])=ps at *;have em:ps=(ps.map fun p=>p.cps.toList).map zA:=by
  rw [EU]
  conv=>lhs; rw [<-List.map_id ps]
  exact List.map_congr_left fun p _=>(zIn p).symm
 rw [em,zLU] at e;rw [em,zPV (l':=l) (fun z=>by rw [E6] at z; subst z; simp at hp) h0 (fun x hx=>by
  obtain ⟨p,hp',rfl⟩:=Bm.mp hx
  first | exact f p hp' | (have:=f p hp'; simpa using this)) h (zIc e)]
noncomputable def spl(s:Nat):List Nat->List (List Nat)
 | []=>[[]]
 | c::r=>if c=s then []::spl s r else (match spl s r with | []=>[[c]] | a::l=>(c::a)::l)
noncomputable def zCf(s:Nat)(z:List Nat)(x:List Nat):List Nat:=x.flatMap fun c=>if c=s then z else [c]
theorem zNB(s:Nat):∀x:List Nat,∃a l,spl s x=a::l/\(∀y∈spl s x,s ∉ y)/\∀z,jn z (spl s x)=zCf s z x
 | []=>⟨[],[],rfl,fun y hy=>by simp [spl] at hy; subst hy; simp,fun z=>rfl⟩
 | c::r=>by
  obtain ⟨a,l,e,h1,h2⟩:=zNB s r
  by_cases hc:c=s
  ·subst hc
   have es:spl c (c::r)=[]::a::l:=by show (if c=c then _ else _)=_; rw [if_pos rfl,e]
   refine ⟨[],a::l,es,fun y hy=>?_,fun z=>?_⟩
   ·rw [es] at hy
    rcases Bl.mp hy with rfl | hy
    ·exact Ba
    ·exact h1 y (e▸hy)
   ·have h:=h2 z
    rw [e] at h;rw [es];show [] ++ (((a::l).map (z ++ ·)).flatten)=_;have e3:zCf c z (c::r)=z ++ zCf c z r:=by unfold zCf; rw [C5,if_pos rfl]
    rw [e3,<-h];simp [jn]
  ·have es:spl s (c::r)=(c::a)::l:=by show (if c=s then _ else _)=_; rw [if_neg hc,e]
   refine ⟨c::a,l,es,fun y hy=>?_,fun z=>?_⟩
   ·rw [es] at hy
    rcases Bl.mp hy with rfl | hy
    ·intro hm
     rcases Bl.mp hm with h | h
     ·exact hc h.symm
     ·exact h1 a (e▸CB ..) h
    ·exact h1 y (e▸Bq _ hy)
   ·have h:=h2 z
    rw [e] at h;rw [es];have e3:zCf s z (c::r)=c::zCf s z r:=by unfold zCf; rw [C5,if_neg hc]; rfl
    rw [e3,<-h];rfl
theorem zUi(s:Nat)(x:List Nat):zCf s [s] x=x:=by
 unfold zCf
 induction x with
 | nil=>rfl
 | cons c r ih=>
  rw [C5,ih]
  by_cases h:c=s
  ·rw [if_pos h,h]; rfl
  ·rw [if_neg h]; rfl
theorem zFU(s:Nat)(z x:List Nat):Txt.replace (zA x) (zA [s]) (zA z)=zA (zCf s z x):=by
 obtain ⟨a,l,e,h1,h2⟩:=zNB s x;have hx:x=jn [s] (spl s x):=(h2 [s]).trans (zUi s x) |>.symm;have e1:Txt.replace (zA x) (zA [s]) (zA z)=Str.join (zA z) (Dl (zA x) (zA [s])):=StrLaws.replace_one _ _ _;have e2:Dl (zA x) (zA [s])=(spl s x).map zA:=by
  conv=>lhs; rw [hx]
  exact zQX (by rw [e]; simp) h1
 rw [e1,e2,zLU,h2]
noncomputable def esc(u:List Nat):List Nat:=zCf 32 [92,32] u
theorem uX(c:Nat)(u:List Nat):esc (c::u)=(if c=32 then [92,32] else [c]) ++ esc u:=rfl
noncomputable def plD(c:Nat):Prop:=c≠34/\c≠92/\c≠10/\(c≠32->isW c=false)
theorem zJa{r:List Nat}{ln:Int}:∀(u t:List Nat),(∀c∈u,plD c)->uB t ln (esc u ++ 34::r)=some (t ++ u,ln,r)
 | [],t,_=>by
  show uB t ln (34::r)=_;rw [zF7];rw [if_pos rfl,Bp]
 | c::u,t,h=>by
  have hc:=h c (by simp);have ih:=zJa (r:=r) (ln:=ln) u (t ++ [c]) fun x hx=>h x (by simp [hx]);rw [uX]
  by_cases e:c=32
  ·subst e
   rw [if_pos rfl];show uB t ln (92::32::(esc u ++ 34::r))=_;rw [zF7];rw [if_neg (by decide),if_pos rfl];dsimp only;rw [qX (by decide),ih,CA];rfl
  ·rw [if_neg e]
   show uB t ln (c::(esc u ++ 34::r))=_;rw [zF7];rw [if_neg hc.1,if_neg hc.2.1,qX hc.2.2.1,ih,CA];rfl
theorem zIC{r:List Nat}{ln:Int}{d:Nat}(hd:isW d=true):∀(u t:List Nat),(∀c∈u,plD c)->uH t ln (esc u ++ d::r)=some (t ++ u,yC d ln,r)
 | [],t,_=>by
  show uH t ln (d::r)=_;unfold uH;rw [hd,Bp]
 | c::u,t,h=>by
  have hc:=h c (by simp);have ih:=zIC (r:=r) (ln:=ln) hd u (t ++ [c]) fun x hx=>h x (by simp [hx]);rw [uX]
  by_cases e:c=32
  ·subst e
   rw [if_pos rfl];show uH t ln (92::32::(esc u ++ d::r))=_;unfold uH;rw [show isW 92=false from rfl];dsimp only;rw [if_pos rfl,qX (by decide),ih,CA];rfl
  ·rw [if_neg e]
   show uH t ln (c::(esc u ++ d::r))=_;unfold uH;rw [hc.2.2.2 e];dsimp only;rw [if_neg hc.2.1,qX hc.2.2.1,ih,CA];rfl
theorem zMx{d:Nat}{ln:Int}{r:List Nat}(hd:isW d=true):vR ln (d::r)=vR (yC d ln) r:=by
 conv=>lhs; unfold vR
 rw [hd]
noncomputable def wrap(p:Bool)(w:List Nat):List Nat:=if p then 34::(w ++ [34]) else w
theorem zQK{p:Bool}{d:Nat}{ln:Int}{c:Nat}{u r:List Nat}(hd:isW d=true)(h:∀x∈c::u,plD x)(h0:c≠32):vR ln (wrap p (esc (c::u)) ++ d::r)=some (c::u,if p then ln else yC d ln,if p then d::r else r):=by
 have hc:=h c (by simp);cases p with
 | true=>
  have e:wrap true (esc (c::u)) ++ d::r=34::(esc (c::u) ++ 34::(d::r)):=by simp [wrap]
  rw [e];have z:vR ln (34::(esc (c::u) ++ 34::(d::r)))=uB [] ln (esc (c::u) ++ 34::(d::r)):=by
   conv=>lhs; unfold vR
   rfl
  rw [z];exact zJa (c::u) [] h
 | false=>
  show vR ln (esc (c::u) ++ d::r)=_;rw [uX,if_neg h0];show vR ln (c::(esc u ++ d::r))=_;unfold vR;rw [hc.2.2.2 h0];dsimp only;rw [if_neg hc.1,if_neg hc.2.1,qX hc.2.2.1,zIC hd u _ fun x hx=>h x (by simp [hx])];rfl
theorem zE5{u:List Nat}(h:∀c∈u,plD c):(esc u).count 10=0:=by
 refine List.count_eq_zero.mpr fun m=>?_;obtain ⟨c,hc,m⟩:=Cr.mp m;split at m
 ·simp at m
 ·exact (h c hc).2.2.1 (BP.mp m).symm
theorem zKf{p:Bool}{d:Nat}{u:List Nat}(h:∀c∈u,plD c):(wrap p (esc u) ++ [d]).count 10=if d=10 then 1 else 0:=by
 have h6:(wrap p (esc u)).count 10=0:=by
  unfold wrap;split
  ·simp [zE5 h]
  ·exact zE5 h
 rw [Dr,h6,Cx]
 by_cases e:d=10
 ·subst e; rfl
 ·rw [if_neg e]; simp [List.count_cons,e]
noncomputable def whT(s:Stmt):Expr:=(stP s).1
noncomputable def whB(s:Stmt):List Stmt:=(stP s).2.2.1
noncomputable def zBW(fd:FuncData):List Stmt:=(zDc fd.body).getD []
noncomputable def aeF(fd:FuncData)(loc:Nat)(cells:List (Str×Nat)):AE:={scope:=fd.scope,loc:=loc,cells:=cells,qual:=fd.qualname ++ ".<locals>.",code:=fd.code}
noncomputable abbrev ct(m:Bool):Sto:=[.ctab 325 m]
noncomputable def yA3(b:Bool)(P:Params):FuncData:=qD (zFS b P)
noncomputable def zZO(b:Bool)(P:Params):FuncData:=qD (zHa b P)
noncomputable def yBc(b:Bool)(P:Params):FuncData:=qD (zGK b P)
noncomputable def yAf(b:Bool)(P:Params):FuncData:=qD (zGw b P)
noncomputable def yA1(b:Bool)(P:Params):FuncData:=qD (zHb b P)
noncomputable def yAv(b:Bool)(P:Params):FuncData:=qD (zGQ b P)
theorem zED{l l':List Prop}(h:qQ l)(h':qQ l'):qQ (l ++ l'):=by
 induction l with
 | nil=>exact h'
 | cons p l ih=>exact ⟨h.1,ih h.2⟩
noncomputable def zBM:List Nat:=[173,847,6150,6155,6156,6157,8203,8204,8205,8288,65279]
noncomputable def fdT(i n:Nat):List Nat:=match i with
 | 0=>[119808 + 52 * n]
 | 1=>[8492,32,99]
 | 2=>[223]
 | _=>[64260]
noncomputable def spN(i lk n:Nat):List Nat:=match lk with
 | 0=>twN i
 | 1=>(twN i).map upF
 | 2=>fdT i n
 | _=>(twN i).take 1 ++ zBM.getD n 0::(twN i).drop 1
noncomputable def nL:List Nat:=[0,1,2,3,4,5,6,7,8,9,10]
noncomputable def spL(b:Bool)(P:Params)(m:Bool)(i lk:Nat):=nL.map fun n=>zD ((evK (cf b P) 20).c (.val (.ref 316)) [.str (zA (twN i)),.int (BL lk),.int (BL n)] [] (ct m) .done) [.ans 13 true] []
noncomputable def spR(b:Bool)(P:Params)(m:Bool)(i lk:Nat):=nL.map fun n=>some ([@decide ((cf b P).hs=(cf b P).hs) (Dh _)=true],V.str (zA (spN i lk n)),ct m)
theorem yCg(b:Bool)(P:Params)(m:Bool):spL b P m 0 0=spR b P m 0 0:=by kernel_rfl
theorem yCc(b:Bool)(P:Params)(m:Bool):spL b P m 0 1=spR b P m 0 1:=by kernel_rfl
theorem yAN(b:Bool)(P:Params)(m:Bool):spL b P m 0 2=spR b P m 0 2:=by kernel_rfl
theorem zZ8(b:Bool)(P:Params)(m:Bool):spL b P m 0 3=spR b P m 0 3:=by kernel_rfl
theorem yBW(b:Bool)(P:Params)(m:Bool):spL b P m 1 0=spR b P m 1 0:=by kernel_rfl
theorem zZc(b:Bool)(P:Params)(m:Bool):spL b P m 1 1=spR b P m 1 1:=by kernel_rfl
theorem yBn(b:Bool)(P:Params)(m:Bool):spL b P m 1 2=spR b P m 1 2:=by kernel_rfl
theorem zZE(b:Bool)(P:Params)(m:Bool):spL b P m 1 3=spR b P m 1 3:=by kernel_rfl
theorem yA0(b:Bool)(P:Params)(m:Bool):spL b P m 2 0=spR b P m 2 0:=by kernel_rfl
theorem yBw(b:Bool)(P:Params)(m:Bool):spL b P m 2 1=spR b P m 2 1:=by kernel_rfl
theorem zZK(b:Bool)(P:Params)(m:Bool):spL b P m 2 2=spR b P m 2 2:=by kernel_rfl
theorem zZk(b:Bool)(P:Params)(m:Bool):spL b P m 2 3=spR b P m 2 3:=by kernel_rfl
theorem yBi(b:Bool)(P:Params)(m:Bool):spL b P m 3 0=spR b P m 3 0:=by kernel_rfl
theorem yBs(b:Bool)(P:Params)(m:Bool):spL b P m 3 1=spR b P m 3 1:=by kernel_rfl
theorem zZp(b:Bool)(P:Params)(m:Bool):spL b P m 3 2=spR b P m 3 2:=by kernel_rfl
theorem yCk(b:Bool)(P:Params)(m:Bool):spL b P m 3 3=spR b P m 3 3:=by kernel_rfl
theorem zI{i:Nat}(h:i < 4):i=0\/i=1\/i=2\/i=3:=by lia
theorem zAI{n:Nat}(h:n < 11):n∈nL:=by
 have e:nL=zAn 0 11:=rfl;rw [e];exact BZ (i:=n) ((uK 11 0 n h).trans (by rw [Cx]))
theorem zYM(b:Bool)(P:Params)(m:Bool){i lk:Nat}(hi:i < 4)(hl:lk < 4):spL b P m i lk=spR b P m i lk:=by
 rcases zI hi with rfl | rfl | rfl | rfl
 ·rcases zI hl with rfl | rfl | rfl | rfl
  ·exact yCg b P m
  ·exact yCc b P m
  ·exact yAN b P m
  ·exact zZ8 b P m
 ·rcases zI hl with rfl | rfl | rfl | rfl
  ·exact yBW b P m
  ·exact zZc b P m
  ·exact yBn b P m
  ·exact zZE b P m
 ·rcases zI hl with rfl | rfl | rfl | rfl
  ·exact yA0 b P m
  ·exact yBw b P m
  ·exact zZK b P m
  ·exact zZk b P m
 ·rcases zI hl with rfl | rfl | rfl | rfl
  ·exact yBi b P m
  ·exact yBs b P m
  ·exact zZp b P m
  ·exact yCk b P m
theorem zDK(b:Bool)(P:Params)(m:Bool){i lk n:Nat}(hi:i < 4)(hl:lk < 4)(hn:n < 11):evC (cf b P) 20 (.val (.ref 316)) [.str (zA (twN i)),.int (BL lk),.int (BL n)] [] (ct m)=some (.str (zA (spN i lk n)),ct m):=
 zAF (BO.mp (zYM b P m hi hl) n (zAI hn)) ⟨@decide_eq_true _ (Dh _) rfl,trivial⟩
noncomputable def yBb:List Nat:=[56,102,316,230,211,288,345]
noncomputable def F1(b:Bool)(P:Params)(a:Addr)(args:List V)(σ:Sto):Option (V×Sto):=evC (cf b P) 20 (.val (.ref a)) args [] σ
noncomputable def cf1(b:Bool)(P:Params):Cf:=cfF b P (yX · yBb) (F1 b P) 45
theorem zTY{prog:Program}{w:World}{b:Bool}{X:Frag}:∀a,yX a yBb=true->zCb prog w (KX b w.params X) 45 a (F1 b w.params a):=fun a _=>
 kJ (zNt (iF:=fun _=>false) (F:=fun _ _ _=>none) (n:=0) fun a h=>nomatch h) (N:=20) (by decide)
theorem zOJ{prog:Program}{w:World}{b:Bool}{X:Frag}:CfOK prog w (KX b w.params X) (cf1 b w.params):=zNt zTY
noncomputable def zRk:List V:=(Dl (S "( ) [ ] : , ; + - * / | & < > = . % { } == != <= >= ~ ^ << >> **" ++ S " += -= *= /= %= &= |= ^= <<= >>= **= // //= @ @= -> ... := !") (S " ")).map V.str
section
variable(b:Bool)(P:Params)(m:Bool)(i j c0 c1 c2 d:Nat)(r0 r1 r2 w1 w2 w3:List Nat)(t look:Int)
noncomputable def yAm:List Dec:=[.val 8 (.str (zA (c0::r0))) (ct m),.val 4 (.str (zA (c1::r1))) [],.ans 2 true,.val 0 (.str (zA (c0::w1))) [],.val 3 (.str (zA (c2::r2))) (ct m),.ans 3 true,.val 0 (.str (zA (c0::w2))) [],.ans 0 true,.val 0 (.str (zA (c0::w3))) []]
noncomputable def yCI:List Dec:=[.ans 2 true,.ans 2 true,.val 0 (.str (zA (34::c0::w3))) [],.ans 2 true,.val 0 (.str (zA (34::(c0::w3 ++ [34])))) [],.val 2 (.str (zA [d])) [],.ans 2 true,.val 0 (.str (zA (34::(c0::w3 ++ [34]) ++ [d]))) []]
noncomputable def yDC:List Dec:=[.ans 2 false,.val 2 (.str (zA [d])) [],.ans 2 true,.val 0 (.str (zA (c0::w3 ++ [d]))) []]
noncomputable def zVp:List Prop:=[F1 b P 316 [.str (zA (twN i)),.int (look.fmod 4),.int ((look.fdiv 128).fmod 11)] (ct m)=some (.str (zA (c0::r0)),ct m),
  kK (xM (.tup zRk) (.int (t - 7))) (.str (zA (c1::r1))),decide ((zA (c0::r0) ++ zA (c1::r1)).length<=sizeLine)=true,kK (some (.str (zA (c0::r0) ++ zA (c1::r1)))) (.str (zA (c0::w1))),
  F1 b P 316 [.str (zA (twN j)),.int ((look.fdiv 4).fmod 4),.int ((look.fdiv 128).fmod 11)] (ct m)=some (.str (zA (c2::r2)),ct m),
  decide ((zA (c0::w1) ++ zA (c2::r2)).length<=sizeLine)=true,kK (some (.str (zA (c0::w1) ++ zA (c2::r2)))) (.str (zA (c0::w2))),
  (!zA [32]==zA [92,32] && decide ((zA (c0::w2)).length + ((zA (c0::w2)).length + 1) * (zA [92,32]).length<=16777216))=true,kK (some (.str (Txt.replace (zA (c0::w2)) (zA [32]) (zA [92,32])))) (.str (zA (c0::w3)))]
noncomputable def yBH:List Prop:=[((look.fdiv 16).fmod 2 !=0)=true,decide ((zA [34] ++ zA (c0::w3)).length<=sizeLine)=true,kK (some (.str (zA [34] ++ zA (c0::w3)))) (.str (zA (34::c0::w3))),decide ((zA (34::c0::w3) ++ zA [34]).length<=sizeLine)=true,kK (some (.str (zA (34::c0::w3) ++ zA [34]))) (.str (zA (34::(c0::w3 ++ [34])))),
   kK (xM (.str (S " \n\t\r")) (.int ((look.fdiv 32).fmod 4))) (.str (zA [d])),decide ((zA (34::(c0::w3 ++ [34])) ++ zA [d]).length<=sizeLine)=true,kK (some (.str (zA (34::(c0::w3 ++ [34])) ++ zA [d]))) (.str (zA (34::(c0::w3 ++ [34]) ++ [d])))]
noncomputable def zZo:List Prop:=[((look.fdiv 16).fmod 2 !=0)=false,kK (xM (.str (S " \n\t\r")) (.int ((look.fdiv 32).fmod 4))) (.str (zA [d])),decide ((zA (c0::w3) ++ zA [d]).length<=sizeLine)=true,kK (some (.str (zA (c0::w3) ++ zA [d]))) (.str (zA (c0::w3 ++ [d])))]
theorem yDN:zD ((evK (cf1 b P) 30).c (.val (.ref 323)) [.tup [.str (zA (twN i)),.int t,.str (zA (twN j))],.int look] [] (ct m) .done) (yAm m c0 c1 c2 r0 r1 r2 w1 w2 w3 ++ yCI c0 d w3) []=some (zVp b P m i j c0 c1 c2 r0 r1 r2 w1 w2 w3 t look ++ yBH c0 d w3 look,.str (zA (34::(c0::w3 ++ [34]) ++ [d])),ct m):=by kernel_rfl
theorem yDQ:zD ((evK (cf1 b P) 30).c (.val (.ref 323)) [.tup [.str (zA (twN i)),.int t,.str (zA (twN j))],.int look] [] (ct m) .done) (yAm m c0 c1 c2 r0 r1 r2 w1 w2 w3 ++ yDC c0 d w3) []=some (zVp b P m i j c0 c1 c2 r0 r1 r2 w1 w2 w3 t look ++ zZo c0 d w3 look,.str (zA (c0::w3 ++ [d])),ct m):=by kernel_rfl
variable{b P m i j c0 c1 c2 d r0 r1 r2 w1 w2 w3 t look}
theorem yAM{w:List Nat}(h:w.length<=1000):(!zA [32]==zA [92,32] && decide ((zA w).length + ((zA w).length + 1) * (zA [92,32]).length<=16777216))=true:=by
 have e:(zA [32]==zA [92,32])=false:=by decide +kernel
 rw [e,uU,uU];exact decide_eq_true (by show w.length + (w.length + 1) * 2<=16777216; lia)
theorem yDK(h1:F1 b P 316 [.str (zA (twN i)),.int (look.fmod 4),.int ((look.fdiv 128).fmod 11)] (ct m)=some (.str (zA (c0::r0)),ct m))(h2:kK (xM (.tup zRk) (.int (t - 7))) (.str (zA (c1::r1))))
  (h5:F1 b P 316 [.str (zA (twN j)),.int ((look.fdiv 4).fmod 4),.int ((look.fdiv 128).fmod 11)] (ct m)=some (.str (zA (c2::r2)),ct m)) (e1:w1=r0 ++ (c1::r1)) (e2:w2=w1 ++ (c2::r2)) (l0:r0.length<=10) (l1:r1.length<=10) (l2:r2.length<=10) (h9:zCf 32 [92,32] (c0::w2)=c0::w3):
  qQ (zVp b P m i j c0 c1 c2 r0 r1 r2 w1 w2 w3 t look):=by
 subst e1 e2;refine ⟨h1,h2,vD (by simp; lia),qG (congrArg (some ∘ V.str) (xU _ _)),h5,vD (by simp; lia),qG (congrArg (some ∘ V.str) (xU _ _)),yAM (by simp; lia),?_,trivial⟩;rw [zFU,h9];exact qG rfl
theorem yAX(hq:((look.fdiv 16).fmod 2 !=0)=true)(hd:kK (xM (.str (S " \n\t\r")) (.int ((look.fdiv 32).fmod 4))) (.str (zA [d])))(hl:w3.length<=100):qQ (yBH c0 d w3 look):=
 ⟨hq,vD (by simp; lia),qG (congrArg (some ∘ V.str) (xU _ _)),vD (by simp; lia),qG (congrArg (some ∘ V.str) (xU _ _)),hd,vD (by simp; lia),qG (congrArg (some ∘ V.str) (xU _ _)),trivial⟩
theorem yBj(hq:((look.fdiv 16).fmod 2 !=0)=false)(hd:kK (xM (.str (S " \n\t\r")) (.int ((look.fdiv 32).fmod 4))) (.str (zA [d])))(hl:w3.length<=100):qQ (zZo c0 d w3 look):=
 ⟨hq,hd,vD (by simp; lia),qG (congrArg (some ∘ V.str) (xU _ _)),trivial⟩
end
noncomputable def zEg:List (List Nat):=[[40],[41],[91],[93],[58],[44],[59],[43],[45],[42],[47],[124],[38],[60],[62],[61],[46],[37],[123],[125],[61,61],[33,61],[60,61],[62,61],[126],[94],[60,60],[62,62],[42,42],[43,61],[45,61],[42,61],[47,61],[37,61],[38,61],[124,61],[94,61],[60,60,61],[62,62,61],[42,42,61],[47,47],[47,47,61],[64],[64,61],[45,62],[46,46,46],[58,61],[33]]
noncomputable def opN(k:Nat):List Nat:=zEg.getD k []
theorem zYA:zRk=zEg.map fun o=>V.str (zA o):=by kernel_rfl
theorem zHx{l:List V}{k:Nat}(h:k < l.length)(hz:l.length<=1000):xM (.tup l) (.int (BL k))=l[k]? :=by
 show (zKz (BL k) l.length).bind (l[·]?)=_;have e:zKz (BL k) l.length=some k:=by
  unfold zKz;rw [if_neg (by
   have h1:¬((BL k) < -(2 ^ 63:Int)):=by show ¬((k:Int) < _); lia
   have h2:¬((BL k) ≥ 2 ^ 63):=by show ¬((k:Int) ≥ _); lia
   rw [decide_eq_false h1,decide_eq_false h2]; exact Bk)]
  have h3:¬((BL k) < 0):=by show ¬((k:Int) < 0); lia
  unfold seqIndex?;dsimp only;rw [if_neg h3,if_pos (by
   rw [decide_eq_true (show (0:Int)<=BL k from Int.natCast_nonneg k),decide_eq_true (show BL k < (l.length:Int) from EG.mpr h)]; rfl)]
  rfl
 rw [e]; rfl
theorem zYn{k:Nat}(h:k < 48):xM (.tup zRk) (.int (BL k))=some (.str (zA (opN k))):=by
 have hl:(zEg.map fun o=>V.str (zA o)).length=48:=by rw [BW]; rfl
 rw [zYA,zHx (by rw [hl]; exact h) (by rw [hl]; decide),Bc];unfold opN;rw [C0];have hk:k < zEg.length:=h;rw [Bi hk];rfl
noncomputable def yB8:Bool:=zEg.all fun o=>!o.isEmpty && CL o.length 3 && o.all fun c=>!BQ c 34 && !BQ c 92 && !BQ c 32 && !isW c
theorem yBV:yB8=true:=by decide +kernel
noncomputable def plB(c:Nat):Bool:=!BQ c 34 && !BQ c 92 && !BQ c 10 && (BQ c 32 || !isW c)
theorem zSg{c:Nat}(h:plB c=true):plD c:=by
 unfold plB at h;simp only [Bu,DU,Bx,Nat.beq_eq] at h;obtain ⟨⟨⟨h1,h2⟩,h3⟩,h4⟩:=h;exact ⟨fun e=>(by rw [e] at h1; cases h1),fun e=>(by rw [e] at h2; cases h2),fun e=>(by rw [e] at h3; cases h3),fun e=>h4.resolve_left e⟩
noncomputable def yAb(i lk n:Nat):Bool:=CL (spN i lk n).length 5 && (match spN i lk n with | []=>false | c::_=>!BQ c 32) && (spN i lk n).all plB
noncomputable def lt4:List Nat:=[0,1,2,3]
noncomputable def zUy:Bool:=lt4.all fun i=>lt4.all fun lk=>nL.all fun n=>yAb i lk n
theorem zO9:zUy=true:=by decide +kernel
theorem xK{i:Nat}(h:i < 4):i∈lt4:=by
 rcases zI h with rfl | rfl | rfl | rfl <;>decide
theorem zMb{i lk n:Nat}(hi:i < 4)(hl:lk < 4)(hn:n < 11):∃c r,spN i lk n=c::r/\c≠32/\r.length<=4/\∀x∈c::r,plD x:=by
 have h:=zO9;unfold zUy at h;have h:=BV.mp (BV.mp (BV.mp h i (xK hi)) lk (xK hl)) n (zAI hn);unfold yAb at h;rw [Bu,Bu] at h;obtain ⟨⟨h1,h2⟩,h3⟩:=h;cases e:spN i lk n with
 | nil=>rw [e] at h2; cases h2
 | cons c r=>
  rw [e] at h1 h2 h3;refine ⟨c,r,rfl,fun z=>(by rw [z] at h2; cases h2),Nat.le_of_succ_le_succ (C9 h1),fun x hx=>zSg (BV.mp h3 x hx)⟩
theorem zU7{k:Nat}(h:k < 48):∃c r,opN k=c::r/\r.length<=2/\∀x∈c::r,plD x/\x≠32:=by
 have z:=yBV;unfold yB8 at z;have hm:opN k∈zEg:=by
  unfold opN;rw [C0,Bi (show k < zEg.length from h)];exact Da ..
 have z:=BV.mp z _ hm;simp only [Bu] at z;obtain ⟨⟨h1,h2⟩,h3⟩:=z;cases e:opN k with
 | nil=>rw [e] at h1; cases h1
 | cons c r=>
  rw [e] at h2 h3;refine ⟨c,r,rfl,Nat.le_of_succ_le_succ (C9 h2),fun x hx=>?_⟩;have h4:=BV.mp h3 x hx;simp only [Bu,Bx] at h4;obtain ⟨⟨⟨a1,a2⟩,a3⟩,a4⟩:=h4;exact ⟨⟨fun e=>(by rw [e] at a1; cases a1),fun e=>(by rw [e] at a2; cases a2),fun e=>(by rw [e] at a4; cases a4),fun _=>a4⟩,fun e=>(by rw [e] at a3; cases a3)⟩
noncomputable def lkA(look:Int):Nat:=(look.fmod (4:Nat)).toNat
noncomputable def lkB(look:Int):Nat:=((look.fdiv 4).fmod (4:Nat)).toNat
noncomputable def lkN(look:Int):Nat:=((look.fdiv 128).fmod (11:Nat)).toNat
noncomputable def lkQ(look:Int):Bool:=(look.fdiv 16).fmod 2 !=0
noncomputable def lkD(look:Int):Nat:=[32,10,9,13].getD ((look.fdiv 32).fmod (4:Nat)).toNat 0
noncomputable def tkN(t:Int):Nat:=((t.fdiv 12).fmod (48:Nat)).toNat
noncomputable def wdN(c look:Int):List Nat:=spN (e0 c) (lkA look) (lkN look) ++ opN (tkN c) ++ spN (e1 c) (lkB look) (lkN look)
noncomputable def wrN(c look:Int):List Nat:=wrap (lkQ look) (esc (wdN c look)) ++ [lkD look]
theorem zFi(c:Int):e0 c < 4:=(fmN c 4 (by decide)).2
theorem zFL(c:Int):e1 c < 4:=(fmN (c + 1 + (c.fdiv 4).fmod 3) 4 (by decide)).2
theorem zGO(c:Int):lkA c < 4:=(fmN c 4 (by decide)).2
theorem zFR(c:Int):lkB c < 4:=(fmN _ 4 (by decide)).2
theorem uV(c:Int):lkN c < 11:=(fmN _ 11 (by decide)).2
theorem zDw(c:Int):tkN c < 48:=(fmN _ 48 (by decide)).2
theorem zK0(look:Int):isW (lkD look)=true:=by
 unfold lkD;have h:=(fmN (look.fdiv 32) 4 (by decide)).2;generalize ((look.fdiv 32).fmod (4:Nat)).toNat=k at h;rcases zI h with rfl | rfl | rfl | rfl <;>rfl
theorem zZ7(look:Int):kK (xM (.str (S " \n\t\r")) (.int ((look.fdiv 32).fmod 4))) (.str (zA [lkD look])):=by
 have h:=fmN (look.fdiv 32) 4 (by decide);have e:(look.fdiv 32).fmod 4=BL ((look.fdiv 32).fmod (4:Nat)).toNat:=h.1;rw [e];unfold lkD;have h2:=h.2;generalize ((look.fdiv 32).fmod (4:Nat)).toNat=k at h2;rcases zI h2 with rfl | rfl | rfl | rfl <;>exact qG (by kernel_rfl)
theorem zLL(c look:Int):∃x r,wdN c look=x::r/\x≠32/\r.length<=12/\∀y∈x::r,plD y:=by
 obtain ⟨a,r,h1,h2,h3,h4⟩:=zMb (zFi c) (zGO look) (uV look);obtain ⟨a',r',g1,_,g3,g4⟩:=zMb (zFL c) (zFR look) (uV look);obtain ⟨o,s,o1,o2,o3⟩:=zU7 (zDw c);refine ⟨a,r ++ opN (tkN c) ++ spN (e1 c) (lkB look) (lkN look),by unfold wdN; rw [h1]; rfl,h2,?_,fun y hy=>?_⟩
 ·rw [o1,g1]; simp; lia
 ·rw [o1,g1] at hy
  simp only [Bl,BR] at hy h4 g4 o3;rcases hy with rfl | ((hy | hy) | hy)
  ·exact h4 _ (.inl rfl)
  ·exact h4 _ (.inr hy)
  ·exact (o3 _ hy).1
  ·exact g4 _ hy
theorem zGN:∀u:List Nat,(esc u).length<=2 * u.length
 | []=>Ca _
 | c::u=>by
  have h:=zGN u;rw [uX,BY];split
  ·simp; lia
  ·simp; lia
section
variable(b:Bool)(P:Params)(m:Bool)
theorem zJA(c look:Int):evC (cf1 b P) 30 (.val (.ref 323)) [zI3 c,.int look] [] (ct m)=some (.str (zA (wrN c look)),ct m):=by
 obtain ⟨c0,r0,h1,h2,h3,h4⟩:=zMb (zFi c) (zGO look) (uV look);obtain ⟨c2,r2,g1,g2,g3,g4⟩:=zMb (zFL c) (zFR look) (uV look);obtain ⟨c1,r1,o1,o2,o3⟩:=zU7 (zDw c);have hw:wdN c look=c0::(r0 ++ (c1::r1) ++ (c2::r2)):=by unfold wdN; rw [h1,o1,g1]; rfl
 have eA:look.fmod 4=BL (lkA look):=(fmN look 4 (by decide)).1;have eB:(look.fdiv 4).fmod 4=BL (lkB look):=(fmN (look.fdiv 4) 4 (by decide)).1;have eN:(look.fdiv 128).fmod 11=BL (lkN look):=(fmN (look.fdiv 128) 11 (by decide)).1;have eT:zEs c - 7=BL (tkN c):=by
  have h:=(fmN (c.fdiv 12) 48 (by decide)).1;have h:(c.fdiv 12).fmod 48=BL (tkN c):=h;unfold zEs;rw [h]; lia
 have E1:=zDK b P m (zFi c) (zGO look) (uV look);have E2:=zDK b P m (zFL c) (zFR look) (uV look);rw [h1] at E1;rw [g1] at E2;have ew:esc (wdN c look)=c0::esc (r0 ++ (c1::r1) ++ (c2::r2)):=by rw [hw,uX,if_neg h2]; rfl
 have hl:(esc (r0 ++ (c1::r1) ++ (c2::r2))).length<=100:=by
  have:=zGN (r0 ++ (c1::r1) ++ (c2::r2));simp at this ⊢; lia
 rw [<-eA,<-eN] at E1;rw [<-eB,<-eN] at E2;have E3:kK (xM (.tup zRk) (.int (zEs c - 7))) (.str (zA (c1::r1))):=by rw [eT,<-o1]; exact qG (zYn (zDw c))
 have base:=yDK (b:=b) (P:=P) (m:=m) (look:=look) (t:=zEs c) (w3:=esc (r0 ++ (c1::r1) ++ (c2::r2))) E1 E3 E2 rfl rfl (by lia) (by lia) (by lia) (by rw [<-hw]; exact ew);have hd:=zZ7 look;unfold wrN zI3;rw [ew];generalize esc (r0 ++ (c1::r1) ++ (c2::r2))=w3 at *;generalize r0 ++ (c1::r1) ++ (c2::r2)=w2 at *;generalize r0 ++ (c1::r1)=w1 at *;cases hq:lkQ look with
 | true=>
  rw [show wrap true (c0::w3) ++ [lkD look]=34::(c0::w3 ++ [34]) ++ [lkD look] from rfl];exact zAF (yDN b P m (e0 c) (e1 c) c0 c1 c2 (lkD look) r0 r1 r2 w1 w2 w3 (zEs c) look) (zED base (yAX hq hd hl))
 | false=>
  rw [show wrap false (c0::w3) ++ [lkD look]=c0::w3 ++ [lkD look] from rfl];exact zAF (yDQ b P m (e0 c) (e1 c) c0 c1 c2 (lkD look) r0 r1 r2 w1 w2 w3 (zEs c) look) (zED base (yBj hq hd hl))
end
noncomputable def kC(m:(Sto->Sy)->Sy)(AA:Sto):Prop:=∀k z,run (k AA)=some z->run (m k)=some z
theorem zP{m:(Sto->Sy)->Sy}{AA:Sto}{ds:List Dec}(ps:List Prop)(h:∀k,zD (m k) ds []=zD (k AA) [] ps)(hp:qQ ps):kC m AA:=fun k z hz=>(uC ((h k).trans (zAC hz)) hp).1
section
variable{q:RecK}{t elt:Expr}{ifs:List Expr}{emit:Sto->(Sto->Sy)->Sy}{ae:AE}{nx:Nx}{i fu m:Nat}{σ A4 A5 A8 AI:Sto}{v:V}{f:Fl}{body:List Stmt}
noncomputable def kCV(q:RecK)(t:Expr)(ifs:List Expr)(emit:Sto->(Sto->Sy)->Sy)(ae:AE)(v:V)(σ:Sto)(k:Sto->Sy):Sy:=liO (wO t v ae σ) fun A4=>zD9 q ifs ae A4 fun b A5=>xG b (emit A5 k) (k A5)
theorem yF(h1:nx σ i=some (some v))(h:kC (kCV q t ifs emit ae v σ) A4)(h2:kC (fun k=>yE q t ifs emit ae nx k fu (i + 1) A4) A5):kC (fun k=>yE q t ifs emit ae nx k (fu + 1) i σ) A5:=fun k z hz=>by
 have h3:=h (fun A8=>yE q t ifs emit ae nx k fu (i + 1) A8) z (h2 k z hz);show run (liO (nx σ i) _)=_;rw [h1];exact h3
theorem xS(h1:nx σ i=some none):kC (fun k=>yE q t ifs emit ae nx k (fu + 1) i σ) σ:=fun k z hz=>by
 show run (liO (nx σ i) _)=_;rw [h1];exact hz
theorem zJP(ht:Run (q.t t ae σ) true A4)(hb:Run (kS q body ae A4) .next A5)(hg:gc m A5=A8)(h:Run (fun k=>wQ q t body ae m k fu A8) f AI):Run (fun k=>wQ q t body ae m k (fu + 1) σ) f AI:=fun k z hz=>by
 refine ht _ z ?_;refine hb _ z ?_;show run (wQ q t body ae m k fu (gc m A5))=some z;rw [hg];exact h k z hz
theorem zNl(ht:Run (q.t t ae σ) false A4):Run (fun k=>wQ q t body ae m k (fu + 1) σ) .next A4:=fun k z hz=>ht _ z hz
theorem kN{α:Type}{a:α}{M:(α->Sto->Sy)->Sy}{C:(Sto->Sy)->Sy}{E:(α->Sto->Sy)->Sto->Sy}(e:∀k,M k=C (E k))(h:kC C A4)(h2:Run (fun k=>E k A4) a A5):Run M a A5:=fun k z hz=>by
 rw [e];exact h _ z (h2 k z hz)
end
noncomputable def rdB(b:Bool)(P:Params):List Stmt:=zBW (yA3 b P)
noncomputable def zDZ(b:Bool)(P:Params):AE:=aeF (yA3 b P) 1 []
noncomputable def yAL:Expr->Expr
 | .Call _ as _ _=>as.headD default
 | _=>default
noncomputable def lcE:Expr->Expr
 | .ListComp e _ _ _=>e
 | _=>default
noncomputable def lcG(i:Nat):Expr->Comprehension
 | .ListComp _ g _ _=>g.getD i ⟨default,default,[],0⟩
 | _=>⟨default,default,[],0⟩
noncomputable def lcS:Expr->Scope
 | .ListComp _ _ s _=>s
 | _=>default
noncomputable def zAo(e:Expr)(ae:AE)(loc:Nat)(cells:List (Str×Nat)):AE:={scope:=wC (lcS e) ae,loc:=loc,cells:=cells,qual:=ae.qual,code:=ae.code}
noncomputable def rdC(b:Bool)(P:Params):Expr:=yAL (zIQ ((rdB b P).getD 0 default))
noncomputable def rdS(m:Bool)(w:List Nat)(L:List Pl)(kv:List (Str×V)):Sto:=[.ctab 325 m,.ns [(S "word",.str (zA w))],.pls L,.ns kv]
noncomputable abbrev rdQ(b:Bool)(P:Params):RecK:=evK (cf1 b P) 26
noncomputable abbrev rdL(b:Bool)(P:Params)(w:List Nat)(fu i:Nat)(σ:Sto)(k:Sto->Sy):Sy:=yE (rdQ b P) (lcG 0 (rdC b P)).target (lcG 0 (rdC b P)).ifs (kD (rdQ b P) (lcE (rdC b P)) 2 (zAo (rdC b P) (zDZ b P) 3 [])) (zAo (rdC b P) (zDZ b P) 3 []) (nxS (zA w)) k fu i σ
section
variable{b:Bool}{P:Params}{m:Bool}{w:List Nat}{L:List Pl}{kv:List (Str×V)}{c:Nat}{y t:List Nat}
theorem zS7{k:Fl->Sto->Sy}:(evK (cf1 b P) 29).x ((rdB b P).getD 0 default) (zDZ b P) [.ctab 325 m,.ns [(S "word",.str (zA w))]] k=
  rdL b P w 1000 0 (rdS m w [] []) (yZ 2 (fun v A5=>(evK (cf1 b P) 27).c (.val (.builtin "str.join")) [.str (zA []),v] [] A5 (fun v A4=>qL (S "text") (zDZ b P) v A4 k))):=by kernel_rfl
inductive RdF:List (Str×V)->Prop
 | zero:RdF []
 | one (c:Nat):RdF [(S "sign",.str (zA [c]))]
noncomputable abbrev rdV(b:Bool)(P:Params)(c:Nat)(σ:Sto)(k:Sto->Sy):Sy:=kCV (rdQ b P) (lcG 0 (rdC b P)).target (lcG 0 (rdC b P)).ifs (kD (rdQ b P) (lcE (rdC b P)) 2 (zAo (rdC b P) (zDZ b P) 3 [])) (zAo (rdC b P) (zDZ b P) 3 []) (.str (zA [c])) σ k
theorem zUc(hk:RdF kv)(h:F1 b P 56 [.str (zA [c])] (ct m)=some (.bool true,ct m)):kC (rdV b P c (rdS m w L kv)) (rdS m w L [(S "sign",.str (zA [c]))]):=by
 cases hk <;>exact zP (ds:=[.val 0 (.bool true) (ct m)]) (ps:=[F1 b P 56 [.str (zA [c])] (ct m)=some (.bool true,ct m)]) (fun k=>by kernel_rfl) ⟨h,trivial⟩
theorem zSn(hk:RdF kv)(h:F1 b P 56 [.str (zA [c])] (ct m)=some (.bool false,ct m))(h2:F1 b P 102 [.str (zA [c])] (ct m)=some (.str (zA y),ct m))(hl:L.length < 1000):kC (rdV b P c (rdS m w L kv)) (rdS m w (L ++ [.one (.s (zA y))]) [(S "sign",.str (zA [c]))]):=by
 cases hk <;>exact zP (ds:=[.val 0 (.bool false) (ct m),.val 3 (.str (zA y)) (ct m),.ans 1 true]) (ps:=[F1 b P 56 [.str (zA [c])] (ct m)=some (.bool false,ct m),F1 b P 102 [.str (zA [c])] (ct m)=some (.str (zA y),ct m),decide (L.length < 1000)=true]) (fun k=>by kernel_rfl) ⟨h,h2,decide_eq_true hl,trivial⟩
theorem zXS{s:Str}(hk:RdF kv)(hj:zDe (zA []) L=some (.str s)):Run (fun k=>yZ 2 (fun v A5=>(evK (cf1 b P) 27).c (.val (.builtin "str.join")) [.str (zA []),v] [] A5 (fun v A4=>qL (S "text") (zDZ b P) v A4 k)) (rdS m w L kv)) .next [.ctab 325 m,.ns [(S "word",.str (zA w)),(S "text",.str s)],.pls L]:=by
 cases hk <;>exact qR (fun _=>[.val 0 (.str s) []]) [kK (zDe (zA []) L) (.str s)] (fun k=>by kernel_rfl) ⟨qG hj,trivial⟩
end
noncomputable def mp(c:Nat):List Nat:=if zBM.any (BQ c) then [] else if CL 65 c && CL c 90 then [c + 32] else if CL 119808 c then [97] else if BQ c 8492 then [98] else if BQ c 223 then [115,115] else if BQ c 64260 then [102,102,108] else [c]
noncomputable def sgT:List Nat:=[97,98,32,99,115,102,108,65,66,67,83,70,76,8492,223,64260]
noncomputable def sgA:List Nat:=[119808,119860,119912,119964,120016,120068,120120,120172,120224,120276,120328]
noncomputable def sgP:List Nat:=[40,41,91,93,58,44,59,43,45,42,47,124,38,60,62,61,46,37,123,125,33,126,94,64]
noncomputable def sgL(b:Bool)(P:Params)(m:Bool)(l:List Nat):=l.map fun c=>(F1 b P 56 [.str (zA [c])] (ct m),F1 b P 102 [.str (zA [c])] (ct m))
noncomputable def sgR(m:Bool)(l:List Nat):=l.map fun c=>(some (V.bool false,ct m),some (V.str (zA (mp c)),ct m))
theorem yCA(b:Bool)(P:Params)(m:Bool):sgL b P m sgT=sgR m sgT:=by kernel_rfl
theorem yDj(b:Bool)(P:Params)(m:Bool):sgL b P m sgA=sgR m sgA:=by kernel_rfl
theorem yCR(b:Bool)(P:Params)(m:Bool):sgL b P m sgP=sgR m sgP:=by kernel_rfl
theorem yCv(b:Bool)(P:Params)(m:Bool):zBM.map (fun c=>F1 b P 56 [.str (zA [c])] (ct m))=zBM.map fun c=>some (V.bool true,ct m):=by kernel_rfl
noncomputable def inN(l:List Nat)(c:Nat):Bool:=l.any (BQ c)
theorem zGz{l:List Nat}{c:Nat}(h:inN l c=true):c∈l:=by
 obtain ⟨x,hx,e⟩:=Ci.mp h;rw [Bg e]; exact hx
noncomputable def sgB(c:Nat):Bool:=inN sgT c || (inN sgA c || (inN sgP c || inN zBM c))
noncomputable def Hd(b:Bool)(P:Params)(m:Bool)(c:Nat):Prop:=(F1 b P 56 [.str (zA [c])] (ct m)=some (.bool true,ct m)/\inN zBM c=true)\/(F1 b P 56 [.str (zA [c])] (ct m)=some (.bool false,ct m)/\F1 b P 102 [.str (zA [c])] (ct m)=some (.str (zA (mp c)),ct m)/\inN zBM c=false)
theorem yBz{l:List Nat}(h:l.all (fun c=>!inN zBM c)=true){c:Nat}(hc:c∈l):inN zBM c=false:=(Bx _).mp (BV.mp h c hc)
theorem yBR(b:Bool)(P:Params)(m:Bool){c:Nat}(h:sgB c=true):Hd b P m c:=by
 have go:∀{l:List Nat},sgL b P m l=sgR m l->l.all (fun c=>!inN zBM c)=true->inN l c=true->Hd b P m c:=fun e n h=>by
  obtain ⟨h1,h2⟩:=Prod.mk.inj (BO.mp e c (zGz h));exact .inr ⟨h1,h2,yBz n (zGz h)⟩
 rcases CI.mp h with h | h
 ·exact go (yCA b P m) (by decide +kernel) h
 ·rcases CI.mp h with h | h
  ·exact go (yDj b P m) (by decide +kernel) h
  ·rcases CI.mp h with h | h
   ·exact go (yCR b P m) (by decide +kernel) h
   ·exact .inl ⟨BO.mp (yCv b P m) c (zGz h),h⟩
noncomputable def spF(i lk n:Nat):Bool:=eqL ((spN i lk n).flatMap mp) (twN i) && (spN i lk n).all sgB
noncomputable def yBF:Bool:=lt4.all fun i=>lt4.all fun lk=>nL.all fun n=>spF i lk n
theorem yDb:yBF=true:=by decide +kernel
noncomputable def yBS:Bool:=zEg.all fun o=>eqL (o.flatMap mp) o && o.all sgB
theorem yDi:yBS=true:=by decide +kernel
theorem zLJ{i lk n:Nat}(hi:i < 4)(hl:lk < 4)(hn:n < 11):(spN i lk n).flatMap mp=twN i/\∀c∈spN i lk n,sgB c=true:=by
 have h:=yDb;unfold yBF at h;have h:=BV.mp (BV.mp (BV.mp h i (xK hi)) lk (xK hl)) n (zAI hn);refine zF h fun h1 h2=>?_;exact ⟨(zCW _ _).mp h1,BV.mp h2⟩
theorem zWt{k:Nat}(h:k < 48):opN k∈zEg:=by
 unfold opN;rw [C0,Bi (show k < zEg.length from h)];exact Da ..
theorem zSX{k:Nat}(h:k < 48):(opN k).flatMap mp=opN k/\∀c∈opN k,sgB c=true:=by
 have z:=yDi;unfold yBS at z;refine zF (BV.mp z _ (zWt h)) fun h1 h2=>?_;exact ⟨(zCW _ _).mp h1,BV.mp h2⟩
theorem zUh(c look:Int):(wdN c look).flatMap mp=twN (e0 c) ++ opN (tkN c) ++ twN (e1 c)/\∀x∈wdN c look,sgB x=true:=by
 obtain ⟨a1,a2⟩:=zLJ (zFi c) (zGO look) (uV look);obtain ⟨b1,b2⟩:=zLJ (zFL c) (zFR look) (uV look);obtain ⟨c1,c2⟩:=zSX (zDw c);unfold wdN;rw [List.flatMap_append,List.flatMap_append,a1,b1,c1];refine ⟨rfl,fun x hx=>?_⟩;rcases BR.mp hx with hx | hx
 ·exact (BR.mp hx).elim (a2 x) (c2 x)
 ·exact b2 x hx
noncomputable def pcs(w:List Nat):List (List Nat):=(w.filter fun c=>!inN zBM c).map mp
noncomputable def pcL(w:List Nat):List Pl:=(pcs w).map fun y=> .one (.s (zA y))
section
variable{b:Bool}{P:Params}{m:Bool}
theorem zGt{w:List Nat}:∀(rest:List Nat) (i fu:Nat) (L:List Pl) (kv:List (Str×V)),w.drop i=rest->(∀c∈rest,Hd b P m c)->RdF kv->L.length + rest.length < 1000->rest.length < fu->
  ∃kv',RdF kv'/\kC (rdL b P w fu i (rdS m w L kv)) (rdS m w (L ++ pcL rest) kv')
 | [],i,fu + 1,L,kv,hd,_,hk,_,_=>by
  refine ⟨kv,hk,?_⟩;rw [show L ++ pcL []=L from Bp L];refine xS ?_;show some (((zA w).cps[i]?).map fun c=>V.str ⟨#[c]⟩)=some none;have h2:w.length<=i:=CP.mp hd;have e:(zA w).cps[i]? =none:=by
   show w.toArray[i]? =none;rw [Ds];exact C3 h2
  rw [e]; rfl
 | c::rest,i,fu + 1,L,kv,hd,hH,hk,hl,hf=>by
  have hi:nxS (zA w) (rdS m w L kv) i=some (some (.str (zA [c]))):=by
   show some (((zA w).cps[i]?).map fun c=>V.str ⟨#[c]⟩)=_;have e:(zA w).cps[i]? =some c:=by
    show w.toArray[i]? =_;rw [Ds];have h2:=congrArg (fun l=>l[0]?) hd;rw [Dm] at h2;exact h2
   rw [e]; rfl
  have hd':w.drop (i + 1)=rest:=by rw [<-List.drop_drop,hd]; rfl
  simp only [Bh] at hl hf;rcases hH c (by simp) with ⟨h1,h2⟩ | ⟨h1,h2,h3⟩
  ·obtain ⟨kv',k1,k2⟩:=zGt rest (i + 1) fu L _ hd' (fun x hx=>hH x (by simp [hx])) (.one c) (by lia) (by lia)
   refine ⟨kv',k1,?_⟩;have e:pcL (c::rest)=pcL rest:=by unfold pcL pcs; rw [CK,h2]; rfl
   rw [e];exact yF hi (zUc hk h1) k2
  ·obtain ⟨kv',k1,k2⟩:=zGt rest (i + 1) fu (L ++ [.one (.s (zA (mp c)))]) _ hd' (fun x hx=>hH x (by simp [hx])) (.one c) (by simp; lia) (by lia)
   refine ⟨kv',k1,?_⟩;have e:pcL (c::rest)= .one (.s (zA (mp c)))::pcL rest:=by unfold pcL pcs; rw [CK,h3]; rfl
   rw [e,DL];exact yF hi (zSn hk h1 h2 (by lia)) k2
 | [],_,0,_,_,_,_,_,_,hf=>absurd hf (by simp)
 | _::_,_,0,_,_,_,_,_,_,hf=>absurd hf (by simp)
theorem zSu(l:List (List Nat)):zAN (plL (l.map fun y=> .one (.s (zA y))))=some (l.map zA):=by
 induction l with
 | nil=>rfl
 | cons y l ih=>
  show (some (zA y)).bind (fun d=>(zAN (plL (l.map fun y=> .one (.s (zA y))))).map (d::·))=_;rw [ih]; rfl
theorem zP0:∀l:List (List Nat),jn [] l=l.flatten
 | []=>rfl
 | a::r=>by
  have e:(fun x:List Nat=>[] ++ x)=id:=rfl;show a ++ (r.map _).flatten=_;rw [e,List.map_id];rfl
theorem zRo{l:List (List Nat)}(h:(l.map fun x=>x.length).sum<=1000):zDe (zA []) (l.map fun y=> .one (.s (zA y)))=some (.str (zA l.flatten)):=by
 have e:=zSu l;have hl:l.flatten.length<=1000:=by rw [List.length_flatten]; exact h
 have hj:=zUC (sep:=[]) (l:=l) (by simpa using h) (by rw [zP0]; exact hl);unfold zTo at hj;unfold zDe;rw [e];show (if _ then some (V.str (vJ (zA []) (l.map zA))) else none)=_;rw [if_pos hj,zBF,zP0]
theorem zDU:∀w:List Nat,(pcs w).flatten=w.flatMap mp
 | []=>rfl
 | c::w=>by
  have ih:=zDU w;rw [C5,<-ih];unfold pcs;rw [CK];cases h:inN zBM c with
  | true=>
   have e:mp c=[]:=by unfold mp; rw [if_pos (show zBM.any (BQ c)=true from h)]
   rw [e]; rfl
  | false=>rfl
end
noncomputable def rdT(b:Bool)(P:Params)(m:Bool)(w:List Nat)(L:List Pl)(i j p n:Nat):=((zAz.drop p).take n).map fun k=>fun kk:V->Sto->Sy=>zD (kU (evK (cf1 b P) 29) 1 ((rdB b P).drop 1) (zDZ b P) [.ctab 325 m,.ns [(S "word",.str (zA w)),(S "text",.str (zA (twN i ++ opN k ++ twN j)))],.pls L] kk) [] []
noncomputable def rdU(m:Bool)(i j p n:Nat):=((zAz.drop p).take n).map fun k=>fun kk:V->Sto->Sy=>zD (kk (.tup [.str (zA (twN i)),.int (BL (7 + k)),.str (zA (twN j))]) (ct m)) [] []
theorem zR8(b:Bool)(P:Params)(m:Bool)(w:List Nat)(L:List Pl):rdT b P m w L 0 1 0 24=rdU m 0 1 0 24:=by kernel_rfl
theorem zRt(b:Bool)(P:Params)(m:Bool)(w:List Nat)(L:List Pl):rdT b P m w L 0 1 24 24=rdU m 0 1 24 24:=by kernel_rfl
theorem zRU(b:Bool)(P:Params)(m:Bool)(w:List Nat)(L:List Pl):rdT b P m w L 0 2 0 24=rdU m 0 2 0 24:=by kernel_rfl
theorem zNN(b:Bool)(P:Params)(m:Bool)(w:List Nat)(L:List Pl):rdT b P m w L 0 2 24 24=rdU m 0 2 24 24:=by kernel_rfl
theorem zRY(b:Bool)(P:Params)(m:Bool)(w:List Nat)(L:List Pl):rdT b P m w L 0 3 0 24=rdU m 0 3 0 24:=by kernel_rfl
theorem zOi(b:Bool)(P:Params)(m:Bool)(w:List Nat)(L:List Pl):rdT b P m w L 0 3 24 24=rdU m 0 3 24 24:=by kernel_rfl
theorem zT0(b:Bool)(P:Params)(m:Bool)(w:List Nat)(L:List Pl):rdT b P m w L 1 0 0 24=rdU m 1 0 0 24:=by kernel_rfl
theorem zPW(b:Bool)(P:Params)(m:Bool)(w:List Nat)(L:List Pl):rdT b P m w L 1 0 24 24=rdU m 1 0 24 24:=by kernel_rfl
theorem zTl(b:Bool)(P:Params)(m:Bool)(w:List Nat)(L:List Pl):rdT b P m w L 1 2 0 24=rdU m 1 2 0 24:=by kernel_rfl
theorem zPx(b:Bool)(P:Params)(m:Bool)(w:List Nat)(L:List Pl):rdT b P m w L 1 2 24 24=rdU m 1 2 24 24:=by kernel_rfl
theorem zS0(b:Bool)(P:Params)(m:Bool)(w:List Nat)(L:List Pl):rdT b P m w L 1 3 0 24=rdU m 1 3 0 24:=by kernel_rfl
theorem zPG(b:Bool)(P:Params)(m:Bool)(w:List Nat)(L:List Pl):rdT b P m w L 1 3 24 24=rdU m 1 3 24 24:=by kernel_rfl
theorem zSv(b:Bool)(P:Params)(m:Bool)(w:List Nat)(L:List Pl):rdT b P m w L 2 0 0 24=rdU m 2 0 0 24:=by kernel_rfl
theorem zPy(b:Bool)(P:Params)(m:Bool)(w:List Nat)(L:List Pl):rdT b P m w L 2 0 24 24=rdU m 2 0 24 24:=by kernel_rfl
theorem zSc(b:Bool)(P:Params)(m:Bool)(w:List Nat)(L:List Pl):rdT b P m w L 2 1 0 24=rdU m 2 1 0 24:=by kernel_rfl
theorem zNM(b:Bool)(P:Params)(m:Bool)(w:List Nat)(L:List Pl):rdT b P m w L 2 1 24 24=rdU m 2 1 24 24:=by kernel_rfl
theorem zR9(b:Bool)(P:Params)(m:Bool)(w:List Nat)(L:List Pl):rdT b P m w L 2 3 0 24=rdU m 2 3 0 24:=by kernel_rfl
theorem zNT(b:Bool)(P:Params)(m:Bool)(w:List Nat)(L:List Pl):rdT b P m w L 2 3 24 24=rdU m 2 3 24 24:=by kernel_rfl
theorem zS6(b:Bool)(P:Params)(m:Bool)(w:List Nat)(L:List Pl):rdT b P m w L 3 0 0 24=rdU m 3 0 0 24:=by kernel_rfl
theorem zOp(b:Bool)(P:Params)(m:Bool)(w:List Nat)(L:List Pl):rdT b P m w L 3 0 24 24=rdU m 3 0 24 24:=by kernel_rfl
theorem zT2(b:Bool)(P:Params)(m:Bool)(w:List Nat)(L:List Pl):rdT b P m w L 3 1 0 24=rdU m 3 1 0 24:=by kernel_rfl
theorem zOZ(b:Bool)(P:Params)(m:Bool)(w:List Nat)(L:List Pl):rdT b P m w L 3 1 24 24=rdU m 3 1 24 24:=by kernel_rfl
theorem zTc(b:Bool)(P:Params)(m:Bool)(w:List Nat)(L:List Pl):rdT b P m w L 3 2 0 24=rdU m 3 2 0 24:=by kernel_rfl
theorem zO5(b:Bool)(P:Params)(m:Bool)(w:List Nat)(L:List Pl):rdT b P m w L 3 2 24 24=rdU m 3 2 24 24:=by kernel_rfl
theorem zYe(b:Bool)(P:Params)(m:Bool)(w:List Nat)(L:List Pl){i j:Nat}(hi:i < 4)(hj:j < 4)(hn:i≠j):rdT b P m w L i j 0 24=rdU m i j 0 24/\rdT b P m w L i j 24 24=rdU m i j 24 24:=by
 rcases zI hi with rfl | rfl | rfl | rfl
 ·rcases zI hj with rfl | rfl | rfl | rfl
  ·exact absurd rfl hn
  ·exact ⟨zR8 b P m w L,zRt b P m w L⟩
  ·exact ⟨zRU b P m w L,zNN b P m w L⟩
  ·exact ⟨zRY b P m w L,zOi b P m w L⟩
 ·rcases zI hj with rfl | rfl | rfl | rfl
  ·exact ⟨zT0 b P m w L,zPW b P m w L⟩
  ·exact absurd rfl hn
  ·exact ⟨zTl b P m w L,zPx b P m w L⟩
  ·exact ⟨zS0 b P m w L,zPG b P m w L⟩
 ·rcases zI hj with rfl | rfl | rfl | rfl
  ·exact ⟨zSv b P m w L,zPy b P m w L⟩
  ·exact ⟨zSc b P m w L,zNM b P m w L⟩
  ·exact absurd rfl hn
  ·exact ⟨zR9 b P m w L,zNT b P m w L⟩
 ·rcases zI hj with rfl | rfl | rfl | rfl
  ·exact ⟨zS6 b P m w L,zOp b P m w L⟩
  ·exact ⟨zT2 b P m w L,zOZ b P m w L⟩
  ·exact ⟨zTc b P m w L,zO5 b P m w L⟩
  ·exact absurd rfl hn
theorem zVI:∀k,k < 48->k∈(zAz.drop 0).take 24\/k∈(zAz.drop 24).take 24:=by decide +kernel
section
variable{b:Bool}{P:Params}{m:Bool}
theorem zUp{w:List Nat}{L:List Pl}{i j k:Nat}(hi:i < 4)(hj:j < 4)(hn:i≠j)(hk:k < 48):Run (kU (evK (cf1 b P) 29) 1 ((rdB b P).drop 1) (zDZ b P) [.ctab 325 m,.ns [(S "word",.str (zA w)),(S "text",.str (zA (twN i ++ opN k ++ twN j)))],.pls L]) (.tup [.str (zA (twN i)),.int (BL (7 + k)),.str (zA (twN j))]) (ct m):=by
 obtain ⟨h1,h2⟩:=zYe b P m w L hi hj hn;rcases zVI k hk with h | h
 ·exact qR (fun _=>[]) [] (fun kk=>congrFun (BO.mp h1 k h) kk) trivial
 ·exact qR (fun _=>[]) [] (fun kk=>congrFun (BO.mp h2 k h) kk) trivial
theorem zSW{w:List Nat}{kk:V->Sto->Sy}:(evK (cf1 b P) 30).c (.val (.ref 335)) [.str (zA w)] [] (ct m) kk=kU (evK (cf1 b P) 29) 1 (rdB b P) (zDZ b P) [.ctab 325 m,.ns [(S "word",.str (zA w))]] kk:=by kernel_rfl
theorem zY0:rdB b P=(rdB b P).take 1 ++ (rdB b P).drop 1:=(List.take_append_drop 1 _).symm
theorem yAc:(rdB b P).take 1=[(rdB b P).getD 0 default]:=by kernel_rfl
theorem zOR{q:RecK}{n:Nat}{l l':List Stmt}{ae:AE}{σ A4 A5:Sto}{v:V}(h:Run (kS q l ae σ) .next A4)(h2:Run (kU q n l' ae A4) v A5):Run (kU q n (l ++ l') ae σ) v A5:=fun k z hz=>by
 unfold kU;rw [zQT];exact h _ z (h2 k z hz)
theorem zUe(c:Int):zEs c=BL (7 + tkN c):=by
 have h:(c.fdiv 12).fmod 48=BL (tkN c):=(fmN (c.fdiv 12) 48 (by decide)).1;unfold zEs;rw [h]; rfl
theorem zXd(c:Nat):(mp c).length<=3:=by
 unfold mp
 repeat (first | (split; · simp) | simp)
theorem zTm(c look:Int):evC (cf1 b P) 30 (.val (.ref 335)) [.str (zA (wdN c look))] [] (ct m)=some (zI3 c,ct m):=by
 obtain ⟨f1,f2⟩:=zUh c look;obtain ⟨x,r,h1,h2,h3,h4⟩:=zLL c look;have hlen:(wdN c look).length<=13:=by rw [h1]; simp; lia
 obtain ⟨kv,k1,k2⟩:=zGt (b:=b) (P:=P) (m:=m) (w:=wdN c look) (wdN c look) 0 1000 [] [] rfl (fun x hx=>yBR b P m (f2 x hx)) .zero (by simp; lia) (by lia);have hs:((pcs (wdN c look)).map fun x=>x.length).sum<=1000:=by
  rw [<-List.length_flatten,zDU];have:∀l:List Nat,(l.flatMap mp).length<=3 * l.length:=fun l=>by
   induction l with
   | nil=>exact Ca _
   | cons c l ih=>have:=zXd c; rw [C5,BY,Bh]; lia
  have:=this (wdN c look)
  lia
 have hj:=zRo hs;rw [zDU,f1] at hj;rw [CN] at k2;have s0:Run (kS (evK (cf1 b P) 29) ((rdB b P).take 1) (zDZ b P) [.ctab 325 m,.ns [(S "word",.str (zA (wdN c look)))]]) .next [.ctab 325 m,.ns [(S "word",.str (zA (wdN c look))),(S "text",.str (zA (twN (e0 c) ++ opN (tkN c) ++ twN (e1 c))))],.pls (pcL (wdN c look))]:=by
  rw [yAc];exact yG (kN (fun k=>zS7) k2 (zXS k1 hj))
 refine wW (yT (fun kk=>zSW) ?_);rw [zY0];have s1:=zUp (b:=b) (P:=P) (m:=m) (w:=wdN c look) (L:=pcL (wdN c look)) (zFi c) (zFL c) (zG3 c) (zDw c);have z:=zOR s0 s1;unfold zI3;rw [zUe];exact z
end
noncomputable def yD(m:Bool)(L:List Pl):Sto:=[.ctab 325 m,.inst 291 2,.dict [(S "_headers",.trk 3)],.pls L]
noncomputable def zE(e:Nat×Nat):Pl:= .tup [.s (zA (twN e.1)),.s (zA [97 + e.2])]
noncomputable def zZ(r:Nat):Pl:= .one (.s (zA [97 + r]))
noncomputable def nmU(t:Nat)(u:Bool):List Nat:=if u then (twN t).map upF else twN t
noncomputable def gaB:List Stmt:=zBW (qD zD4)
noncomputable def diB:List Stmt:=zBW (qD zDd)
noncomputable def zHq:AE:=aeF (qD zD4) 4 [(S "name",5)]
noncomputable def zEu:AE:=aeF (qD zDd) 4 [(S "name",5)]
noncomputable def gaC:Expr:=zIQ (gaB.getD 1 default)
noncomputable def diC:Expr:=zIQ (diB.getD 1 default)
noncomputable def hS0(m:Bool)(L:List Pl)(x:List Nat):Sto:=yD m L ++ [.ns [(S "self",.trk 1)],.cell (some (.str (zA x)))]
noncomputable def hS(m:Bool)(L:List Pl)(t:Nat)(acc:List Pl)(kv:List (Str×V)):Sto:=hS0 m L (twN t) ++ [.pls acc,.ns kv]
noncomputable def kvF(z:Bool)(v:V):List (Str×V):=if z then [] else [(S "kv",v)]
noncomputable abbrev hQ(b:Bool)(P:Params):RecK:=evK (cf b P) 17
noncomputable abbrev gaL(b:Bool)(P:Params)(fu i:Nat)(σ:Sto)(k:Sto->Sy):Sy:=yE (hQ b P) (lcG 0 gaC).target (lcG 0 gaC).ifs (kD (hQ b P) (lcE gaC) 6 (zAo gaC zHq 7 [(S "name",5)])) (zAo gaC zHq 7 [(S "name",5)]) (nxL (.trk 3)) k fu i σ
noncomputable abbrev gaV(b:Bool)(P:Params)(v:V)(σ:Sto)(k:Sto->Sy):Sy:=kCV (hQ b P) (lcG 0 gaC).target (lcG 0 gaC).ifs (kD (hQ b P) (lcE gaC) 6 (zAo gaC zHq 7 [(S "name",5)])) (zAo gaC zHq 7 [(S "name",5)]) v σ k
noncomputable abbrev diL(b:Bool)(P:Params)(fu i:Nat)(σ:Sto)(k:Sto->Sy):Sy:=yE (hQ b P) (lcG 0 diC).target (lcG 0 diC).ifs (kD (hQ b P) (lcE diC) 6 (zAo diC zEu 7 [(S "name",5)])) (zAo diC zEu 7 [(S "name",5)]) (nxL (.trk 3)) k fu i σ
noncomputable abbrev diV(b:Bool)(P:Params)(v:V)(σ:Sto)(k:Sto->Sy):Sy:=kCV (hQ b P) (lcG 0 diC).target (lcG 0 diC).ifs (kD (hQ b P) (lcE diC) 6 (zAo diC zEu 7 [(S "name",5)])) (zAo diC zEu 7 [(S "name",5)]) v σ k
noncomputable def yBy:Stmt->Expr
 | .Assign ts _ _=>(match ts with
  | t::_=>(match t with | .Subscript o _ _=>o | _=>default)
  | []=>default)
 | _=>default
noncomputable def zUX(q:RecK)(o:Expr)(ae:AE)(v:V)(A4:Sto)(k:Fl->Sto->Sy):Sy:=q.e o ae A4 fun u A5=>zLa u v A5 k
noncomputable def zNW:List (Nat×Nat):=[(0,1),(0,2),(0,3),(1,0),(1,2),(1,3),(2,0),(2,1),(2,3),(3,0),(3,1),(3,2)]
section
variable(b:Bool)(P:Params)(m:Bool)(L acc:List Pl)(r:Nat)(v:V)(x:Str)
theorem zTC{k:V->Sto->Sy}:(evK (cf b P) 20).c (.val (.ref 230)) [.trk 1,.str x] [] (yD m L) k=kU (evK (cf b P) 19) 4 gaB zHq (yD m L ++ [.ns [(S "self",.trk 1)],.cell (some (.str x))]) k:=by kernel_rfl
theorem zSt{k:V->Sto->Sy}:(evK (cf b P) 20).c (.val (.ref 211)) [.trk 1,.str x] [] (yD m L) k=kU (evK (cf b P) 19) 4 diB zEu (yD m L ++ [.ns [(S "self",.trk 1)],.cell (some (.str x))]) k:=by kernel_rfl
noncomputable def nmB:List (Nat×Bool):=[(0,true),(0,false),(1,true),(1,false),(2,true),(2,false),(3,true),(3,false)]
theorem yCq:nmB.map (fun p=>fun k=>zD (kS (evK (cf b P) 19) (gaB.take 1) zHq (hS0 m L (nmU p.1 p.2)) k) [] [])=nmB.map fun p=>fun k=>zD (k .next (hS0 m L (twN p.1))) [] []:=by kernel_rfl
theorem yCM:nmB.map (fun p=>fun k=>zD (kS (evK (cf b P) 19) (diB.take 1) zEu (hS0 m L (nmU p.1 p.2)) k) [] [])=nmB.map fun p=>fun k=>zD (k .next (hS0 m L (twN p.1))) [] []:=by kernel_rfl
theorem zSh{t:Nat}{k:Fl->Sto->Sy}:(evK (cf b P) 19).x (gaB.getD 1 default) zHq (hS0 m L (twN t)) k=gaL b P 1000 0 (hS m L t [] []) (yZ 6 fun v σ=>k (.ret v) σ):=by kernel_rfl
theorem zTH{t:Nat}{k:Fl->Sto->Sy}:(evK (cf b P) 19).x (diB.getD 1 default) zEu (hS0 m L (twN t)) k=diL b P 1000 0 (hS m L t [] []) (yZ 6 fun v σ=>zUX (evK (cf b P) 18) (yBy (diB.getD 1 default)) zEu v σ k):=by kernel_rfl
noncomputable def yBU(z:Bool):=lt4.map fun t=>fun k=>zD (gaV b P (plV (zE (t,r))) (hS m L t acc (kvF z v)) k) [.ans 6 true] []
noncomputable def yB1:=lt4.map fun t=>fun k:Sto->Sy=>zD (k (hS m L t (acc ++ [zZ r]) (kvF false (plV (zE (t,r)))))) [] [decide (acc.length < 1000)=true]
theorem yBI:yBU b P m L acc r v true=yB1 m L acc r:=by kernel_rfl
theorem zZ6:yBU b P m L acc r v false=yB1 m L acc r:=by kernel_rfl
noncomputable def yBE(z:Bool):=zNW.map fun p=>fun k=>zD (gaV b P (plV (zE (p.1,r))) (hS m L p.2 acc (kvF z v)) k) [] []
noncomputable def zZh:=zNW.map fun p=>fun k:Sto->Sy=>zD (k (hS m L p.2 acc (kvF false (plV (zE (p.1,r)))))) [] []
theorem zZd:yBE b P m L acc r v true=zZh m L acc r:=by kernel_rfl
theorem yBq:yBE b P m L acc r v false=zZh m L acc r:=by kernel_rfl
noncomputable def zZv(z:Bool):=lt4.map fun t=>fun k=>zD (diV b P (plV (zE (t,r))) (hS m L t acc (kvF z v)) k) [] []
noncomputable def yAx:=lt4.map fun t=>fun k:Sto->Sy=>zD (k (hS m L t acc (kvF false (plV (zE (t,r)))))) [] []
theorem yAj:zZv b P m L acc r v true=yAx m L acc r:=by kernel_rfl
theorem yBP:zZv b P m L acc r v false=yAx m L acc r:=by kernel_rfl
noncomputable def yAh(z:Bool):=zNW.map fun p=>fun k=>zD (diV b P (plV (zE (p.1,r))) (hS m L p.2 acc (kvF z v)) k) [.ans 5 true] []
noncomputable def zZa:=zNW.map fun p=>fun k:Sto->Sy=>zD (k (hS m L p.2 (acc ++ [zE (p.1,r)]) (kvF false (plV (zE (p.1,r)))))) [] [decide (acc.length < 1000)=true]
theorem zZr:yAh b P m L acc r v true=zZa m L acc r:=by kernel_rfl
theorem zZf:yAh b P m L acc r v false=zZa m L acc r:=by kernel_rfl
noncomputable def lt5:List Nat:=[0,1,2,3,4]
noncomputable def adL(t:Nat):=lt5.map fun r=>zD ((evK (cf b P) 20).c (.val (.ref 288)) [.trk 1,.str (zA (twN t)),.str (zA [97 + r])] [] (yD m L) .done) [.ans 15 true] []
noncomputable def adR(t:Nat):=lt5.map fun r=>some ([decide (L.length < 1000)=true],V.none,yD m (L ++ [zE (t,r)]))
theorem yDf:adL b P m L 0=adR m L 0:=by kernel_rfl
theorem yCY:adL b P m L 1=adR m L 1:=by kernel_rfl
theorem yCL:adL b P m L 2=adR m L 2:=by kernel_rfl
theorem yDq:adL b P m L 3=adR m L 3:=by kernel_rfl
end
theorem zFY{i j:Nat}(hi:i < 4)(hj:j < 4)(h:i≠j):(i,j)∈zNW:=by
 rcases zI hi with rfl | rfl | rfl | rfl <;>rcases zI hj with rfl | rfl | rfl | rfl <;>first | exact absurd rfl h | decide
theorem zLm{t:Nat}(h:t < 4)(u:Bool):(t,u)∈nmB:=by
 rcases zI h with rfl | rfl | rfl | rfl <;>cases u <;>decide
theorem zM{r:Nat}(h:r < 5):r∈lt5:=by
 have e:lt5=zAn 0 5:=rfl;rw [e];exact BZ (i:=r) ((uK 5 0 r h).trans (by rw [Cx]))
noncomputable def Ent(e:Nat×Nat):Prop:=e.1 < 4/\e.2 < 5
noncomputable def zEq(m:Bool)(H:List (Nat×Nat)):Sto:=yD m (H.map zE)
noncomputable def atT(H:List (Nat×Nat))(t:Nat):List (Nat×Nat):=H.filter fun e=>BQ e.1 t
noncomputable def zAA(H:List (Nat×Nat))(t:Nat):List (Nat×Nat):=H.filter fun e=>!BQ e.1 t
noncomputable def zAE(H:List (Nat×Nat))(t:Nat):List Pl:=(atT H t).map fun e=>zZ e.2
inductive KvF:List (Str×V)->Prop
 | mk (z:Bool) (v:V):KvF (kvF z v)
section
variable{b:Bool}{P:Params}{m:Bool}{H:List (Nat×Nat)}{acc L:List Pl}{kv:List (Str×V)}{e:Nat×Nat}{i t:Nat}
theorem zKD(hk:KvF kv)(ht:t < 4)(he:e.1=t)(hl:acc.length < 1000):kC (gaV b P (plV (zE e)) (hS m L t acc kv)) (hS m L t (acc ++ [zZ e.2]) (kvF false (plV (zE e)))):=by
 obtain ⟨t',r⟩:=e;cases he;cases hk with
 | mk z v=>cases z with
  | true=>exact zP _ (fun k=>congrFun (BO.mp (yBI b P m L acc r v) t' (xK ht)) k) ⟨decide_eq_true hl,trivial⟩
  | false=>exact zP _ (fun k=>congrFun (BO.mp (zZ6 b P m L acc r v) t' (xK ht)) k) ⟨decide_eq_true hl,trivial⟩
theorem zJL(hk:KvF kv)(ht:t < 4)(h4:e.1 < 4)(he:e.1≠t):kC (gaV b P (plV (zE e)) (hS m L t acc kv)) (hS m L t acc (kvF false (plV (zE e)))):=by
 obtain ⟨t',r⟩:=e;cases hk with
 | mk z v=>cases z with
  | true=>exact zP _ (fun k=>congrFun (BO.mp (zZd b P m L acc r v) (t',t) (zFY h4 ht he)) k) trivial
  | false=>exact zP _ (fun k=>congrFun (BO.mp (yBq b P m L acc r v) (t',t) (zFY h4 ht he)) k) trivial
theorem zJr(hk:KvF kv)(ht:t < 4)(he:e.1=t):kC (diV b P (plV (zE e)) (hS m L t acc kv)) (hS m L t acc (kvF false (plV (zE e)))):=by
 obtain ⟨t',r⟩:=e;cases he;cases hk with
 | mk z v=>cases z with
  | true=>exact zP _ (fun k=>congrFun (BO.mp (yAj b P m L acc r v) t' (xK ht)) k) trivial
  | false=>exact zP _ (fun k=>congrFun (BO.mp (yBP b P m L acc r v) t' (xK ht)) k) trivial
theorem zKH(hk:KvF kv)(ht:t < 4)(h4:e.1 < 4)(he:e.1≠t)(hl:acc.length < 1000):kC (diV b P (plV (zE e)) (hS m L t acc kv)) (hS m L t (acc ++ [zE e]) (kvF false (plV (zE e)))):=by
 obtain ⟨t',r⟩:=e;cases hk with
 | mk z v=>cases z with
  | true=>exact zP _ (fun k=>congrFun (BO.mp (zZr b P m L acc r v) (t',t) (zFY h4 ht he)) k) ⟨decide_eq_true hl,trivial⟩
  | false=>exact zP _ (fun k=>congrFun (BO.mp (zZf b P m L acc r v) (t',t) (zFY h4 ht he)) k) ⟨decide_eq_true hl,trivial⟩
theorem zR5(h:L[i]? =some (zE e)):nxL (.trk 3) (hS m L t acc kv) i=some (some (plV (zE e))):=by
 show some ((plL L)[i]?)=_;rw [Bc,h]; rfl
theorem zUS(h:L.length<=i):nxL (.trk 3) (hS m L t acc kv) i=some none:=by
 show some ((plL L)[i]?)=_;rw [Bc,C3 h]; rfl
theorem xH{α:Type}{l:List α}{i:Nat}{x:α}{r:List α}(h:l.drop i=x::r):l[i]? =some x/\l.drop (i + 1)=r:=by
 have h2:=congrArg (fun l=>l[0]?) h;rw [Dm] at h2;exact ⟨h2,by rw [<-List.drop_drop,h]; rfl⟩
theorem zG9(ht:t < 4):∀(rest:List (Nat×Nat)) (i fu:Nat) (acc:List Pl) (kv:List (Str×V)),H.drop i=rest->(∀e∈rest,Ent e)->KvF kv->acc.length + rest.length < 1000->rest.length < fu->
  ∃kv',KvF kv'/\kC (gaL b P fu i (hS m (H.map zE) t acc kv)) (hS m (H.map zE) t (acc ++ zAE rest t) kv')
 | [],i,fu + 1,acc,kv,hd,_,hk,_,_=>⟨kv,hk,by
  rw [show acc ++ zAE [] t=acc from Bp acc];exact xS (zUS (by rw [BW]; exact CP.mp hd))⟩
 | e::rest,i,fu + 1,acc,kv,hd,hE,hk,hl,hf=>by
  obtain ⟨h1,h2⟩:=xH hd;have hi:(H.map zE)[i]? =some (zE e):=by rw [Bc,h1]; rfl
  simp only [Bh] at hl hf;obtain ⟨e4,e5⟩:=hE e (by simp)
  by_cases he:e.1=t
  ·obtain ⟨kv',k1,k2⟩:=zG9 ht rest (i + 1) fu (acc ++ [zZ e.2]) _ h2 (fun x hx=>hE x (by simp [hx])) (.mk false _) (by simp; lia) (by lia)
   refine ⟨kv',k1,?_⟩;have q:zAE (e::rest) t=zZ e.2::zAE rest t:=by unfold zAE atT; rw [CK,he,CQ]; rfl
   rw [q,DL];exact yF (zR5 hi) (zKD hk ht he (by lia)) k2
  ·obtain ⟨kv',k1,k2⟩:=zG9 ht rest (i + 1) fu acc _ h2 (fun x hx=>hE x (by simp [hx])) (.mk false _) (by lia) (by lia)
   refine ⟨kv',k1,?_⟩;have nb:BQ e.1 t=false:=by
    cases hb:BQ e.1 t with
    | true=>exact absurd (Bg hb) he
    | false=>rfl
   have q:zAE (e::rest) t=zAE rest t:=by unfold zAE atT; rw [CK,nb]; rfl
   rw [q];exact yF (zR5 hi) (zJL hk ht e4 he) k2
 | [],_,0,_,_,_,_,_,_,hf=>absurd hf (by simp)
 | _::_,_,0,_,_,_,_,_,_,hf=>absurd hf (by simp)
theorem zF9(ht:t < 4):∀(rest:List (Nat×Nat)) (i fu:Nat) (acc:List Pl) (kv:List (Str×V)),H.drop i=rest->(∀e∈rest,Ent e)->KvF kv->acc.length + rest.length < 1000->rest.length < fu->
  ∃kv',KvF kv'/\kC (diL b P fu i (hS m (H.map zE) t acc kv)) (hS m (H.map zE) t (acc ++ (zAA rest t).map zE) kv')
 | [],i,fu + 1,acc,kv,hd,_,hk,_,_=>⟨kv,hk,by
  rw [show acc ++ (zAA [] t).map zE=acc from Bp acc];exact xS (zUS (by rw [BW]; exact CP.mp hd))⟩
 | e::rest,i,fu + 1,acc,kv,hd,hE,hk,hl,hf=>by
  obtain ⟨h1,h2⟩:=xH hd;have hi:(H.map zE)[i]? =some (zE e):=by rw [Bc,h1]; rfl
  simp only [Bh] at hl hf;obtain ⟨e4,e5⟩:=hE e (by simp)
  by_cases he:e.1=t
  ·obtain ⟨kv',k1,k2⟩:=zF9 ht rest (i + 1) fu acc _ h2 (fun x hx=>hE x (by simp [hx])) (.mk false _) (by lia) (by lia)
   refine ⟨kv',k1,?_⟩;have q:zAA (e::rest) t=zAA rest t:=by unfold zAA; rw [CK,he,CQ]; rfl
   rw [q];exact yF (zR5 hi) (zJr hk ht he) k2
  ·obtain ⟨kv',k1,k2⟩:=zF9 ht rest (i + 1) fu (acc ++ [zE e]) _ h2 (fun x hx=>hE x (by simp [hx])) (.mk false _) (by simp; lia) (by lia)
   refine ⟨kv',k1,?_⟩;have nb:BQ e.1 t=false:=by
    cases hb:BQ e.1 t with
    | true=>exact absurd (Bg hb) he
    | false=>rfl
   have q:zAA (e::rest) t=e::zAA rest t:=by unfold zAA; rw [CK,nb]; rfl
   rw [q,Cs,DL];exact yF (zR5 hi) (zKH hk ht e4 he (by lia)) k2
 | [],_,0,_,_,_,_,_,_,hf=>absurd hf (by simp)
 | _::_,_,0,_,_,_,_,_,_,hf=>absurd hf (by simp)
theorem zVt(hk:KvF kv):Run (fun k=>yZ 6 (fun v σ=>k (Fl.ret v) σ) (hS m L t acc kv)) (.ret (.trk 6)) (hS0 m L (twN t) ++ [.pls acc]):=by
 cases hk with
 | mk z v=>cases z <;>exact qR (fun _=>[]) [] (fun k=>by kernel_rfl) trivial
theorem zYj(hk:KvF kv)(hl:L.length + acc.length<=1000):Run (fun k=>yZ 6 (fun v σ=>zUX (evK (cf b P) 18) (yBy (diB.getD 1 default)) zEu v σ k) (hS m L t acc kv)) .next (hS0 m acc (twN t) ++ [.pls acc]):=by
 cases hk with
 | mk z v=>cases z <;>exact qR (fun _=>[.ans 0 true]) [decide (L.length + acc.length<=1000)=true] (fun k=>by kernel_rfl) ⟨decide_eq_true hl,trivial⟩
theorem zV8:gcv 4 (.trk 6) (hS0 m L (twN t) ++ [.pls acc])=(.trk 4,yD m L ++ [.pls acc]):=by kernel_rfl
theorem zWU:gcv 4 .none (hS0 m L (twN t) ++ [.pls acc])=(.none,yD m L):=by kernel_rfl
theorem zVu:gaB=gaB.take 1 ++ [gaB.getD 1 default]:=by kernel_rfl
theorem zV0:diB=diB.take 1 ++ [diB.getD 1 default]:=by kernel_rfl
theorem zFe(u:Bool)(ht:t < 4)(hE:∀e∈H,Ent e)(hl:H.length < 400):F1 b P 230 [.trk 1,.str (zA (nmU t u))] (zEq m H)=some (.trk 4,zEq m H ++ [.pls (zAE H t)]):=by
 refine wW (yT (fun k=>zTC b P m _ _) ?_);rw [zVu];obtain ⟨kv,k1,k2⟩:=zG9 (b:=b) (P:=P) (m:=m) ht H 0 1000 [] [] rfl hE (.mk true .none) (by simp; lia) (by lia);rw [CN] at k2;have s0:Run (kS (evK (cf b P) 19) (gaB.take 1) zHq (hS0 m (H.map zE) (nmU t u))) .next (hS0 m (H.map zE) (twN t)):=zK _ (fun k=>congrFun (BO.mp (yCq b P m (H.map zE)) (t,u) (zLm ht u)) k) trivial
 exact xZ (yA s0 (zFI (kN (fun k=>zSh b P m _) k2 (zVt k1)))) zV8
theorem zWC(u:Bool)(ht:t < 4)(hE:∀e∈H,Ent e)(hl:H.length < 400):F1 b P 211 [.trk 1,.str (zA (nmU t u))] (zEq m H)=some (.none,zEq m (zAA H t)):=by
 refine wW (yT (fun k=>zSt b P m _ _) ?_);rw [zV0];obtain ⟨kv,k1,k2⟩:=zF9 (b:=b) (P:=P) (m:=m) ht H 0 1000 [] [] rfl hE (.mk true .none) (by simp; lia) (by lia);rw [CN] at k2;have hz:(H.map zE).length + ((zAA H t).map zE).length<=1000:=by
  rw [BW,BW];have:(zAA H t).length<=H.length:=D9 _ _
  lia
 have s0:Run (kS (evK (cf b P) 19) (diB.take 1) zEu (hS0 m (H.map zE) (nmU t u))) .next (hS0 m (H.map zE) (twN t)):=zK _ (fun k=>congrFun (BO.mp (yCM b P m (H.map zE)) (t,u) (zLm ht u)) k) trivial
 exact zBt (yA s0 (yG (kN (fun k=>zTH b P m _) k2 (zYj k1 hz)))) zWU
theorem zJt(hE:Ent e)(hl:H.length < 1000):F1 b P 288 [.trk 1,.str (zA (twN e.1)),.str (zA [97 + e.2])] (zEq m H)=some (.none,zEq m (H ++ [e])):=by
 obtain ⟨t,r⟩:=e;obtain ⟨h4,h5⟩:=hE;have go:adL b P m (H.map zE) t=adR m (H.map zE) t:=by
  rcases zI h4 with rfl | rfl | rfl | rfl
  ·exact yDf b P m _
  ·exact yCY b P m _
  ·exact yCL b P m _
  ·exact yDq b P m _
 have z:=zAF (BO.mp go r (zM h5)) ⟨decide_eq_true (by rw [BW]; exact hl),trivial⟩;have e:zEq m (H ++ [(t,r)])=yD m (H.map zE ++ [zE (t,r)]):=by unfold zEq; rw [Bv]; rfl
 rw [e];exact z
end
noncomputable def jdB(b:Bool)(P:Params):List Stmt:=zBW (yBc b P)
noncomputable def zBA(b:Bool)(P:Params):AE:=aeF (yBc b P) 2 [(S "group",3)]
noncomputable def tnP(t:Nat):Pl:= .one (.s (zA (twN t)))
noncomputable def qB(e:Nat×Nat):Pl:= .tup [.s (zA (twN e.1)),.s (zA (twN e.2))]
noncomputable def jdC(m:Bool)(T:List Pl):Sto:=[.ctab 325 m,.pls T]
noncomputable def jdF(one two:List Nat)(kv:List (Str×V)):List (Str×V):=[(S "ties",.trk 1),(S "one",.str (zA one)),(S "two",.str (zA two))] ++ kv
noncomputable def jdS(m:Bool)(T:List Pl)(one two:List Nat)(kv:List (Str×V))(g:List Pl):Sto:=[.ctab 325 m,.pls T,.ns (jdF one two kv),.cell (some (.trk 4)),.pls g]
noncomputable def jdK(m:Bool)(T:List Pl)(one two:List Nat)(kv:List (Str×V))(g acc:List Pl)(kv2:List (Str×V)):Sto:=jdS m T one two kv g ++ [.pls acc,.ns kv2]
noncomputable abbrev zAu(b:Bool)(P:Params):Stmt:=(jdB b P).getD 1 default
noncomputable abbrev jdA(b:Bool)(P:Params):Stmt:=(qT (zAu b P)).getD 0 default
noncomputable def jdE(b:Bool)(P:Params):Expr:=zIQ (jdA b P)
noncomputable abbrev jdQ(b:Bool)(P:Params):RecK:=evK (cf b P) 16
noncomputable def zY7(b:Bool)(P:Params):AE:=zAo (jdE b P) (zBA b P) 6 [(S "group",3)]
noncomputable abbrev jdN(b:Bool)(P:Params):Sto->(Sto->Sy)->Sy:=zHp (jdQ b P) (lcG 1 (jdE b P)).target (lcG 1 (jdE b P)).iter (lcG 1 (jdE b P)).ifs (lcE (jdE b P)) 5 (zY7 b P)
noncomputable abbrev jdL(b:Bool)(P:Params)(fu i:Nat)(σ:Sto)(k:Sto->Sy):Sy:=yE (jdQ b P) (lcG 0 (jdE b P)).target (lcG 0 (jdE b P)).ifs (jdN b P) (zY7 b P) (nxL (.trk 1)) k fu i σ
noncomputable abbrev jdV(b:Bool)(P:Params)(v:V)(σ:Sto)(k:Sto->Sy):Sy:=kCV (jdQ b P) (lcG 0 (jdE b P)).target (lcG 0 (jdE b P)).ifs (jdN b P) (zY7 b P) v σ k
noncomputable def zGV:Lf->Bool
 | .s x=>x.cps.toList.all fun c=>Cn c 128
 | .i _=>true
noncomputable def zKd:Pl->Bool
 | .one a=>zGV a
 | .tup l=>l.all zGV
theorem zBT{a:Lf}(h:zGV a=true):(zC3 a).canLay0=true/\(zC3 a).depth=0:=by
 cases a with
 | i=>exact ⟨rfl,rfl⟩
 | s x=>
  refine ⟨?_,rfl⟩;show PyData.strOk x=true;unfold PyData.strOk;rw [<-Array.all_toList];exact BV.mpr fun c hc=>decide_eq_true (Nat.lt_trans (DM.mp (BV.mp h c hc)) (by decide))
theorem zRX{l:List Lf}(h:l.all zGV=true):PyData.canLayAll0 (l.map zC3)=true/\DV (l.map zC3)=0:=by
 induction l with
 | nil=>exact ⟨rfl,rfl⟩
 | cons a l ih=>
  rw [D7] at h;refine zF h fun h1 h2=>?_;obtain ⟨i1,i2⟩:=ih h2;obtain ⟨a1,a2⟩:=zBT h1;exact ⟨Bd.mpr ⟨a1,i1⟩,(show max (zC3 a).depth (DV (l.map zC3))=0 by rw [a2,i2]; rfl)⟩
theorem zVH{a:Pl}(h:zKd a=true):(zBR a).canLay0=true/\(zBR a).depth<=1:=by
 cases a with
 | one a=>exact ⟨(zBT h).1,by rw [show (zBR (.one a)).depth=_ from (zBT h).2]; decide⟩
 | tup l=>
  obtain ⟨i1,i2⟩:=zRX h;exact ⟨i1,by show DV (l.map zC3) + 1<=1; rw [i2]; decide⟩
theorem zLF{l:List Pl}(h:∀p∈l,zKd p=true):PyData.canLayAll0 (l.map zBR)=true/\DV (l.map zBR)<=1:=by
 induction l with
 | nil=>exact ⟨rfl,Ca _⟩
 | cons a l ih=>
  obtain ⟨i1,i2⟩:=ih fun p hp=>h p (Bq _ hp);obtain ⟨a1,a2⟩:=zVH (h a (CB ..));exact ⟨Bd.mpr ⟨a1,i1⟩,Nat.max_le.mpr ⟨a2,i2⟩⟩
theorem vQ{l:List Pl}(h:∀p∈l,zKd p=true):C8 (.list (l.map zBR))=true:=by
 obtain ⟨h1,h2⟩:=zLF h;exact Bd.mpr ⟨h1,decide_eq_true (Bn (Dd h2) (by decide))⟩
theorem zCZ{x:Str}(h:zGV (.s x)=true):C8 (.str x)=true:=Bd.mpr ⟨(zBT h).1,rfl⟩
theorem zOM{l:List Nat}(h:∀c∈l,c < 128):zGV (.s (zA l))=true:=by
 show (zA l).cps.toList.all _=true;exact BV.mpr fun c hc=>DM.mpr (h c (by simpa [zA] using hc))
theorem zWj(t:Nat):∀c∈twN t,c < 128:=by
 by_cases h:t < 4
 ·rcases zI h with rfl | rfl | rfl | rfl <;>decide
 ·have e:twN t=[]:=by unfold twN; rw [C0,C3 (by show 4<=t; lia)]; rfl
  rw [e]; exact fun c hc=>absurd hc Ba
theorem zEa(t:Nat):zGV (.s (zA (twN t)))=true:=zOM (zWj t)
theorem zYU{i j:Nat}(hi:i < 4)(hj:j < 4)(h:twN i=twN j):i=j:=by
 revert h
 rcases zI hi with rfl | rfl | rfl | rfl <;>rcases zI hj with rfl | rfl | rfl | rfl <;>decide
noncomputable def gIn(g:List Nat)(t:Nat):Bool:=g.any fun x=>BQ x t
theorem zT{g:List Nat}{t:Nat}:gIn g t=true ↔ t∈g:=by
 unfold gIn;rw [Ci];exact ⟨fun ⟨x,h1,h2⟩=>Bg h2▸h1,fun h=>⟨t,h,CQ t⟩⟩
theorem zUq(x y:Str):(PyData.str x).eqv (.str y)=decide (x=y):=by
 show (x==y)=_
 by_cases h:x=y
 ·rw [h,beq_self_eq_true]; exact (decide_eq_true rfl).symm
 ·rw [beq_eq_false_iff_ne.mpr h,decide_eq_false h]
theorem zQB{g:List Nat}(hg:∀x∈g,x < 4){t:Nat}(ht:t < 4):(((g.map tnP).map zBR).any fun y=>y.eqv (PyData.str (zA (twN t))))=gIn g t:=by
 induction g with
 | nil=>rfl
 | cons x g ih=>
  have hx:=hg x (by simp);show ((PyData.str (zA (twN x))).eqv (.str (zA (twN t))) || _)=(BQ x t || gIn g t);rw [ih fun y hy=>hg y (by simp [hy]),zUq]
  by_cases h:x=t
  ·rw [h,CQ,decide_eq_true rfl]
  ·rw [decide_eq_false fun e=>h (zYU hx ht (zIc e))]
   cases hb:BQ x t with
   | true=>exact absurd (Bg hb) h
   | false=>rfl
noncomputable def kvJ(z:Bool)(u v:V):List (Str×V):=if z then [] else [(S "tie",u),(S "end",v)]
noncomputable def shP(x:List Nat)(g:List Pl):Prop:=(C8 (PyData.str (zA x)) && C8 (D5 (g.map zBR)))=true
noncomputable def anP(x:List Nat)(g:List Pl)(c:Bool):Prop:=((g.map zBR).any fun y=>y.eqv (PyData.str (zA x)))=c
section
variable{b:Bool}{P:Params}{m:Bool}{T g acc:List Pl}{one two x y:List Nat}{kv:List (Str×V)}{z:Bool}{u v:V}
noncomputable abbrev uL(x y:List Nat):V:= .tup [.str (zA x),.str (zA y)]
theorem yCn(h1:shP x g)(h2:anP x g true)(hl:acc.length + 1 < 1000):kC (jdV b P (uL x y) (jdK m T one two kv g acc (kvJ z u v))) (jdK m T one two kv g (acc ++ [.one (.s (zA x))] ++ [.one (.s (zA y))]) (kvJ false (uL x y) (.str (zA y)))):=by
 cases z <;>exact zP (ds:=[.ans 2 true,.ans 0 true,.ans 2 true,.ans 1 true,.ans 0 true,.ans 2 true]) [shP x g,anP x g true,decide (acc.length < 1000)=true,shP x g,anP x g true,decide ((acc ++ [Pl.one (.s (zA x))]).length < 1000)=true] (fun k=>by kernel_rfl) ⟨h1,h2,decide_eq_true (by lia),h1,h2,decide_eq_true (by rw [BY]; exact hl),trivial⟩
theorem yCu(h1:shP x g)(h2:anP x g false)(h3:shP y g)(h4:anP y g true)(hl:acc.length + 1 < 1000):kC (jdV b P (uL x y) (jdK m T one two kv g acc (kvJ z u v))) (jdK m T one two kv g (acc ++ [.one (.s (zA x))] ++ [.one (.s (zA y))]) (kvJ false (uL x y) (.str (zA y)))):=by
 cases z <;>exact zP (ds:=[.ans 2 true,.ans 0 false,.ans 1 true,.ans 0 true,.ans 2 true,.ans 1 true,.ans 0 false,.ans 1 true,.ans 0 true,.ans 2 true]) [shP x g,anP x g false,shP y g,anP y g true,decide (acc.length < 1000)=true,shP x g,anP x g false,shP y g,anP y g true,decide ((acc ++ [Pl.one (.s (zA x))]).length < 1000)=true] (fun k=>by kernel_rfl) ⟨h1,h2,h3,h4,decide_eq_true (by lia),h1,h2,h3,h4,decide_eq_true (by rw [BY]; exact hl),trivial⟩
theorem yDr(h1:shP x g)(h2:anP x g false)(h3:shP y g)(h4:anP y g false):kC (jdV b P (uL x y) (jdK m T one two kv g acc (kvJ z u v))) (jdK m T one two kv g acc (kvJ false (uL x y) (.str (zA y)))):=by
 cases z <;>exact zP (ds:=[.ans 2 true,.ans 0 false,.ans 1 true,.ans 0 false,.ans 3 true,.ans 0 false,.ans 1 true,.ans 0 false]) [shP x g,anP x g false,shP y g,anP y g false,shP x g,anP x g false,shP y g,anP y g false] (fun k=>by kernel_rfl) ⟨h1,h2,h3,h4,h1,h2,h3,h4,trivial⟩
end
noncomputable def qS(g:List Nat)(e:Nat×Nat):List Nat:=if gIn g e.1 || gIn g e.2 then [e.1,e.2] else []
noncomputable def kI(T:List (Nat×Nat))(g:List Nat):List Nat:=g ++ T.flatMap (qS g)
noncomputable def zPk(g:List Nat):Prop:=∀x∈g,x < 4
noncomputable def zHY(T:List (Nat×Nat)):Prop:=∀e∈T,e.1 < 4/\e.2 < 4
theorem zDI{T:List (Nat×Nat)}{g:List Nat}(hT:zHY T)(hg:zPk g):zPk (kI T g):=fun x hx=>by
 rcases BR.mp hx with hx | hx
 ·exact hg x hx
 ·obtain ⟨e,he,hx⟩:=Cr.mp hx
  unfold qS at hx;split at hx
  ·simp only [Bl,Ba,_root_.or_false] at hx
   rcases hx with rfl | rfl
   ·exact (hT e he).1
   ·exact (hT e he).2
  ·exact absurd hx Ba
theorem zHJ(T:List (Nat×Nat))(g:List Nat):(T.flatMap (qS g)).length<=2 * T.length:=by
 induction T with
 | nil=>exact Ca _
 | cons e T ih=>
  rw [C5,BY,Bh];have:(qS g e).length<=2:=by unfold qS; split <;>simp
  lia
section
variable{b:Bool}{P:Params}{m:Bool}{T:List (Nat×Nat)}{acc:List Pl}{one two:List Nat}{kv:List (Str×V)}
theorem zGf{g:List Nat}(hg:zPk g):∀(rest:List (Nat×Nat)) (i fu:Nat) (acc:List Pl) (z:Bool) (u v:V),T.drop i=rest->zHY rest->acc.length + 2 * rest.length < 900->rest.length < fu->
  ∃z' u' v',kC (jdL b P fu i (jdK m (T.map qB) one two kv (g.map tnP) acc (kvJ z u v))) (jdK m (T.map qB) one two kv (g.map tnP) (acc ++ (rest.flatMap (qS g)).map tnP) (kvJ z' u' v'))
 | [],i,fu + 1,acc,z,u,v,hd,_,_,_=>⟨z,u,v,by
  rw [show acc ++ (([]:List (Nat×Nat)).flatMap (qS g)).map tnP=acc from Bp acc];refine xS ?_;show some ((plL (T.map qB))[i]?)=_;rw [Bc,Bc,C3 (CP.mp hd)]; rfl⟩
 | e::rest,i,fu + 1,acc,z,u,v,hd,hE,hl,hf=>by
  obtain ⟨h1,h2⟩:=xH hd;have hi:nxL (.trk 1) (jdK m (T.map qB) one two kv (g.map tnP) acc (kvJ z u v)) i=some (some (uL (twN e.1) (twN e.2))):=by
   show some ((plL (T.map qB))[i]?)=_;rw [Bc,Bc,h1]; rfl
  simp only [Bh] at hl hf;obtain ⟨e4,e5⟩:=hE e (by simp);have hs:∀t,shP (twN t) (g.map tnP):=fun t=>Bd.mpr ⟨zCZ (zEa t),vQ fun p hp=>by
   obtain ⟨x,_,rfl⟩:=Bm.mp hp;exact zEa x⟩
  have ha:∀t,t < 4->anP (twN t) (g.map tnP) (gIn g t):=fun t ht=>zQB hg ht;have a1:=ha _ e4;have a2:=ha _ e5;have add:(gIn g e.1 || gIn g e.2)=true->kC (jdV b P (uL (twN e.1) (twN e.2)) (jdK m (T.map qB) one two kv (g.map tnP) acc (kvJ z u v))) (jdK m (T.map qB) one two kv (g.map tnP) (acc ++ [tnP e.1] ++ [tnP e.2]) (kvJ false (uL (twN e.1) (twN e.2)) (.str (zA (twN e.2)))))->∃z' u' v',kC (jdL b P (fu + 1) i (jdK m (T.map qB) one two kv (g.map tnP) acc (kvJ z u v))) (jdK m (T.map qB) one two kv (g.map tnP) (acc ++ ((e::rest).flatMap (qS g)).map tnP) (kvJ z' u' v')):=fun hc hr=>by
   obtain ⟨z',u',v',k2⟩:=zGf hg rest (i + 1) fu (acc ++ [tnP e.1] ++ [tnP e.2]) false (uL (twN e.1) (twN e.2)) (.str (zA (twN e.2))) h2 (fun x hx=>hE x (by simp [hx])) (by simp; lia) (by lia);refine ⟨z',u',v',?_⟩;have q:((e::rest).flatMap (qS g)).map tnP=tnP e.1::tnP e.2::(rest.flatMap (qS g)).map tnP:=by
    rw [C5];have:qS g e=[e.1,e.2]:=by unfold qS; rw [if_pos hc]
    rw [this]; rfl
   rw [q,DL,DL];exact yF hi hr k2
  cases c1:gIn g e.1 with
  | true=>
   rw [c1] at a1;exact add (by rw [c1]; rfl) (yCn (hs _) a1 (by lia))
  | false=>
   rw [c1] at a1;cases c2:gIn g e.2 with
   | true=>
    rw [c2] at a2;exact add (by rw [c1,c2]; rfl) (yCu (hs _) a1 (hs _) a2 (by lia))
   | false=>
    rw [c2] at a2;obtain ⟨z',u',v',k2⟩:=zGf hg rest (i + 1) fu acc false (uL (twN e.1) (twN e.2)) (.str (zA (twN e.2))) h2 (fun x hx=>hE x (by simp [hx])) (by lia) (by lia);refine ⟨z',u',v',?_⟩;have q:(e::rest).flatMap (qS g)=rest.flatMap (qS g):=by
     rw [C5];have:qS g e=[]:=by unfold qS; rw [c1,c2]; rfl
     rw [this]; rfl
    rw [q];exact yF hi (yDr (hs _) a1 (hs _) a2) k2
 | [],_,0,_,_,_,_,_,_,_,hf=>absurd hf (by simp)
 | _::_,_,0,_,_,_,_,_,_,_,hf=>absurd hf (by simp)
theorem zSE{T:List Pl}{k:V->Sto->Sy}:(evK (cf b P) 20).c (.val (.ref 345)) [.trk 1,.str (zA one),.str (zA two)] [] (jdC m T) k=kU (evK (cf b P) 19) 2 (jdB b P) (zBA b P) ([.ctab 325 m,.pls T,.ns (jdF one two []),.cell none]) k:=by kernel_rfl
theorem yCX{T:List Pl}:Run (kS (evK (cf b P) 19) ((jdB b P).take 1) (zBA b P) [.ctab 325 m,.pls T,.ns (jdF one two []),.cell none]) .next (jdS m T one two [] [.one (.s (zA one))]):=zK (ds:=[]) (ps:=[]) (fun k=>by kernel_rfl) trivial
theorem zR1{T g:List Pl}{k:Fl->Sto->Sy}:(evK (cf b P) 18).x (jdA b P) (zBA b P) (jdS m T one two kv g) k=jdL b P 1000 0 (jdK m T one two kv g [] []) (yZ 5 fun v A4=>zAK .Add (.trk 4) v A4 fun v A5=>liO (qM (S "group") v (zBA b P) A5) fun A8=>k .next A8):=by kernel_rfl
noncomputable def wJ(k:Int):List (Str×V):=[(S "turn",.int k)]
inductive KvT:List (Str×V)->Prop
 | zero:KvT []
 | one (k:Int):KvT (wJ k)
theorem zXo{T g:List Pl}{z:Bool}{u v:V}(hk:KvT kv)(hl:g.length + acc.length<=1000):Run (fun k=>yZ 5 (fun v A4=>zAK .Add (.trk 4) v A4 fun v A5=>liO (qM (S "group") v (zBA b P) A5) fun A8=>k Fl.next A8) (jdK m T one two kv g acc (kvJ z u v))) .next (jdS m T one two kv (g ++ acc) ++ [.pls acc]):=by
 cases hk <;>cases z <;>exact qR (fun _=>[.ans 0 true]) [decide (g.length + acc.length<=1000)=true] (fun k=>by kernel_rfl) ⟨decide_eq_true hl,trivial⟩
theorem zG7{g:List Nat}(hk:KvT kv)(hg:zPk g)(hT:zHY T)(hl:T.length<=10)(hl2:g.length<=200):Run ((evK (cf b P) 18).x (jdA b P) (zBA b P) (jdS m (T.map qB) one two kv (g.map tnP))) .next (jdS m (T.map qB) one two kv ((kI T g).map tnP) ++ [.pls ((T.flatMap (qS g)).map tnP)]):=by
 obtain ⟨z',u',v',k2⟩:=zGf (b:=b) (P:=P) (m:=m) (T:=T) (one:=one) (two:=two) (kv:=kv) hg T 0 1000 [] true .none .none rfl hT (by simp; lia) (by lia);rw [CN] at k2;have hz:(g.map tnP).length + ((T.flatMap (qS g)).map tnP).length<=1000:=by
  rw [BW,BW];have:=zHJ T g
  lia
 have z:=zXo (b:=b) (P:=P) (m:=m) (T:=T.map qB) (one:=one) (two:=two) (kv:=kv) (z:=z') (u:=u') (v:=v') hk hz;rw [<-Bv] at z;exact kN (fun k=>zR1) k2 z
end
noncomputable def zC5(T:List (Nat×Nat))(i:Nat):List Nat:=kI T (kI T (kI T [i]))
noncomputable def cnN(T:List (Nat×Nat))(i j:Nat):Bool:=gIn (zC5 T i) j
section
variable{b:Bool}{P:Params}{m:Bool}{T:List (Nat×Nat)}{one two:List Nat}{kv:List (Str×V)}{L g:List Pl}
theorem zRG{acc:List Pl}{k:Int}:gc 5 (jdS m L one two (wJ k) g ++ [.pls acc])=jdS m L one two (wJ k) g:=by kernel_rfl
theorem zYN{k:Int}:wO (xY (zAu b P)) (.int k) (zBA b P) (jdS m L one two [] g)=some (jdS m L one two (wJ k) g):=by kernel_rfl
theorem zL1{k k':Int}:wO (xY (zAu b P)) (.int k) (zBA b P) (jdS m L one two (wJ k') g)=some (jdS m L one two (wJ k) g):=by kernel_rfl
theorem zGA:qT (zAu b P)=[jdA b P]:=by kernel_rfl
noncomputable abbrev jdT(b:Bool)(P:Params)(i:Nat)(σ:Sto)(f:Fl)(AA:Sto):Prop:=zJJ (evK (cf b P) 18) (xY (zAu b P)) (qT (zAu b P)) (zBA b P) 5 (nxR 0 3 1) i σ f AA
theorem yDy{f:Fl}{AA:Sto}(h:zKF (evK (cf b P) 18) (xY (zAu b P)) (qT (zAu b P)) (zBA b P) 5 (nxR 0 3 1) 1000 0 (jdS m L one two [] g) f AA):Run ((evK (cf b P) 19).x (zAu b P) (zBA b P) (jdS m L one two [] g)) f AA:=yT (fun k=>by kernel_rfl) h
theorem zWM{k:Int}{c:Bool}(h1:shP two g)(h2:anP two g c):Run (kS (evK (cf b P) 19) [(jdB b P).getD 2 default] (zBA b P) (jdS m L one two (wJ k) g)) (.ret (.bool c)) (jdS m L one two (wJ k) g):=by
 unfold anP at h2;rw [<-h2];exact zK (ds:=[.ans 0 true]) [shP two g] (fun k=>by kernel_rfl) ⟨h1,trivial⟩
theorem zXi:jdB b P=(jdB b P).take 1 ++ [zAu b P,(jdB b P).getD 2 default]:=by kernel_rfl
theorem zYD{k:Int}{c:Bool}:gcv 2 (.bool c) (jdS m L one two (wJ k) g)=(.bool c,jdC m L):=by kernel_rfl
theorem zMQ{i j:Nat}(hi:i < 4)(hj:j < 4)(hT:zHY T)(hl:T.length<=10):F1 b P 345 [.trk 1,.str (zA (twN i)),.str (zA (twN j))] (jdC m (T.map qB))=some (.bool (cnN T i j),jdC m (T.map qB)):=by
 have g0:zPk [i]:=fun x hx=>by rw [BP.mp hx]; exact hi
 have g1:=zDI hT g0;have g2:=zDI hT g1;have g3:=zDI hT g2;have l0:([i]:List Nat).length<=1:=CD 1;have gl:∀g:List Nat,(kI T g).length<=g.length + 20:=fun g=>by
  have:=zHJ T g;unfold kI;rw [BY]
  lia
 have l1:=gl [i];have l2:=gl (kI T [i]);have l3:=gl (kI T (kI T [i]));have t0:jdT b P 0 (jdS m (T.map qB) (twN i) (twN j) [] ([i].map tnP)) .next (jdS m (T.map qB) (twN i) (twN j) (wJ 0) ((kI T [i]).map tnP)):=
  zAm (v:= .int 0) rfl zYN (by rw [zGA]; exact yG (zG7 (.one _) g0 hT hl (by lia))) zRG
 have t1:jdT b P 1 (jdS m (T.map qB) (twN i) (twN j) (wJ 0) ((kI T [i]).map tnP)) .next (jdS m (T.map qB) (twN i) (twN j) (wJ 1) ((kI T (kI T [i])).map tnP)):=
  zAm (v:= .int 1) rfl zL1 (by rw [zGA]; exact yG (zG7 (.one _) g1 hT hl (by lia))) zRG
 have t2:jdT b P 2 (jdS m (T.map qB) (twN i) (twN j) (wJ 1) ((kI T (kI T [i])).map tnP)) .next (jdS m (T.map qB) (twN i) (twN j) (wJ 2) ((zC5 T i).map tnP)):=
  zAm (v:= .int 2) rfl zL1 (by rw [zGA]; exact yG (zG7 (.one _) g2 hT hl (by lia))) zRG
 have hs:shP (twN j) ((zC5 T i).map tnP):=Bd.mpr ⟨zCZ (zEa j),vQ fun p hp=>by
  obtain ⟨x,_,rfl⟩:=Bm.mp hp;exact zEa x⟩
 have ha:anP (twN j) ((zC5 T i).map tnP) (cnN T i j):=zQB g3 hj;refine wW (yT (fun k=>zSE) ?_);rw [zXi];exact xZ (yA yCX (zL (yDy (yM t0 (yM t1 (yM t2 (xO rfl))))) (zWM hs ha))) zYD
end
structure Rd where
 a:Nat->Nat
 t:Nat->Int
 z:Nat->Nat
noncomputable def rV(R:Rd)(k:Nat):V:= .tup [.str (zA (twN (R.a k))),.int (R.t k),.str (zA (twN (R.z k)))]
noncomputable def yK(R:Rd):Ob:= .list [rV R 0,rV R 1,rV R 2,rV R 3,rV R 4]
noncomputable def idP(k:Nat):Pl:= .one (.i (BL k))
noncomputable def duB(b:Bool)(P:Params):List Stmt:=zBW (yAf b P)
noncomputable def vN(b:Bool)(P:Params):AE:=aeF (yAf b P) 3 [(S "rank",6),(S "road",5),(S "roads",4)]
noncomputable def duC(m:Bool)(R:Rd)(Ls:List Pl):Sto:=[.ctab 325 m,yK R,.pls Ls]
noncomputable def duT(sh:Bool)(i:Nat):List (Str×V):=if sh then [(S "laid",.trk 2),(S "due",.trk 7),(S "ties",.trk i)] else [(S "laid",.trk 2),(S "due",.trk 7)]
noncomputable def duS(sh:Bool)(m:Bool)(R:Rd)(Ls:List Pl)(T due:List Pl)(cr ck:Option V):Sto:=
 [.ctab 325 m,yK R,.pls Ls,.ns (duT sh 8),.cell (some (.trk 1)),.cell cr,.cell ck,.pls due] ++ (if sh then [.pls T] else [])
noncomputable def duW(sh:Bool)(m:Bool)(R:Rd)(Ls:List Pl)(T T' due:List Pl)(cr ck:Option V):Sto:=
 [.ctab 325 m,yK R,.pls Ls,.ns (duT true (if sh then 9 else 8)),.cell (some (.trk 1)),.cell cr,.cell ck,.pls due] ++ ((if sh then [.pls T] else []) ++ [.pls T'])
noncomputable def duK(sh:Bool)(m:Bool)(R:Rd)(Ls:List Pl)(T due:List Pl)(cr ck:Option V)(acc:List Pl)(kv:List (Str×V)):Sto:=duS sh m R Ls T due cr ck ++ [.pls acc,.ns kv]
noncomputable def duN(sh:Bool):Nat:=if sh then 9 else 8
noncomputable abbrev uT(b:Bool)(P:Params):Stmt:=(duB b P).getD 1 default
noncomputable abbrev zCm(b:Bool)(P:Params)(i:Nat):Stmt:=(qT (uT b P)).getD i default
noncomputable abbrev duQ(b:Bool)(P:Params):RecK:=evK (cf1 b P) 27
noncomputable def duE(b:Bool)(P:Params):Expr:=zIQ (zCm b P 1)
noncomputable def zRW(b:Bool)(P:Params)(sh:Bool):AE:=zAo (duE b P) (vN b P) (duN sh + 1) [(S "roads",4),(S "rank",6)]
noncomputable abbrev duL(b:Bool)(P:Params)(sh:Bool)(fu i:Nat)(σ:Sto)(k:Sto->Sy):Sy:=yE (duQ b P) (lcG 0 (duE b P)).target (lcG 0 (duE b P)).ifs (kD (duQ b P) (lcE (duE b P)) (duN sh) (zRW b P sh)) (zRW b P sh) (nxL (.trk 2)) k fu i σ
noncomputable abbrev duV(b:Bool)(P:Params)(sh:Bool)(v:V)(σ:Sto)(k:Sto->Sy):Sy:=kCV (duQ b P) (lcG 0 (duE b P)).target (lcG 0 (duE b P)).ifs (kD (duQ b P) (lcE (duE b P)) (duN sh) (zRW b P sh)) (zRW b P sh) v σ k
section
variable{b:Bool}{P:Params}{m:Bool}{R:Rd}{Ls T T' due acc:List Pl}{cr ck:Option V}
theorem zS2{k:V->Sto->Sy}:(evK (cf1 b P) 30).c (.val (.ref 350)) [.trk 1,.trk 2] [] (duC m R Ls) k=kU (evK (cf1 b P) 29) 3 (duB b P) (vN b P) ([.ctab 325 m,yK R,.pls Ls,.ns [(S "laid",.trk 2)],.cell (some (.trk 1)),.cell none,.cell none]) k:=by kernel_rfl
theorem yDs:Run (kS (evK (cf1 b P) 29) ((duB b P).take 1) (vN b P) [.ctab 325 m,yK R,.pls Ls,.ns [(S "laid",.trk 2)],.cell (some (.trk 1)),.cell none,.cell none]) .next (duS false m R Ls T [] none none):=zK (ds:=[]) (ps:=[]) (fun k=>by kernel_rfl) trivial
theorem zXf{sh:Bool}{k:Fl->Sto->Sy}:(evK (cf1 b P) 28).x (zCm b P 1) (vN b P) (duS sh m R Ls T due cr ck) k=duL b P sh 1000 0 (duK sh m R Ls T due cr ck [] []) (yZ (duN sh) fun v A4=>qL (S "ties") (vN b P) v A4 k):=by cases sh <;>kernel_rfl
end
noncomputable def kvO(z:Bool)(v:V):List (Str×V):=if z then [] else [(S "one",v)]
section
variable(b:Bool)(P:Params)(m:Bool)(R:Rd)(Ls T T' due acc:List Pl)(cr:Nat)(ck:Option V)(rt rr:Int)(v:V)
noncomputable def qF:Option V:=some (.tup [.int rt,.int rr])
noncomputable def zTQ(sh z:Bool):=lt5.map fun o=>fun k=>zD (duV b P sh (.int (BL o)) (duK sh m R Ls T due (some (.int (BL cr))) (qF rt rr) acc (kvO z v)) k) [.ans 3 true,.ans 6 true] []
noncomputable def zTi(sh:Bool):=lt5.map fun o=>fun k:Sto->Sy=>zD (k (duK sh m R Ls T due (some (.int (BL cr))) (qF rt rr) (acc ++ [qB (R.a o,R.z o)]) (kvO false (.int (BL o))))) [] [ltP (R.t o,BL o) (rt,rr)=true,decide (acc.length < 1000)=true]
theorem zVy:zTQ b P m R Ls T due acc cr rt rr v true true=zTi m R Ls T due acc cr rt rr true:=by kernel_rfl
theorem zW3:zTQ b P m R Ls T due acc cr rt rr v true false=zTi m R Ls T due acc cr rt rr true:=by kernel_rfl
theorem zWG:zTQ b P m R Ls T due acc cr rt rr v false true=zTi m R Ls T due acc cr rt rr false:=by kernel_rfl
theorem zXF:zTQ b P m R Ls T due acc cr rt rr v false false=zTi m R Ls T due acc cr rt rr false:=by kernel_rfl
noncomputable def zUg(sh z:Bool):=lt5.map fun o=>fun k=>zD (duV b P sh (.int (BL o)) (duK sh m R Ls T due (some (.int (BL cr))) (qF rt rr) acc (kvO z v)) k) [.ans 3 false] []
noncomputable def zSq(sh:Bool):=lt5.map fun o=>fun k:Sto->Sy=>zD (k (duK sh m R Ls T due (some (.int (BL cr))) (qF rt rr) acc (kvO false (.int (BL o))))) [] [ltP (R.t o,BL o) (rt,rr)=false]
theorem zVj:zUg b P m R Ls T due acc cr rt rr v true true=zSq m R Ls T due acc cr rt rr true:=by kernel_rfl
theorem zWD:zUg b P m R Ls T due acc cr rt rr v true false=zSq m R Ls T due acc cr rt rr true:=by kernel_rfl
theorem zXV:zUg b P m R Ls T due acc cr rt rr v false true=zSq m R Ls T due acc cr rt rr false:=by kernel_rfl
theorem zX3:zUg b P m R Ls T due acc cr rt rr v false false=zSq m R Ls T due acc cr rt rr false:=by kernel_rfl
noncomputable def yAE(sh:Bool):=lt5.map fun r=>fun k=>zD (kS (evK (cf1 b P) 28) [zCm b P 0] (vN b P) (duS sh m R Ls T due (some (.int (BL r))) ck) k) [] []
noncomputable def yAs(sh:Bool):=lt5.map fun r=>fun k:Fl->Sto->Sy=>zD (k .next (duS sh m R Ls T due (some (.int (BL r))) (qF (R.t r) (BL r)))) [] []
theorem yBo:yAE b P m R Ls T due ck true=yAs m R Ls T due true:=by kernel_rfl
theorem zZ1:yAE b P m R Ls T due ck false=yAs m R Ls T due false:=by kernel_rfl
noncomputable def jdP(r:Nat)(c:Bool):Prop:=F1 b P 345 [.trk 1,.str (zA (twN (R.a r))),.str (zA (twN (R.z r)))] (jdC m T')=some (.bool c,jdC m T')
noncomputable def yCb(sh:Bool):=lt5.map fun r=>fun k=>zD (kS (evK (cf1 b P) 28) [zCm b P 2] (vN b P) (duW sh m R Ls T T' due (some (.int (BL r))) (qF rt rr)) k) [.val 4 (.bool true) (jdC m T')] []
noncomputable def yBK(sh:Bool):=lt5.map fun r=>fun k:Fl->Sto->Sy=>zD (k .next (duW sh m R Ls T T' due (some (.int (BL r))) (qF rt rr))) [] [jdP b P m R T' r true]
theorem yA5:yCb b P m R Ls T T' due rt rr true=yBK b P m R Ls T T' due rt rr true:=by kernel_rfl
theorem zZW:yCb b P m R Ls T T' due rt rr false=yBK b P m R Ls T T' due rt rr false:=by kernel_rfl
noncomputable def zY9(sh:Bool):=lt5.map fun r=>fun k=>zD (kS (evK (cf1 b P) 28) [zCm b P 2] (vN b P) (duW sh m R Ls T T' due (some (.int (BL r))) (qF rt rr)) k) [.val 4 (.bool false) (jdC m T'),.ans 17 true] []
noncomputable def zZb(sh:Bool):=lt5.map fun r=>fun k:Fl->Sto->Sy=>zD (k .next (duW sh m R Ls T T' (due ++ [zE (R.a r,r),zE (R.z r,r)]) (some (.int (BL r))) (qF rt rr) ++ [.list [plV (zE (R.a r,r)),plV (zE (R.z r,r))]])) [] [jdP b P m R T' r false,decide (due.length + [zE (R.a r,r),zE (R.z r,r)].length<=1000)=true]
theorem zZq:zY9 b P m R Ls T T' due rt rr true=zZb b P m R Ls T T' due rt rr true:=by kernel_rfl
theorem yBk:zY9 b P m R Ls T T' due rt rr false=zZb b P m R Ls T T' due rt rr false:=by kernel_rfl
end
section
variable{b:Bool}{P:Params}{m:Bool}{R:Rd}{Ls T T' due due' acc:List Pl}{cr:Nat}{ck:Option V}{rt rr:Int}{v v1 v2:V}{z sh:Bool}
theorem zVU:Run (fun k=>yZ (duN sh) (fun v A4=>qL (S "ties") (vN b P) v A4 k) (duK sh m R Ls T due (some (.int (BL cr))) (qF rt rr) acc (kvO z v))) .next (duW sh m R Ls T acc due (some (.int (BL cr))) (qF rt rr)):=by
 cases sh <;>cases z <;>exact qR (fun _=>[]) [] (fun k=>by kernel_rfl) trivial
theorem yAC:gc 8 (duW sh m R Ls T T' due (some (.int (BL cr))) (qF rt rr))=duS true m R Ls T' due (some (.int (BL cr))) (qF rt rr):=by cases sh <;>kernel_rfl
theorem zZ5:gc 8 (duW sh m R Ls T T' due (some (.int (BL cr))) (qF rt rr) ++ [.list [v1,v2]])=duS true m R Ls T' due (some (.int (BL cr))) (qF rt rr):=by cases sh <;>kernel_rfl
theorem zPK{cr:Option V}{r:Nat}:wO (xY (uT b P)) (.int (BL r)) (vN b P) (duS sh m R Ls T due cr ck)=some (duS sh m R Ls T due (some (.int (BL r))) ck):=by cases sh <;>kernel_rfl
theorem zLt:qT (uT b P)=[zCm b P 0,zCm b P 1,zCm b P 2]:=by kernel_rfl
theorem yDL{f:Fl}{AA:Sto}(h:zKF (evK (cf1 b P) 28) (xY (uT b P)) (qT (uT b P)) (vN b P) 8 (nxL (.trk 2)) 1000 0 (duS false m R Ls T [] none none) f AA):Run ((evK (cf1 b P) 29).x (uT b P) (vN b P) (duS false m R Ls T [] none none)) f AA:=yT (fun k=>by kernel_rfl) h
theorem zXj:duB b P=(duB b P).take 1 ++ [uT b P,(duB b P).getD 2 default]:=by kernel_rfl
noncomputable def duR(sh:Bool)(m:Bool)(R:Rd)(Ls:List Pl)(T due due':List Pl)(cr ck:Option V):Sto:=duS sh m R Ls T due cr ck ++ [.pls due']
theorem zTt(hl:due.length<=1000)(hs:vH due=some due'):Run (kS (evK (cf1 b P) 29) [(duB b P).getD 2 default] (vN b P) (duS true m R Ls T due (some (.int (BL cr))) (qF rt rr))) (.ret (.trk 9)) (duR true m R Ls T due due' (some (.int (BL cr))) (qF rt rr)):=
 zK (ds:=[.ans 0 true,.val 0 .none [.pls due']]) [decide (due.length<=1000)=true,(vH due).map (fun l'=>(V.none,[Ob.pls l']))=some (.none,[.pls due'])] (fun k=>by kernel_rfl) ⟨decide_eq_true hl,by rw [hs]; rfl,trivial⟩
theorem zTd:gcv 3 (.trk 9) (duR true m R Ls T due due' (some (.int (BL cr))) (qF rt rr))=(.trk 3,duC m R Ls ++ [.pls due']):=by kernel_rfl
end
noncomputable def rkP(R:Rd)(o:Nat):Int×Int:=(R.t o,BL o)
noncomputable def zV(R:Rd)(ls:List Nat)(p:Int×Int):List (Nat×Nat):=(ls.filter fun o=>ltP (rkP R o) p).map fun o=>(R.a o,R.z o)
noncomputable def zAU(R:Rd)(ls:List Nat)(r:Nat):Bool:=!cnN (zV R ls (rkP R r)) (R.a r) (R.z r)
noncomputable def xW(R:Rd)(ls:List Nat)(r:Nat):List (Nat×Nat):=if zAU R ls r then [(R.a r,r),(R.z r,r)] else []
noncomputable def zDT(R:Rd)(ls:List Nat):List (Nat×Nat):=ls.flatMap (xW R ls)
structure RdOK(R:Rd):Prop where
 a:∀k,R.a k < 4
 z:∀k,R.z k < 4
section
variable{b:Bool}{P:Params}{m:Bool}{R:Rd}{T T' due due' acc:List Pl}{cr:Nat}{ck crO:Option V}{rt rr:Int}{v:V}{z sh:Bool}{ls:List Nat}
theorem zSp{o:Nat}{Ls:List Pl}(h5:o < 5)(h:ltP (rkP R o) (rt,rr)=true)(hl:acc.length < 1000):kC (duV b P sh (.int (BL o)) (duK sh m R Ls T due (some (.int (BL cr))) (qF rt rr) acc (kvO z v))) (duK sh m R Ls T due (some (.int (BL cr))) (qF rt rr) (acc ++ [qB (R.a o,R.z o)]) (kvO false (.int (BL o)))):=by
 cases sh with
 | true=>cases z with
  | true=>exact zP _ (fun k=>congrFun (BO.mp (zVy b P m R Ls T due acc cr rt rr v) o (zM h5)) k) ⟨h,decide_eq_true hl,trivial⟩
  | false=>exact zP _ (fun k=>congrFun (BO.mp (zW3 b P m R Ls T due acc cr rt rr v) o (zM h5)) k) ⟨h,decide_eq_true hl,trivial⟩
 | false=>cases z with
  | true=>exact zP _ (fun k=>congrFun (BO.mp (zWG b P m R Ls T due acc cr rt rr v) o (zM h5)) k) ⟨h,decide_eq_true hl,trivial⟩
  | false=>exact zP _ (fun k=>congrFun (BO.mp (zXF b P m R Ls T due acc cr rt rr v) o (zM h5)) k) ⟨h,decide_eq_true hl,trivial⟩
theorem zSV{o:Nat}{Ls:List Pl}(h5:o < 5)(h:ltP (rkP R o) (rt,rr)=false):kC (duV b P sh (.int (BL o)) (duK sh m R Ls T due (some (.int (BL cr))) (qF rt rr) acc (kvO z v))) (duK sh m R Ls T due (some (.int (BL cr))) (qF rt rr) acc (kvO false (.int (BL o)))):=by
 cases sh with
 | true=>cases z with
  | true=>exact zP _ (fun k=>congrFun (BO.mp (zVj b P m R Ls T due acc cr rt rr v) o (zM h5)) k) ⟨h,trivial⟩
  | false=>exact zP _ (fun k=>congrFun (BO.mp (zWD b P m R Ls T due acc cr rt rr v) o (zM h5)) k) ⟨h,trivial⟩
 | false=>cases z with
  | true=>exact zP _ (fun k=>congrFun (BO.mp (zXV b P m R Ls T due acc cr rt rr v) o (zM h5)) k) ⟨h,trivial⟩
  | false=>exact zP _ (fun k=>congrFun (BO.mp (zX3 b P m R Ls T due acc cr rt rr v) o (zM h5)) k) ⟨h,trivial⟩
theorem zLj{i o:Nat}{σ:Sto}(Ax:lsA σ 2=some (plL (ls.map idP)))(h:ls[i]? =some o):nxL (.trk 2) σ i=some (some (.int (BL o))):=by
 show (lsA σ 2).map _=_;rw [Ax];show some ((plL (ls.map idP))[i]?)=_;rw [Bc,Bc,h]; rfl
theorem zNR{i:Nat}{σ:Sto}(Ax:lsA σ 2=some (plL (ls.map idP)))(h:ls.length<=i):nxL (.trk 2) σ i=some none:=by
 show (lsA σ 2).map _=_;rw [Ax];show some ((plL (ls.map idP))[i]?)=_;rw [Bc,Bc,C3 h]; rfl
theorem zOL{Ls:List Pl}{kv:List (Str×V)}:lsA (duK sh m R Ls T due crO ck acc kv) 2=some (plL Ls):=by cases sh <;>rfl
theorem zKl{Ls:List Pl}:lsA (duS sh m R Ls T due crO ck) 2=some (plL Ls):=by cases sh <;>rfl
theorem zCY:∀(rest:List Nat) (i fu:Nat) (acc:List Pl) (z:Bool) (v:V),ls.drop i=rest->(∀o∈rest,o < 5)->acc.length + rest.length < 900->rest.length < fu->
  ∃z' v',kC (duL b P sh fu i (duK sh m R (ls.map idP) T due (some (.int (BL cr))) (qF rt rr) acc (kvO z v))) (duK sh m R (ls.map idP) T due (some (.int (BL cr))) (qF rt rr) (acc ++ (zV R rest (rt,rr)).map qB) (kvO z' v'))
 | [],i,fu + 1,acc,z,v,hd,_,_,_=>⟨z,v,by
  rw [show acc ++ (zV R [] (rt,rr)).map qB=acc from Bp acc];exact xS (zNR zOL (CP.mp hd))⟩
 | o::rest,i,fu + 1,acc,z,v,hd,hE,hl,hf=>by
  obtain ⟨h1,h2⟩:=xH hd;simp only [Bh] at hl hf;have h5:=hE o (by simp);cases hc:ltP (rkP R o) (rt,rr) with
  | true=>
   obtain ⟨z',v',k2⟩:=zCY rest (i + 1) fu (acc ++ [qB (R.a o,R.z o)]) false (.int (BL o)) h2 (fun x hx=>hE x (by simp [hx])) (by simp; lia) (by lia);refine ⟨z',v',?_⟩;have q:(zV R (o::rest) (rt,rr)).map qB=qB (R.a o,R.z o)::(zV R rest (rt,rr)).map qB:=by unfold zV; rw [CK,hc]; rfl
   rw [q,DL];exact yF (zLj zOL h1) (zSp h5 hc (by lia)) k2
  | false=>
   obtain ⟨z',v',k2⟩:=zCY rest (i + 1) fu acc false (.int (BL o)) h2 (fun x hx=>hE x (by simp [hx])) (by lia) (by lia);refine ⟨z',v',?_⟩;have q:(zV R (o::rest) (rt,rr)).map qB=(zV R rest (rt,rr)).map qB:=by unfold zV; rw [CK,hc]; rfl
   rw [q];exact yF (zLj zOL h1) (zSV h5 hc) k2
 | [],_,0,_,_,_,_,_,_,hf=>absurd hf (by simp)
 | _::_,_,0,_,_,_,_,_,_,hf=>absurd hf (by simp)
theorem zIj(hR:RdOK R)(ls:List Nat)(p:Int×Int):zHY (zV R ls p):=fun e he=>by
 obtain ⟨o,_,rfl⟩:=Bm.mp he;exact ⟨hR.a o,hR.z o⟩
theorem zRf(R:Rd)(ls:List Nat)(p:Int×Int):(zV R ls p).length<=ls.length:=by
 unfold zV;rw [BW];exact D9 _ _
theorem zN0{r:Nat}{Ls:List Pl}(h5:r < 5):Run (kS (evK (cf1 b P) 28) [zCm b P 0] (vN b P) (duS sh m R Ls T due (some (.int (BL r))) ck)) .next (duS sh m R Ls T due (some (.int (BL r))) (qF (R.t r) (BL r))):=by
 cases sh with
 | true=>exact zK _ (fun k=>congrFun (BO.mp (yBo b P m R Ls T due ck) r (zM h5)) k) trivial
 | false=>exact zK _ (fun k=>congrFun (BO.mp (zZ1 b P m R Ls T due ck) r (zM h5)) k) trivial
theorem zSx{r:Nat}{Ls:List Pl}(h5:r < 5)(hj:jdP b P m R T' r true):Run (kS (evK (cf1 b P) 28) [zCm b P 2] (vN b P) (duW sh m R Ls T T' due (some (.int (BL r))) (qF rt rr))) .next (duW sh m R Ls T T' due (some (.int (BL r))) (qF rt rr)):=by
 cases sh with
 | true=>exact zK _ (fun k=>congrFun (BO.mp (yA5 b P m R Ls T T' due rt rr) r (zM h5)) k) ⟨hj,trivial⟩
 | false=>exact zK _ (fun k=>congrFun (BO.mp (zZW b P m R Ls T T' due rt rr) r (zM h5)) k) ⟨hj,trivial⟩
theorem zRM{r:Nat}{Ls:List Pl}(h5:r < 5)(hj:jdP b P m R T' r false)(hl:due.length<=900):Run (kS (evK (cf1 b P) 28) [zCm b P 2] (vN b P) (duW sh m R Ls T T' due (some (.int (BL r))) (qF rt rr))) .next (duW sh m R Ls T T' (due ++ [zE (R.a r,r),zE (R.z r,r)]) (some (.int (BL r))) (qF rt rr) ++ [.list [plV (zE (R.a r,r)),plV (zE (R.z r,r))]]):=by
 have hz:decide (due.length + [zE (R.a r,r),zE (R.z r,r)].length<=1000)=true:=decide_eq_true (by show due.length + 2<=1000; lia);cases sh with
 | true=>exact zK _ (fun k=>congrFun (BO.mp (zZq b P m R Ls T T' due rt rr) r (zM h5)) k) ⟨hj,hz,trivial⟩
 | false=>exact zK _ (fun k=>congrFun (BO.mp (yBk b P m R Ls T T' due rt rr) r (zM h5)) k) ⟨hj,hz,trivial⟩
noncomputable abbrev zWm(b:Bool)(P:Params)(i:Nat)(σ:Sto)(AA:Sto):Prop:=zJJ (evK (cf1 b P) 28) (xY (uT b P)) (qT (uT b P)) (vN b P) 8 (nxL (.trk 2)) i σ .next AA
theorem zL4(hR:RdOK R)(h5:∀o∈ls,o < 5)(hl:ls.length<=9){i r:Nat}(hi:ls[i]? =some r)(hd:due.length<=900):zWm b P i (duS sh m R (ls.map idP) T due crO ck) (duS true m R (ls.map idP) ((zV R ls (rkP R r)).map qB) (due ++ (xW R ls r).map zE) (some (.int (BL r))) (qF (R.t r) (BL r))):=by
 have hr:r < 5:=h5 r (BZ hi);obtain ⟨z',v',k2⟩:=zCY (b:=b) (P:=P) (m:=m) (R:=R) (T:=T) (due:=due) (cr:=r) (rt:=R.t r) (rr:=BL r) (sh:=sh) (ls:=ls) ls 0 1000 [] true .none rfl h5 (by simp; lia) (by lia);rw [CN] at k2;have s1:Run ((evK (cf1 b P) 28).x (zCm b P 1) (vN b P) (duS sh m R (ls.map idP) T due (some (.int (BL r))) (qF (R.t r) (BL r)))) .next (duW sh m R (ls.map idP) T ((zV R ls (rkP R r)).map qB) due (some (.int (BL r))) (qF (R.t r) (BL r))):=kN (fun k=>zXf) k2 zVU
 have hj:∀c,cnN (zV R ls (rkP R r)) (R.a r) (R.z r)=c->jdP b P m R ((zV R ls (rkP R r)).map qB) r c:=fun c hc=>by
  unfold jdP;rw [<-hc];exact zMQ (hR.a r) (hR.z r) (zIj hR ls _) (Bn (zRf R ls _) (by lia))
 cases hc:cnN (zV R ls (rkP R r)) (R.a r) (R.z r) with
 | true=>
  have e:xW R ls r=[]:=by unfold xW zAU; rw [hc]; rfl
  rw [e,show due ++ List.map zE []=due from Bp due];exact zAm (zLj zKl hi) zPK (by rw [zLt]; exact zL (zHg (zN0 hr)) (zL s1 (zSx hr (hj _ hc)))) yAC
 | false=>
  have e:xW R ls r=[(R.a r,r),(R.z r,r)]:=by unfold xW zAU; rw [hc]; rfl
  rw [e];exact zAm (zLj zKl hi) zPK (by rw [zLt]; exact zL (zHg (zN0 hr)) (zL s1 (zRM hr (hj _ hc) hd))) zZ5
theorem zDL(R:Rd)(ls:List Nat)(r:Nat):(xW R ls r).length<=2:=by unfold xW; split <;>simp
theorem zLI(hR:RdOK R)(h5:∀o∈ls,o < 5)(hl:ls.length<=9):∀(rest:List Nat) (i fu:Nat) (T due:List Pl) (cr:Nat) (rt rr:Int),ls.drop i=rest->due.length + 2 * rest.length<=800->rest.length < fu->
  ∃T' cr' rt' rr',zKF (evK (cf1 b P) 28) (xY (uT b P)) (qT (uT b P)) (vN b P) 8 (nxL (.trk 2)) fu i (duS true m R (ls.map idP) T due (some (.int (BL cr))) (qF rt rr)) .next (duS true m R (ls.map idP) T' (due ++ (rest.flatMap (xW R ls)).map zE) (some (.int (BL cr'))) (qF rt' rr'))
 | [],i,fu + 1,T,due,cr,rt,rr,hd,_,_=>⟨T,cr,rt,rr,by
  rw [show due ++ (([]:List Nat).flatMap (xW R ls)).map zE=due from Bp due];exact xO (zNR zKl (CP.mp hd))⟩
 | r::rest,i,fu + 1,T,due,cr,rt,rr,hd,hz,hf=>by
  obtain ⟨h1,h2⟩:=xH hd;simp only [Bh] at hz hf;have hq:=zDL R ls r;obtain ⟨T',cr',rt',rr',k2⟩:=zLI hR h5 hl rest (i + 1) fu ((zV R ls (rkP R r)).map qB) (due ++ (xW R ls r).map zE) r (R.t r) (BL r) h2 (by rw [BY,BW]; lia) (by lia);refine ⟨T',cr',rt',rr',?_⟩;rw [C5,Bv,<-CA];exact yM (zL4 hR h5 hl h1 (by lia)) k2
 | [],_,0,_,_,_,_,_,_,_,hf=>absurd hf (by simp)
 | _::_,_,0,_,_,_,_,_,_,_,hf=>absurd hf (by simp)
theorem zIF(R:Rd)(ls:List Nat):∀l:List Nat,(l.flatMap (xW R ls)).length<=2 * l.length
 | []=>Ca _
 | r::l=>by
  have:=zIF R ls l;have:=zDL R ls r;rw [C5,BY,Bh]
  lia
theorem zWs(hR:RdOK R)(h5:∀o∈ls,o < 5)(hl:ls.length<=9)(h0:ls≠[])(hs:vH ((zDT R ls).map zE)=some due'):evC (cf1 b P) 30 (.val (.ref 350)) [.trk 1,.trk 2] [] (duC m R (ls.map idP))=some (.trk 3,duC m R (ls.map idP) ++ [.pls due']):=by
 cases hls:ls with
 | nil=>exact absurd hls h0
 | cons r rest=>
  rw [<-hls];have h1:ls[0]? =some r:=by rw [hls]; rfl
  have t0:=zL4 (b:=b) (P:=P) (m:=m) (sh:=false) (T:=[]) (due:=[]) (crO:=none) (ck:=none) hR h5 hl h1 (by simp);have hrl:rest.length + 1=ls.length:=by rw [hls]; rfl
  have hq:=zDL R ls r;obtain ⟨T',cr',rt',rr',k2⟩:=zLI (b:=b) (P:=P) (m:=m) hR h5 hl rest 1 999 ((zV R ls (rkP R r)).map qB) ([] ++ (xW R ls r).map zE) r (R.t r) (BL r) (by rw [hls]; rfl) (by rw [CN,BW]; lia) (by lia);have e:[] ++ (xW R ls r).map zE ++ (rest.flatMap (xW R ls)).map zE=(zDT R ls).map zE:=by
   have e1:zDT R ls=xW R ls r ++ rest.flatMap (xW R ls):=by
    unfold zDT;have:∀g:Nat->List (Nat×Nat),ls.flatMap g=g r ++ rest.flatMap g:=fun g=>by rw [hls,C5]
    exact this _
   rw [e1,Bv,CN]
  rw [e] at k2;have hz:((zDT R ls).map zE).length<=1000:=by
   rw [BW];have:(zDT R ls).length<=2 * ls.length:=zIF R ls ls
   lia
  refine wW (yT (fun k=>zS2) ?_);rw [zXj];exact xZ (yA yDs (zL (yDL (yM t0 k2)) (zTt hz hs))) zTd
end
noncomputable def lyB(b:Bool)(P:Params):List Stmt:=zBW (zZO b P)
noncomputable def yN(b:Bool)(P:Params):AE:=aeF (zZO b P) 5 [(S "worst",7),(S "roads",6)]
noncomputable def lyC(m:Bool)(L:List Pl)(R:Rd):Sto:=yD m L ++ [yK R]
noncomputable def lyT(s:Nat)(tv wv lv rv ov:V):List (Str×V):=match s with
 | 0=>[]
 | 1=>[(S "town",tv),(S "way",wv)]
 | 2=>[(S "town",tv),(S "way",wv),(S "letter",lv),(S "road",rv)]
 | _=>[(S "town",tv),(S "way",wv),(S "letter",lv),(S "road",rv),(S "other",ov)]
noncomputable def lyK(nw:Nat)(p:Nat)(ring:List Int)(kv:List (Str×V)):List (Str×V):=[(S "tree",.trk 1),(S "new",.int (BL nw)),(S "ways",.trk 8),(S "place",.int (BL p)),(S "ring",.il ring)] ++ kv
noncomputable def lyS(m:Bool)(L:List Pl)(R:Rd)(kv:List (Str×V))(cw:Option V)(W:List (Str×List Int)):Sto:=yD m L ++ [yK R,.ns kv,.cell (some (.trk 4)),.cell cw,.wls W]
noncomputable abbrev zJo(b:Bool)(P:Params):Stmt:=(lyB b P).getD 3 default
noncomputable abbrev zIO(b:Bool)(P:Params):List Stmt:=whB (zJo b P)
noncomputable abbrev zGs(b:Bool)(P:Params):Stmt:=(zIO b P).getD 3 default
noncomputable abbrev zVV(b:Bool)(P:Params):Stmt:=(lyB b P).getD 4 default
noncomputable abbrev zEt(b:Bool)(P:Params):Stmt:=(lyB b P).getD 5 default
noncomputable abbrev zTJ(b:Bool)(P:Params):Stmt:=(ifA (zEt b P)).getD 0 default
noncomputable abbrev zDA(b:Bool)(P:Params):Stmt:=(ifA (zEt b P)).getD 1 default
noncomputable abbrev lyR(b:Bool)(P:Params)(i:Nat):Stmt:=(qT (zDA b P)).getD i default
section
variable{b:Bool}{P:Params}{m:Bool}{R:Rd}{L:List Pl}{W:List (Str×List Int)}{nw p:Nat}{ring:List Int}{kv:List (Str×V)}{cw:Option V}{tv wv lv rv ov:V}
theorem zTk{k:V->Sto->Sy}:(evK (cf1 b P) 30).c (.val (.ref 340)) [.trk 1,.trk 4,.int (BL nw)] [] (lyC m L R) k=kU (evK (cf1 b P) 29) 5 (lyB b P) (yN b P) (yD m L ++ [yK R,.ns [(S "tree",.trk 1),(S "new",.int (BL nw))],.cell (some (.trk 4)),.cell none]) k:=by kernel_rfl
noncomputable def yDw(b:Bool)(P:Params)(m:Bool)(L:List Pl)(R:Rd):=lt5.map fun nw=>fun k=>zD (kS (evK (cf1 b P) 29) ((lyB b P).take 3) (yN b P) (yD m L ++ [yK R,.ns [(S "tree",.trk 1),(S "new",.int (BL nw))],.cell (some (.trk 4)),.cell none]) k) [] []
noncomputable def yDa(m:Bool)(L:List Pl)(R:Rd):=lt5.map fun nw=>fun k:Fl->Sto->Sy=>zD (k .next (lyS m L R (lyK nw 0 [] []) none [(zA (twN (R.a nw)),[BL nw])])) [] []
theorem yCp:yDw b P m L R=yDa m L R:=by kernel_rfl
end
theorem qZ{α:Type}{m m':(α->Sto->Sy)->Sy}{a:α}{AA:Sto}{ds:List Dec}(ps:List Prop)(h:∀k,zD (m k) ds []=zD (m' k) [] ps)(hp:qQ ps)(h2:Run m' a AA):Run m a AA:=fun k z hz=>(uC ((h k).trans (zAC (h2 k z hz))) hp).1
section
variable(b:Bool)(P:Params)(m:Bool)(R:Rd)(L T:List Pl)(W:List (Str×List Int))(p:Nat)(ring w:List Int)(tv wv lv rv ov:V)(t:List Nat)(s:Nat)(cw:Option V)
noncomputable def lyI(nw:Nat)(s:Nat):Sto:=lyS m L R (lyK nw p ring (lyT s tv wv lv rv ov)) none W
theorem zUf{nw:Nat}(hs:s=0\/s=1\/s=2\/s=3)(hl:W.length < 2 ^ 63):Run ((evK (cf1 b P) 28).t (whT (zJo b P)) (yN b P) (lyI m R L W p ring tv wv lv rv ov nw s)) (decide (BL p < (W.length:Int))) (lyI m R L W p ring tv wv lv rv ov nw s):=by
 rcases hs with rfl | rfl | rfl | rfl <;>exact zJj (ds:=[.ans 0 true]) (ps:=[decide (W.length < 2 ^ 63)=true]) (fun k=>by kernel_rfl) ⟨decide_eq_true hl,trivial⟩
noncomputable def lyU(s:Nat):Nat:=match s with | 0=>1 | s=>s
noncomputable def zSJ(s:Nat)(c:Bool):=lt5.map fun nw=>fun k=>zD (kS (evK (cf1 b P) 28) ((zIO b P).take 3) (yN b P) (lyI m R L W p ring tv wv lv rv ov nw s) k) [.val 0 (.tup [.str (zA t),.il w]) [],.ans 3 c] []
noncomputable def zSR(s:Nat)(c:Bool):=lt5.map fun nw=>fun k:Fl->Sto->Sy=>zD (k .next (lyI m R L W (p + 1) (if c then w else ring) (.str (zA t)) (.il w) lv rv ov nw (lyU s))) [] [kK (xM (.tup (wlL W)) (.int (BL p))) (.tup [.str (zA t),.il w]),((zA t).cps.toList==(zA (twN (R.z nw))).cps.toList)=c]
theorem zY1(c:Bool):zSJ b P m R L W p ring w tv wv lv rv ov t 0 c=zSR m R L W p ring w lv rv ov t 0 c:=by cases c <;>kernel_rfl
theorem zX1(c:Bool):zSJ b P m R L W p ring w tv wv lv rv ov t 1 c=zSR m R L W p ring w lv rv ov t 1 c:=by cases c <;>kernel_rfl
theorem zW1(c:Bool):zSJ b P m R L W p ring w tv wv lv rv ov t 2 c=zSR m R L W p ring w lv rv ov t 2 c:=by cases c <;>kernel_rfl
theorem zVA(c:Bool):zSJ b P m R L W p ring w tv wv lv rv ov t 3 c=zSR m R L W p ring w lv rv ov t 3 c:=by cases c <;>kernel_rfl
noncomputable def lyD(u:List Nat):List Dec:=[.ans 0 true,.val 0 (.str (zA u)) [],.val 0 (.trk 4) (yD m L ++ [.pls T])]
noncomputable def lyP(u:List Nat):List Prop:=[zEr (zA t)=true,kK (some (.str ⟨((zA t).cps.toList.map upF).toArray⟩)) (.str (zA u)),F1 b P 230 [.trk 1,.str (zA u)] (yD m L)=some (.trk 4,yD m L ++ [.pls T])]
noncomputable abbrev zQ8(nw:Nat)(fu i:Nat)(σ:Sto)(k:Fl->Sto->Sy):Sy:=vP (evK (cf1 b P) 27) (xY (zGs b P)) (qT (zGs b P)) (yN b P) 10 (nxL (.trk 9)) k fu i σ
theorem zTG{nw:Nat}{u:List Nat}(k:Fl->Sto->Sy):zD ((evK (cf1 b P) 28).x (zGs b P) (yN b P) (lyI m R L W p ring (.str (zA t)) (.il w) lv rv ov nw 1) k) (lyD m L T u) []=zD (zQ8 b P nw 1000 0 (lyI m R L W p ring (.str (zA t)) (.il w) lv rv ov nw 1 ++ [.pls T]) k) [] (lyP b P m L T t u):=by kernel_rfl
end
noncomputable def zF4(q:RecK)(t:Expr)(body:List Stmt)(ae:AE)(m:Nat)(v:V)(σ:Sto)(k:Fl->Sto->Sy):Sy:=liO (wO t v ae σ) fun A4=>kS q body ae A4 (zYw m k)
theorem zBd{q:RecK}{t:Expr}{body:List Stmt}{ae:AE}{m i:Nat}{nx:Nx}{σ AA:Sto}{v:V}{f:Fl}(h1:nx σ i=some (some v))(h:Run (zF4 q t body ae m v σ) f AA):zJJ q t body ae m nx i σ f AA:=fun k z hz=>by
 show run (liO (nx σ i) _)=_;rw [h1];exact h k z hz
section
variable(b:Bool)(P:Params)(m:Bool)(R:Rd)(L T:List Pl)(W:List (Str×List Int))(p:Nat)(ring w:List Int)(tv wv lv rv ov:V)(t:List Nat)(s:Nat)(cw:Option V)
theorem zRH{nw:Nat}{u:List Nat}(k:Fl->Sto->Sy):zD ((evK (cf1 b P) 28).x (zGs b P) (yN b P) (lyI m R L W p ring (.str (zA t)) (.il w) lv rv ov nw 2) k) (lyD m L T u) []=zD (zQ8 b P nw 1000 0 (lyI m R L W p ring (.str (zA t)) (.il w) lv rv ov nw 2 ++ [.pls T]) k) [] (lyP b P m L T t u):=by kernel_rfl
theorem zSQ{nw:Nat}{u:List Nat}(k:Fl->Sto->Sy):zD ((evK (cf1 b P) 28).x (zGs b P) (yN b P) (lyI m R L W p ring (.str (zA t)) (.il w) lv rv ov nw 3) k) (lyD m L T u) []=zD (zQ8 b P nw 1000 0 (lyI m R L W p ring (.str (zA t)) (.il w) lv rv ov nw 3 ++ [.pls T]) k) [] (lyP b P m L T t u):=by kernel_rfl
noncomputable def lyJ(nw:Nat)(s:Nat):Sto:=lyI m R L W p ring (.str (zA t)) (.il w) lv rv ov nw s ++ [.pls T]
noncomputable abbrev lyV(nw:Nat)(s:Nat)(r:Nat)(k:Fl->Sto->Sy):Sy:=zF4 (evK (cf1 b P) 27) (xY (zGs b P)) (qT (zGs b P)) (yN b P) 10 (.str (zA [97 + r])) (lyJ m R L T W p ring w lv rv ov t nw s) k
end
section
variable(b:Bool)(P:Params)(m:Bool)(R:Rd)(L T:List Pl)(W:List (Str×List Int))(p:Nat)(ring w:List Int)(lv rv ov:V)(t:List Nat)(nw:Nat)
noncomputable def zFu(r:Nat):Bool:=!(List.map Cm w).any fun y=>y.eqv (Cm (BL r))
noncomputable def zVK(r:Nat):Bool:=C8 (Cm (BL r)) && C8 (D5 (List.map Cm w))
noncomputable def zVx(s:Nat):=lt5.map fun r=>fun k=>zD (lyV b P m R L T W p ring w lv rv ov t nw s r k) [.ans 2 true,.ans 0 false] []
noncomputable def zVZ(s:Nat):=lt5.map fun r=>fun k:Fl->Sto->Sy=>zD (k .next (lyJ m R L T W p ring w (.str (zA [97 + r])) (.int (BL r)) ov t nw s)) [] [zVK w r=true,zFu w r=false]
theorem zV7:zVx b P m R L T W p ring w lv rv ov t nw 1=zVZ m R L T W p ring w ov t nw 2:=by kernel_rfl
theorem zVo:zVx b P m R L T W p ring w lv rv ov t nw 2=zVZ m R L T W p ring w ov t nw 2:=by kernel_rfl
theorem zYl:zVx b P m R L T W p ring w lv rv ov t nw 3=zVZ m R L T W p ring w ov t nw 3:=by kernel_rfl
noncomputable def zXs(s:Nat)(d:Bool):=lt5.map fun r=>fun k=>zD (lyV b P m R L T W p ring w lv rv ov t nw s r k) [.ans 2 true,.ans 0 true,.ans 2 d,.ans 3 true,.ans 1 true] []
noncomputable def zGn(R:Rd)(r:Nat)(d:Bool):Nat:=if d then R.z r else R.a r
noncomputable def zYp(d:Bool):=lt5.map fun r=>fun k:Fl->Sto->Sy=>zD (k .next (lyJ m R L T (W ++ [(zA (twN (zGn R r d)),w ++ [BL r])]) p ring w (.str (zA [97 + r])) (.int (BL r)) (.str (zA (twN (zGn R r d)))) t nw 3)) [] [zVK w r=true,zFu w r=true,((zA (twN (R.a r))).cps.toList==(zA t).cps.toList)=d,decide (w.length + 1<=1000)=true,decide (W.length < 1000)=true]
theorem zXn(d:Bool):zXs b P m R L T W p ring w lv rv ov t nw 1 d=zYp m R L T W p ring w t nw d:=by cases d <;>kernel_rfl
theorem zWT(d:Bool):zXs b P m R L T W p ring w lv rv ov t nw 2 d=zYp m R L T W p ring w t nw d:=by cases d <;>kernel_rfl
theorem zVC(d:Bool):zXs b P m R L T W p ring w lv rv ov t nw 3 d=zYp m R L T W p ring w t nw d:=by cases d <;>kernel_rfl
end
noncomputable def yS(W:List (Nat×List Nat)):List (Str×List Int):=W.map fun e=>(zA (twN e.1),e.2.map BL)
noncomputable def zBn(R:Rd)(r t:Nat):Nat:=zGn R r (BQ (R.a r) t)
noncomputable def lyN(R:Rd)(t:Nat)(w:List Nat)(r:Nat):List (Nat×List Nat):=if gIn w r then [] else [(zBn R r t,w ++ [r])]
noncomputable def inL(R:Rd)(t:Nat)(w rs:List Nat):List (Nat×List Nat):=rs.flatMap (lyN R t w)
noncomputable def zCx(s:Nat):Prop:=s=1\/s=2\/s=3
inductive LyT (c1 c2:Prop) (f:(Fl->Sto->Sy)->Sy) (g:List Nat->Int->List Nat->Nat->Sto):Prop
 | mk (s:Nat) (lv:List Nat) (rv:Int) (ov:List Nat) (j1:zCx s) (j2:c1->s=3) (j3:c2\/s=3) (j4:Run f .next (g lv rv ov s)):LyT c1 c2 f g
theorem zPv(w:List Nat)(r:Nat):zFu (w.map BL) r=!gIn w r:=by
 have h:∀w:List Nat,((List.map Cm (w.map BL)).any fun y=>y.eqv (Cm (BL r)))=gIn w r:=by
  intro w
  induction w with
  | nil=>rfl
  | cons x w ih=>
   show ((BL x==BL r) || _)=(BQ x r || gIn w r);rw [ih]
   by_cases hx:x=r
   ·rw [hx,beq_self_eq_true,CQ]
   ·rw [beq_eq_false_iff_ne.mpr fun e=>hx (BL.inj e)]
    cases hb:BQ x r with
    | true=>exact absurd (Bg hb) hx
    | false=>rfl
 unfold zFu;rw [h]
theorem zPb(w:List Int):PyData.canLayAll0 (w.map Cm)=true/\DV (w.map Cm)=0:=by
 induction w with
 | nil=>exact ⟨rfl,rfl⟩
 | cons a l ih=>exact ⟨Bd.mpr ⟨rfl,ih.1⟩,(show max (Cm a).depth (DV (l.map Cm))=0 by rw [ih.2]; rfl)⟩
theorem zB1(w:List Int):C8 (.list (w.map Cm))=true:=by
 obtain ⟨h1,h2⟩:=zPb w;exact Bd.mpr ⟨h1,decide_eq_true (by show DV (w.map Cm) + 1<=64; rw [h2]; decide)⟩
theorem zAd(w:List Int)(r:Nat):zVK w r=true:=Bd.mpr ⟨rfl,zB1 w⟩
theorem zQa{i j:Nat}(hi:i < 4)(hj:j < 4):((zA (twN i)).cps.toList==(zA (twN j)).cps.toList)=BQ i j:=by
 rcases zI hi with rfl | rfl | rfl | rfl <;>rcases zI hj with rfl | rfl | rfl | rfl <;>rfl
section
variable{b:Bool}{P:Params}{m:Bool}{R:Rd}{L T:List Pl}{W:List (Nat×List Nat)}{p t nw s r:Nat}{ring w:List Nat}{lv ov:List Nat}{rv:Int}
noncomputable abbrev zJR(m:Bool)(R:Rd)(L T:List Pl)(W:List (Nat×List Nat))(p:Nat)(ring w:List Nat)(lv:List Nat)(rv:Int)(ov:List Nat)(t nw s:Nat):Sto:=lyJ m R L T (yS W) p (ring.map BL) (w.map BL) (.str (zA lv)) (.int rv) (.str (zA ov)) (twN t) nw s
theorem zSm(hR:RdOK R)(hs:zCx s)(ht:t < 4)(hr:r < 5)(hw:w.length < 900)(hW:W.length < 1000):LyT (s=3) (lyN R t w r=[])
  (lyV b P m R L T (yS W) p (ring.map BL) (w.map BL) (.str (zA lv)) (.int rv) (.str (zA ov)) (twN t) nw s r) fun lv' rv' ov' s'=>zJR m R L T (W ++ lyN R t w r) p ring w lv' rv' ov' t nw s':=by
 have h5:=zM hr;have hb:=zQa (hR.a r) ht;cases hg:gIn w r with
 | true=>
  have e:lyN R t w r=[]:=by unfold lyN; rw [hg]; rfl
  rw [e,show W ++ []=W from Bp W];have ho:zFu (w.map BL) r=false:=by rw [zPv,hg]; rfl
  rcases hs with rfl | rfl | rfl
  ·exact ⟨2,[97 + r],BL r,ov,.inr (.inl rfl),by decide,.inl rfl,qZ _ (fun k=>congrFun (BO.mp (zV7 b P m R L T (yS W) p (ring.map BL) (w.map BL) (.str (zA lv)) (.int rv) (.str (zA ov)) (twN t) nw) r h5) k) ⟨zAd _ _,ho,trivial⟩ (fun k z hz=>hz)⟩
  ·exact ⟨2,[97 + r],BL r,ov,.inr (.inl rfl),by decide,.inl rfl,qZ _ (fun k=>congrFun (BO.mp (zVo b P m R L T (yS W) p (ring.map BL) (w.map BL) (.str (zA lv)) (.int rv) (.str (zA ov)) (twN t) nw) r h5) k) ⟨zAd _ _,ho,trivial⟩ (fun k z hz=>hz)⟩
  ·exact ⟨3,[97 + r],BL r,ov,.inr (.inr rfl),fun _=>rfl,.inl rfl,qZ _ (fun k=>congrFun (BO.mp (zYl b P m R L T (yS W) p (ring.map BL) (w.map BL) (.str (zA lv)) (.int rv) (.str (zA ov)) (twN t) nw) r h5) k) ⟨zAd _ _,ho,trivial⟩ (fun k z hz=>hz)⟩
 | false=>
  have e:lyN R t w r=[(zGn R r (BQ (R.a r) t),w ++ [r])]:=by unfold lyN; rw [hg]; rfl
  have eW:yS (W ++ lyN R t w r)=yS W ++ [(zA (twN (zGn R r (BQ (R.a r) t))),w.map BL ++ [BL r])]:=by
   rw [e]; unfold yS; rw [Bv];show _ ++ [(_,(w ++ [r]).map BL)]=_;rw [Bv]; rfl
  unfold zJR;rw [eW];have ho:zFu (w.map BL) r=true:=by rw [zPv,hg]; rfl
  have hw1:decide ((w.map BL).length + 1<=1000)=true:=decide_eq_true (by rw [BW]; lia);have hW1:decide ((yS W).length < 1000)=true:=decide_eq_true (by unfold yS; rw [BW]; exact hW);refine ⟨3,[97 + r],BL r,twN (zGn R r (BQ (R.a r) t)),.inr (.inr rfl),fun _=>rfl,.inr rfl,?_⟩;rcases hs with rfl | rfl | rfl
  ·exact qZ _ (fun k=>congrFun (BO.mp (zXn b P m R L T (yS W) p (ring.map BL) (w.map BL) (.str (zA lv)) (.int rv) (.str (zA ov)) (twN t) nw _) r h5) k) ⟨zAd _ _,ho,hb,hw1,hW1,trivial⟩ (fun k z hz=>hz)
  ·exact qZ _ (fun k=>congrFun (BO.mp (zWT b P m R L T (yS W) p (ring.map BL) (w.map BL) (.str (zA lv)) (.int rv) (.str (zA ov)) (twN t) nw _) r h5) k) ⟨zAd _ _,ho,hb,hw1,hW1,trivial⟩ (fun k z hz=>hz)
  ·exact qZ _ (fun k=>congrFun (BO.mp (zVC b P m R L T (yS W) p (ring.map BL) (w.map BL) (.str (zA lv)) (.int rv) (.str (zA ov)) (twN t) nw _) r h5) k) ⟨zAd _ _,ho,hb,hw1,hW1,trivial⟩ (fun k z hz=>hz)
theorem zKT(R:Rd)(t:Nat)(w:List Nat)(r:Nat):(lyN R t w r).length<=1:=by
 unfold lyN;cases gIn w r with
 | true=>exact Ca _
 | false=>exact CD _
theorem yBp{rest:List Nat}(hl:W.length + (r::rest).length < 900):W.length < 1000:=C4 (C6 _ _) (CV hl (by decide))
theorem yAF{rest:List Nat}(hl:W.length + (r::rest).length < 900):(W ++ lyN R t w r).length + rest.length < 900:=by
 have:=zKT R t w r;rw [BY];rw [Bh] at hl
 lia
theorem zXb{rest:List Nat}{s s':Nat}(k3:lyN R t w r=[]\/s=3)(j3:inL R t w rest=[]\/s'=3)(j2:s=3->s'=3):inL R t w (r::rest)=[]\/s'=3:=by
 rcases k3 with k3 | k3
 ·rcases j3 with j3 | j3
  ·exact .inl (by show EV _ (r::rest)=[]; rw [C5,k3]; exact j3)
  ·exact .inr j3
 ·exact .inr (j2 k3)
theorem zTr{rest:List Nat}:W ++ inL R t w (r::rest)=W ++ lyN R t w r ++ inL R t w rest:=by
 show W ++ EV _ (r::rest)=_;rw [C5,CA]; rfl
theorem yCa{i:Nat}{rs:List Nat}(h:rs[i]? =some r):nxL (.trk 9) (zJR m R L (rs.map zZ) W p ring w lv rv ov t nw s) i=some (some (.str (zA [97 + r]))):=by
 show some ((plL (rs.map zZ))[i]?)=_;rw [Bc,Bc,h]; rfl
theorem zV1{i:Nat}{rs:List Nat}(h:rs.length<=i):nxL (.trk 9) (zJR m R L (rs.map zZ) W p ring w lv rv ov t nw s) i=some none:=by
 show some ((plL (rs.map zZ))[i]?)=_;rw [Bc,Bc,C3 h]; rfl
theorem zRl{rs:List Nat}(hR:RdOK R)(ht:t < 4)(hw:w.length < 900)(rest:List Nat):∀(i fu:Nat) (W:List (Nat×List Nat)) (s:Nat) (lv:List Nat) (rv:Int) (ov:List Nat),rs.drop i=rest->(∀r∈rest,r < 5)->W.length + rest.length < 900->rest.length < fu->zCx s->
  LyT (s=3) (inL R t w rest=[]) (fun k=>zQ8 b P nw fu i (zJR m R L (rs.map zZ) W p ring w lv rv ov t nw s) k) fun lv' rv' ov' s'=>zJR m R L (rs.map zZ) (W ++ inL R t w rest) p ring w lv' rv' ov' t nw s':=by
 induction rest with
 | nil=>
  intro i fu W s lv rv ov hd _ _ hf hs;cases fu with
  | zero=>exact absurd hf (Nat.not_lt_zero _)
  | succ fu=>exact ⟨s,lv,rv,ov,hs,id,.inl rfl,by
    rw [show W ++ inL R t w []=W from Bp W];exact xO (zV1 (CP.mp hd))⟩
 | cons r rest ih=>
  intro i fu W s lv rv ov hd hE hl hf hs;cases fu with
  | zero=>exact absurd hf (Nat.not_lt_zero _)
  | succ fu=>
   obtain ⟨h1,h2⟩:=xH hd;obtain ⟨s1,lv1,rv1,ov1,k1,k2,k3,k4⟩:=zSm (b:=b) (P:=P) (m:=m) (L:=L) (T:=rs.map zZ) (p:=p) (ring:=ring) (lv:=lv) (rv:=rv) (ov:=ov) (nw:=nw) hR hs ht (hE r CB) hw (yBp hl);obtain ⟨s',lv',rv',ov',j1,j2,j3,j4⟩:=ih (i + 1) fu (W ++ lyN R t w r) s1 lv1 rv1 ov1 h2 (fun x hx=>hE x (Bq _ hx)) (yAF hl) (CJ hf) k1;refine ⟨s',lv',rv',ov',j1,fun h=>j2 (k2 h),zXb k3 j3 j2,?_⟩;rw [zTr];exact yM (zBd (yCa h1) k4) j4
theorem yCi(hs:zCx s){tv:List Nat}{wv:List Int}{T:List Pl}{W:List (Str×List Int)}{ring:List Int}:gc 9 (lyI m R L W p ring (.str (zA tv)) (.il wv) (.str (zA lv)) (.int rv) (.str (zA ov)) nw s ++ [.pls T])=lyI m R L W p ring (.str (zA tv)) (.il wv) (.str (zA lv)) (.int rv) (.str (zA ov)) nw s:=by
 rcases hs with rfl | rfl | rfl <;>kernel_rfl
end
noncomputable def zO(H:List (Nat×Nat))(t:Nat):List Nat:=(atT H t).map (·.2)
noncomputable def zJb(R:Rd)(nw:Nat)(H:List (Nat×Nat)):Nat->Nat->List (Nat×List Nat)->List Nat->Option (List Nat)
 | 0,_,_,_=>none
 | fu + 1,p,W,ring=>match W[p]? with
  | none=>some ring
  | some e=>zJb R nw H fu (p + 1) (W ++ inL R e.1 e.2 (zO H e.1)) (if BQ e.1 (R.z nw) then e.2 else ring)
theorem zFW(H:List (Nat×Nat))(t:Nat):zAE H t=(zO H t).map zZ:=by unfold zAE zO; rw [EU]; rfl
section
variable{b:Bool}{P:Params}{m:Bool}{R:Rd}{H:List (Nat×Nat)}{W:List (Nat×List Nat)}{p t nw s:Nat}{ring w:List Nat}{tv wv lV rV oV:V}{lv ov:List Nat}{rv:Int}
theorem zRT:zIO b P=(zIO b P).take 3 ++ [zGs b P]:=by kernel_rfl
theorem zLO(ht:t < 4):zEr (zA (twN t))=true/\kK (some (.str ⟨((zA (twN t)).cps.toList.map upF).toArray⟩)) (.str (zA (nmU t true))):=by
 rcases zI ht with rfl | rfl | rfl | rfl <;>exact ⟨rfl,rfl⟩
theorem zYC(h:W[p]? =some (t,w))(hl:W.length<=1000):kK (xM (.tup (wlL (yS W))) (.int (BL p))) (.tup [.str (zA (twN t)),.il (w.map BL)]):=by
 have hp:p < W.length:=by
  rcases Dc p W.length with h1 | h1
  ·exact h1
  ·rw [C3 h1] at h; cases h
 have e:(wlL (yS W)).length=W.length:=by unfold wlL yS; rw [BW,BW]
 unfold kK;rw [zHx (by rw [e]; exact hp) (by rw [e]; exact hl)];unfold wlL yS;rw [Bc,Bc,h]; rfl
theorem zR6(hR:RdOK R)(hn:nw < 5)(ht:t < 4)(hs:s=0\/s=1\/s=2\/s=3)(h:W[p]? =some (t,w))(hl:W.length<=1000):
  Run (kS (evK (cf1 b P) 28) ((zIO b P).take 3) (yN b P) (lyI m R (H.map zE) (yS W) p (ring.map BL) tv wv lV rV oV nw s)) .next (lyI m R (H.map zE) (yS W) (p + 1) ((if BQ t (R.z nw) then w else ring).map BL) (.str (zA (twN t))) (.il (w.map BL)) lV rV oV nw (lyU s)):=by
 have h5:=zM hn;have g:=zYC h hl;have hb:=zQa ht (hR.z nw);have e:(if BQ t (R.z nw) then w else ring).map BL=if BQ t (R.z nw) then w.map BL else ring.map BL:=by cases BQ t (R.z nw) <;>rfl
 rw [e];rcases hs with rfl | rfl | rfl | rfl
 ·exact zK _ (fun k=>congrFun (BO.mp (zY1 b P m R (H.map zE) (yS W) p (ring.map BL) (w.map BL) tv wv lV rV oV (twN t) _) nw h5) k) ⟨g,hb,trivial⟩
 ·exact zK _ (fun k=>congrFun (BO.mp (zX1 b P m R (H.map zE) (yS W) p (ring.map BL) (w.map BL) tv wv lV rV oV (twN t) _) nw h5) k) ⟨g,hb,trivial⟩
 ·exact zK _ (fun k=>congrFun (BO.mp (zW1 b P m R (H.map zE) (yS W) p (ring.map BL) (w.map BL) tv wv lV rV oV (twN t) _) nw h5) k) ⟨g,hb,trivial⟩
 ·exact zK _ (fun k=>congrFun (BO.mp (zVA b P m R (H.map zE) (yS W) p (ring.map BL) (w.map BL) tv wv lV rV oV (twN t) _) nw h5) k) ⟨g,hb,trivial⟩
theorem zNG(hs:s=0\/s=1\/s=2\/s=3):zCx (lyU s):=by
 rcases hs with rfl | rfl | rfl | rfl
 ·exact .inl rfl
 ·exact .inl rfl
 ·exact .inr (.inl rfl)
 ·exact .inr (.inr rfl)
theorem zWh(hs:zCx s){T:List Pl}{u:List Nat}{W:List (Str×List Int)}{ring w:List Int}{t:List Nat}(k:Fl->Sto->Sy):zD ((evK (cf1 b P) 28).x (zGs b P) (yN b P) (lyI m R (H.map zE) W p ring (.str (zA t)) (.il w) lV rV oV nw s) k) (lyD m (H.map zE) T u) []=zD (zQ8 b P nw 1000 0 (lyI m R (H.map zE) W p ring (.str (zA t)) (.il w) lV rV oV nw s ++ [.pls T]) k) [] (lyP b P m (H.map zE) T t u):=by
 rcases hs with rfl | rfl | rfl
 ·exact zTG b P m R (H.map zE) T W p ring w lV rV oV t k
 ·exact zRH b P m R (H.map zE) T W p ring w lV rV oV t k
 ·exact zSQ b P m R (H.map zE) T W p ring w lV rV oV t k
theorem zA5(hE:∀e∈H,Ent e){t:Nat}:∀r∈zO H t,r < 5:=fun r hr=>by
 obtain ⟨e,he,rfl⟩:=Bm.mp hr;exact (hE e (Bj.mp he).1).2
theorem vF(H:List (Nat×Nat))(t:Nat):(zO H t).length<=H.length:=by
 unfold zO; rw [BW]; exact D9 _ _
theorem zLo(R:Rd)(t:Nat)(w:List Nat):∀rs:List Nat,(inL R t w rs).length<=rs.length
 | []=>Ca _
 | r::rs=>by
  have hn:=zKT R t w r;have:=zLo R t w rs;show (EV _ (r::rs)).length<=_;rw [C5,BY,Bh];show _ + (inL R t w rs).length<=_
  lia
theorem zKO{R:Rd}(hR:RdOK R){t:Nat}{w rs:List Nat}{e:Nat×List Nat}(h:e∈inL R t w rs):e.1 < 4/\e.2.length=w.length + 1:=by
 obtain ⟨r,_,h⟩:=Cr.mp h;unfold lyN at h;split at h
 ·exact absurd h Ba
 ·rw [BP.mp h]
  refine ⟨?_,by simp⟩;show zGn R r _ < 4;unfold zGn;split
  ·exact hR.z r
  ·exact hR.a r
theorem zMC(hR:RdOK R)(hn:nw < 5)(hE:∀e∈H,Ent e)(hH:H.length<=30)(ht:t < 4)(hw:w.length < 900)(hs:s=0\/s=1\/s=2\/s=3)(h:W[p]? =some (t,w))(hl:W.length < 800):
  LyT (s=3) (inL R t w (zO H t)=[]) (kS (evK (cf1 b P) 28) (zIO b P) (yN b P) (lyI m R (H.map zE) (yS W) p (ring.map BL) tv wv (.str (zA lv)) (.int rv) (.str (zA ov)) nw s))
   fun lv' rv' ov' s'=>zJR m R (H.map zE) (zAE H t) (W ++ inL R t w (zO H t)) (p + 1) (if BQ t (R.z nw) then w else ring) w lv' rv' ov' t nw s':=by
 have hr:=vF H t;obtain ⟨s',lv',rv',ov',j1,j2,j3,j4⟩:=zRl (b:=b) (P:=P) (m:=m) (L:=H.map zE) (p:=p + 1) (ring:=if BQ t (R.z nw) then w else ring) (nw:=nw) (rs:=zO H t) hR ht hw (zO H t) 0 1000 W (lyU s) lv rv ov rfl (zA5 hE) (by lia) (by lia) (zNG hs);refine ⟨s',lv',rv',ov',j1,fun e=>j2 (by rw [e]; rfl),j3,?_⟩;rw [zRT];rw [<-zFW] at j4;exact yA (zR6 hR hn ht hs h (by lia)) (yG (qZ _ (fun k=>zWh (zNG hs) k) ⟨(zLO ht).1,(zLO ht).2,zFe true ht hE (by lia),trivial⟩ j4))
inductive LyW (c:Prop) (f:(Fl->Sto->Sy)->Sy) (g:List (Nat×List Nat)->Nat->List Nat->List Int->List Nat->Int->List Nat->Nat->Sto):Prop
 | mk (p:Nat) (W:List (Nat×List Nat)) (s:Nat) (tv:List Nat) (wv:List Int) (lv:List Nat) (rv:Int) (ov:List Nat) (j1:zCx s) (j2:s=3\/c) (j3:W.length < 800) (j4:Run f .next (g W p tv wv lv rv ov s)):LyW c f g
theorem zZ3(haz:R.a nw≠R.z nw){s1:Nat}{rs:List Nat}(hi:s=3\/(W=[(R.a nw,[nw])]/\ring=[]))(hc:W[p]? =some (t,w))(k2:s=3->s1=3)(k3:inL R t w rs=[]\/s1=3):s1=3\/(W ++ inL R t w rs=[(R.a nw,[nw])]/\(if BQ t (R.z nw) then w else ring)=[]):=by
 rcases hi with hi | ⟨rfl,hr⟩
 ·exact .inl (k2 hi)
 ·rcases k3 with k3 | k3
  ·refine .inr ⟨by rw [k3,Bp],?_⟩
   cases p with
   | zero=>
    cases hc;rw [if_neg (fun hb=>haz (Bg hb))];exact hr
   | succ p=>exact noS hc
  ·exact .inl k3
theorem zV3(hR:RdOK R){n:Nat}{rs:List Nat}(hl:W.length + 40 * (n + 1) < 800)(hW:∀e∈W,e.1 < 4/\e.2.length + (n + 1) < 800)(hr:rs.length<=30)(hw:(t,w)∈W)(h0:0 < W.length):(W ++ inL R t w rs).length + 40 * n < 800/\(∀e∈W ++ inL R t w rs,e.1 < 4/\e.2.length + n < 800)/\0 < (W ++ inL R t w rs).length:=by
 have il:=zLo R t w rs;rw [BY];refine ⟨by lia,fun e he=>?_,by lia⟩;rcases BR.mp he with he | he
 ·obtain ⟨q1,q2⟩:=hW e he
  exact ⟨q1,by lia⟩
 ·obtain ⟨q1,q2⟩:=zKO hR he
  obtain ⟨_,q3⟩:=hW _ hw;exact ⟨q1,by rw [q2]; exact C4 (by rw [Nat.add_assoc,Nat.add_comm 1 n]; exact CD _) q3⟩
theorem zXq(hs:s=0\/s=1\/s=2\/s=3)(h0:s≠0):zCx s:=hs.resolve_left h0
theorem zP5(hR:RdOK R)(hn:nw < 5)(hE:∀e∈H,Ent e)(hH:H.length<=30)(haz:R.a nw≠R.z nw){rg:List Nat}(n:Nat):∀(fu p:Nat) (W:List (Nat×List Nat)) (ring:List Nat) (s:Nat) (tv:List Nat) (wv:List Int) (lv:List Nat) (rv:Int) (ov:List Nat),zJb R nw H n p W ring=some rg->n < fu->W.length + 40 * n < 800->(∀e∈W,e.1 < 4/\e.2.length + n < 800)->0 < W.length->(s=0\/s=1\/s=2\/s=3)->(s=0->p=0)->(s=3\/(W=[(R.a nw,[nw])]/\ring=[]))->
  LyW (rg=[]) (fun k=>wQ (evK (cf1 b P) 28) (whT (zJo b P)) (zIO b P) (yN b P) 9 k fu (lyI m R (H.map zE) (yS W) p (ring.map BL) (.str (zA tv)) (.il wv) (.str (zA lv)) (.int rv) (.str (zA ov)) nw s))
   fun W' p' tv' wv' lv' rv' ov' s'=>lyI m R (H.map zE) (yS W') p' (rg.map BL) (.str (zA tv')) (.il wv') (.str (zA lv')) (.int rv') (.str (zA ov')) nw s':=by
 induction n with
 | zero=>exact fun _ _ _ _ _ _ _ _ _ _ hg=>nomatch hg
 | succ n ih=>
  intro fu p W ring s tv wv lv rv ov hg hf hl hW h0 hs hp hi;cases fu with
  | zero=>exact absurd hf (Nat.not_lt_zero _)
  | succ fu=>
   have lW:(yS W).length=W.length:=BW _;have htest:=zUf b P m R (H.map zE) (yS W) p (ring.map BL) (.str (zA tv)) (.il wv) (.str (zA lv)) (.int rv) (.str (zA ov)) s (nw:=nw) hs (lW▸C4 (C6 _ _) (CV hl (by decide)));rw [lW] at htest;have hg:(match W[p]? with
    | none=>some ring
    | some e=>zJb R nw H n (p + 1) (W ++ inL R e.1 e.2 (zO H e.1)) (if BQ e.1 (R.z nw) then e.2 else ring))=some rg:=hg
   cases hc:W[p]? with
   | none=>
    have hpl:W.length<=p:=Cu.mp hc;rw [hc] at hg;cases hg;rw [decide_eq_false (show ¬BL p < _ from ET.mpr (Int.ofNat_le.mpr hpl))] at htest;exact ⟨p,W,s,tv,wv,lv,rv,ov,zXq hs fun h=>absurd (hp h▸h0) (Dj.mpr hpl),hi.imp_right And.right,C4 (C6 _ _) hl,zNl htest⟩
   | some e=>
    obtain ⟨t,w⟩:=e;rw [hc] at hg;have hm:=BZ hc;rw [decide_eq_true (show BL p < _ from EG.mpr (DA.mp hc).1)] at htest;obtain ⟨s1,lv1,rv1,ov1,k1,k2,k3,k4⟩:=zMC (b:=b) (P:=P) (m:=m) (tv:= .str (zA tv)) (wv:= .il wv) (lv:=lv) (rv:=rv) (ov:=ov) (ring:=ring) hR hn hE hH (hW _ hm).1 (C4 (C6 _ _) (CV (hW _ hm).2 (by decide))) hs hc (C4 (C6 _ _) hl);obtain ⟨n1,n2,n3⟩:=zV3 hR hl hW (Bn (vF H t) hH) hm h0;obtain ⟨p',W',s',tv',wv',lv',rv',ov',j1,j2,j3,j4⟩:=ih fu (p + 1) (W ++ inL R t w (zO H t)) _ s1 (twN t) (w.map BL) lv1 rv1 ov1 hg (CJ hf) n1 n2 n3 (.inr k1) (fun e=>absurd (e▸k1) (by unfold zCx; decide)) (zZ3 haz hi hc k2 k3);exact ⟨p',W',s',tv',wv',lv',rv',ov',j1,j2,j3,zJP htest k4 (yCi k1) j4⟩
end
noncomputable def lyE(m:Bool)(L:List Pl)(R:Rd)(W:List (Str×List Int))(p:Nat)(ring:List Int)(tv wv lv rv ov:V)(nw s:Nat)(kv:List (Str×V))(cw:Option V):Sto:=lyS m L R (lyK nw p ring (lyT s tv wv lv rv ov ++ kv)) cw W
section
variable(b:Bool)(P:Params)(m:Bool)(R:Rd)(L T:List Pl)(W:List (Str×List Int))(p:Nat)(ring w:List Int)(tv lv ov:List Nat)(rv:Int)(nw:Nat)(s:Nat)(cw:Option V)(wv:List Int)
noncomputable abbrev zAD(nw s:Nat)(L:List Pl)(kv:List (Str×V))(cw:Option V):Sto:=lyE m L R W p ring (.str (zA tv)) (.il wv) (.str (zA lv)) (.int rv) (.str (zA ov)) nw s kv cw
theorem zYR{k:Fl->Sto->Sy}{nw:Nat}:(evK (cf1 b P) 29).x (zJo b P) (yN b P) (lyI m R L W p ring (.str (zA tv)) (.il wv) (.str (zA lv)) (.int rv) (.str (zA ov)) nw 0) k=wQ (evK (cf1 b P) 28) (whT (zJo b P)) (zIO b P) (yN b P) 9 k 1000 (lyI m R L W p ring (.str (zA tv)) (.il wv) (.str (zA lv)) (.int rv) (.str (zA ov)) nw 0):=by kernel_rfl
end
section
variable(b:Bool)(P:Params)(m:Bool)(R:Rd)(L T:List Pl)(W:List (Str×List Int))(p:Nat)(ring w:List Int)(tv lv ov ev:List Nat)(rv:Int)(nw:Nat)(s:Nat)(cw:Option V)(wv:List Int)
noncomputable def enV(x:List Nat):List (Str×V):=[(S "end",.str (zA x))]
noncomputable def adP(b:Bool)(P:Params)(m:Bool)(L:List Pl)(t r:Nat):Prop:=F1 b P 288 [.trk 1,.str (zA (twN t)),.str (zA [97 + r])] (yD m L)=some (.none,yD m (L ++ [zE (t,r)]))
noncomputable def zYW(s:Nat):=lt5.map fun nw=>fun k=>zD (kS (evK (cf1 b P) 29) [zVV b P] (yN b P) (zAD m R W p ring tv lv ov rv wv nw s L [] none) k) [.val 7 .none (yD m (L ++ [zE (R.a nw,nw)])),.val 3 .none (yD m (L ++ [zE (R.a nw,nw)] ++ [zE (R.z nw,nw)]))] []
noncomputable def zXM(s:Nat):=lt5.map fun nw=>fun k:Fl->Sto->Sy=>zD (k .next (zAD m R W p ring tv lv ov rv wv nw s (L ++ [zE (R.a nw,nw)] ++ [zE (R.z nw,nw)]) (enV (twN (R.z nw))) none)) [] [adP b P m L (R.a nw) nw,adP b P m (L ++ [zE (R.a nw,nw)]) (R.z nw) nw]
theorem zWk:zYW b P m R L W p ring tv lv ov rv wv 1=zXM b P m R L W p ring tv lv ov rv wv 1:=by kernel_rfl
theorem zWH:zYW b P m R L W p ring tv lv ov rv wv 2=zXM b P m R L W p ring tv lv ov rv wv 2:=by kernel_rfl
theorem zWv:zYW b P m R L W p ring tv lv ov rv wv 3=zXM b P m R L W p ring tv lv ov rv wv 3:=by kernel_rfl
end
section
variable{b:Bool}{P:Params}{m:Bool}{R:Rd}{L T acc:List Pl}{W:List (Str×List Int)}{p:Nat}{ring w:List Int}{tv lv ov ev:List Nat}{rv:Int}{nw s:Nat}{cw:Option V}{wv:List Int}
theorem zOT(hs:zCx s){c:Bool}(hp:(C8 (D5 (ring.map Cm)) && C8 (D5 []))=true)(hc:(!(D5 (ring.map Cm)).eqv (D5 []))=c):Run ((evK (cf1 b P) 28).t (ifT (zEt b P)) (yN b P) (zAD m R W p ring tv lv ov rv wv nw s L (enV ev) none)) c (zAD m R W p ring tv lv ov rv wv nw s L (enV ev) none ++ [.list []]):=by
 subst hc;rcases hs with rfl | rfl | rfl <;>exact zJj (ds:=[.ans 1 true]) [(C8 (D5 (ring.map Cm)) && C8 (D5 []))=true] (fun k=>by kernel_rfl) ⟨hp,trivial⟩
theorem zPX{σ:Sto}{k:Fl->Sto->Sy}:(evK (cf1 b P) 29).x (zEt b P) (yN b P) σ k=kIf (evK (cf1 b P) 28) (ifT (zEt b P)) (ifA (zEt b P)) [] (yN b P) σ k:=by kernel_rfl
noncomputable def yAo:Expr->Expr
 | .Subscript v _ _=>v
 | _=>default
noncomputable def mxE(b:Bool)(P:Params):Expr:=yAL (yAo (zIQ (zTJ b P)))
noncomputable def zTy(b:Bool)(P:Params):AE:=zAo (mxE b P) (yN b P) 11 [(S "roads",6)]
noncomputable abbrev mxL(b:Bool)(P:Params)(ring:List Int)(fu i:Nat)(σ:Sto)(k:Sto->Sy):Sy:=yE (evK (cf1 b P) 24) (lcG 0 (mxE b P)).target (lcG 0 (mxE b P)).ifs (kD (evK (cf1 b P) 24) (lcE (mxE b P)) 10 (zTy b P)) (zTy b P) (nxL (.il ring)) k fu i σ
noncomputable abbrev mxV(b:Bool)(P:Params)(v:V)(σ:Sto)(k:Sto->Sy):Sy:=kCV (evK (cf1 b P) 24) (lcG 0 (mxE b P)).target (lcG 0 (mxE b P)).ifs (kD (evK (cf1 b P) 24) (lcE (mxE b P)) 10 (zTy b P)) (zTy b P) v σ k
noncomputable abbrev mxK(b:Bool)(P:Params)(k:Fl->Sto->Sy):Sto->Sy:=yZ 10 fun v σ=>(evK (cf1 b P) 25).c (.val (.builtin "max")) [v] [] σ fun u A4=>zHL (cf1 b P).hs u (.int 1) A4 fun x A5=>qL (S "worst") (yN b P) x A5 k
noncomputable abbrev mxS(m:Bool)(L:List Pl)(R:Rd)(W:List (Str×List Int))(p:Nat)(ring:List Int)(tv:List Nat)(wv:List Int)(lv:List Nat)(rv:Int)(ov ev:List Nat)(nw:Nat)(cw:Option V):Sto:=zAD m R W p ring tv lv ov rv wv nw 3 L (enV ev) cw ++ [.list []]
theorem zZm{k:Fl->Sto->Sy}:(evK (cf1 b P) 28).x (zTJ b P) (yN b P) (mxS m L R W p ring tv wv lv rv ov ev nw none) k=mxL b P ring 1000 0 (mxS m L R W p ring tv wv lv rv ov ev nw none ++ [.pls [],.ns []]) (mxK b P k):=by kernel_rfl
end
noncomputable def rkL(R:Rd)(r:Nat):Pl:= .tup [.i (R.t r),.i (BL r)]
noncomputable def kvM(z:Bool)(v:V):List (Str×V):=if z then [] else [(S "road",v)]
noncomputable def kF(R:Rd):List Nat->Nat->Nat
 | [],c=>c
 | r::l,c=>kF R l (if gtP (rkP R r) (rkP R c) then r else c)
noncomputable def kZ(R:Rd)(ring:List Nat):Nat:=match ring with
 | []=>0
 | r::l=>kF R l r
theorem zG2(R:Rd):∀(l:List Nat) (c:Nat),zDy (l.map (rkP R)) (rkP R c)=rkP R (kF R l c)
 | [],_=>rfl
 | r::l,c=>by
  show zDy (l.map (rkP R)) (if gtP (rkP R r) (rkP R c) then rkP R r else rkP R c)=rkP R (kF R l (if gtP (rkP R r) (rkP R c) then r else c));cases gtP (rkP R r) (rkP R c) with
  | true=>exact zG2 R l r
  | false=>exact zG2 R l c
theorem zBO(R:Rd):∀(l:List Nat) (c:Nat),kF R l c=c\/kF R l c∈l
 | [],_=> .inl rfl
 | r::l,c=>by
  have e:kF R (r::l) c=kF R l (if gtP (rkP R r) (rkP R c) then r else c):=rfl;rw [e];cases gtP (rkP R r) (rkP R c) with
  | true=>
   rcases zBO R l r with h | h
   ·exact .inr (by show kF R l r∈r::l; rw [h]; simp)
   ·exact .inr (Bq _ h)
  | false=>
   rcases zBO R l c with h | h
   ·exact .inl h
   ·exact .inr (Bq _ h)
theorem zCU{R:Rd}{ring:List Nat}(h:ring≠[]):kZ R ring∈ring:=by
 cases ring with
 | nil=>exact absurd rfl h
 | cons r l=>
  rcases zBO R l r with e | e
  ·show kF R l r∈_; rw [e]; simp
  ·exact Bq _ e
theorem zUm(R:Rd)(l:List Nat):qI pr2 (plL (l.map (rkL R)))=some (l.map (rkP R)):=by
 induction l with
 | nil=>rfl
 | cons r l ih=>
  show qI pr2 (plV (rkL R r)::plL (l.map (rkL R)))=_;rw [zYF,ih]; rfl
section
variable(b:Bool)(P:Params)(m:Bool)(R:Rd)(L acc:List Pl)(W:List (Str×List Int))(p:Nat)(ring:List Int)(tv lv ov ev:List Nat)(rv:Int)(nw:Nat)(wv:List Int)(v:V)
noncomputable def mx1(z:Bool):=lt5.map fun r=>fun k=>zD (mxV b P (.int (BL r)) (mxS m L R W p ring tv wv lv rv ov ev nw none ++ [.pls acc,.ns (kvM z v)]) k) [.ans 4 true] []
noncomputable def mx2:=lt5.map fun r=>fun k:Sto->Sy=>zD (k (mxS m L R W p ring tv wv lv rv ov ev nw none ++ [.pls (acc ++ [rkL R r]),.ns (kvM false (.int (BL r)))])) [] [decide (acc.length < 1000)=true]
theorem yDu:mx1 b P m R L acc W p ring tv lv ov ev rv nw wv v true=mx2 m R L acc W p ring tv lv ov ev rv nw wv:=by kernel_rfl
theorem yC5:mx1 b P m R L acc W p ring tv lv ov ev rv nw wv v false=mx2 m R L acc W p ring tv lv ov ev rv nw wv:=by kernel_rfl
noncomputable def mx3(z:Bool):=lt5.map fun r=>fun k=>zD (mxK b P k (mxS m L R W p ring tv wv lv rv ov ev nw none ++ [.pls acc,.ns (kvM z v)])) [.val 0 (.tup [.int (R.t r),.int (BL r)]) []] []
noncomputable def mx4:=lt5.map fun r=>fun k:Fl->Sto->Sy=>zD (k .next (mxS m L R W p ring tv wv lv rv ov ev nw (some (.int (BL r))) ++ [.pls acc,.list []])) [] [Dy (fun p=>(p.fst,([]:Sto))) (zKI (V.trk 10) (mxS m L R W p ring tv wv lv rv ov ev nw none ++ [.pls acc]))=some (.tup [.int (R.t r),.int (BL r)],[])]
theorem yBD:mx3 b P m R L acc W p ring tv lv ov ev rv nw wv v false=mx4 m R L acc W p ring tv lv ov ev rv nw wv:=by kernel_rfl
end
section
variable{b:Bool}{P:Params}{m:Bool}{R:Rd}{L T acc:List Pl}{W:List (Str×List Int)}{p:Nat}{ring:List Nat}{tv lv ov ev:List Nat}{rv:Int}{nw s:Nat}{cw:Option V}{wv:List Int}
theorem zU8{i r:Nat}{σ:Sto}(h:ring[i]? =some r):nxL (.il (ring.map BL)) σ i=some (some (.int (BL r))):=by
 show some (((ring.map BL).map V.int)[i]?)=_;rw [Bc,Bc,h]; rfl
theorem zQg{i:Nat}{σ:Sto}(h:ring.length<=i):nxL (.il (ring.map BL)) σ i=some none:=by
 show some (((ring.map BL).map V.int)[i]?)=_;rw [Bc,Bc,C3 h]; rfl
theorem zS8{r:Nat}{z:Bool}{v:V}{rg:List Int}(h5:r < 5)(hl:acc.length < 1000):kC (mxV b P (.int (BL r)) (mxS m L R W p rg tv wv lv rv ov ev nw none ++ [.pls acc,.ns (kvM z v)])) (mxS m L R W p rg tv wv lv rv ov ev nw none ++ [.pls (acc ++ [rkL R r]),.ns (kvM false (.int (BL r)))]):=by
 cases z with
 | true=>exact zP _ (fun k=>congrFun (BO.mp (yDu b P m R L acc W p rg tv lv ov ev rv nw wv v) r (zM h5)) k) ⟨decide_eq_true hl,trivial⟩
 | false=>exact zP _ (fun k=>congrFun (BO.mp (yC5 b P m R L acc W p rg tv lv ov ev rv nw wv v) r (zM h5)) k) ⟨decide_eq_true hl,trivial⟩
theorem zLi:∀(rest:List Nat) (i fu:Nat) (acc:List Pl) (z:Bool) (v:V),ring.drop i=rest->(∀r∈rest,r < 5)->acc.length + rest.length < 900->rest.length < fu->
  ∃v',kC (mxL b P (ring.map BL) fu i (mxS m L R W p (ring.map BL) tv wv lv rv ov ev nw none ++ [.pls acc,.ns (kvM z v)])) (mxS m L R W p (ring.map BL) tv wv lv rv ov ev nw none ++ [.pls (acc ++ rest.map (rkL R)),.ns (kvM (z && rest.isEmpty) v')])
 | [],i,fu + 1,acc,z,v,hd,_,_,_=>⟨v,by
  rw [show acc ++ [].map (rkL R)=acc from Bp acc,show (z && [].isEmpty)=z by cases z <;>rfl];exact xS (zQg (CP.mp hd))⟩
 | r::rest,i,fu + 1,acc,z,v,hd,hE,hl,hf=>by
  obtain ⟨h1,h2⟩:=xH hd;simp only [Bh] at hl hf;obtain ⟨v',k2⟩:=zLi rest (i + 1) fu (acc ++ [rkL R r]) false (.int (BL r)) h2 (fun x hx=>hE x (by simp [hx])) (by simp; lia) (by lia);refine ⟨v',?_⟩;rw [show acc ++ (r::rest).map (rkL R)=acc ++ [rkL R r] ++ rest.map (rkL R) by rw [Cs,CA]; rfl,show (z && (r::rest).isEmpty)=(false && rest.isEmpty) by cases z <;>rfl];exact yF (zU8 h1) (zS8 (hE r (by simp)) (by lia)) k2
 | [],_,0,_,_,_,_,_,_,hf=>absurd hf (by simp)
 | _::_,_,0,_,_,_,_,_,_,hf=>absurd hf (by simp)
theorem yCe(h0:ring≠[])(h5:∀r∈ring,r < 5)(hl:ring.length < 800):Run ((evK (cf1 b P) 28).x (zTJ b P) (yN b P) (mxS m L R W p (ring.map BL) tv wv lv rv ov ev nw none)) .next (mxS m L R W p (ring.map BL) tv wv lv rv ov ev nw (some (.int (BL (kZ R ring)))) ++ [.pls (ring.map (rkL R)),.list []]):=by
 obtain ⟨v',k2⟩:=zLi (b:=b) (P:=P) (m:=m) (R:=R) (L:=L) (W:=W) (p:=p) (ring:=ring) (tv:=tv) (lv:=lv) (ov:=ov) (ev:=ev) (rv:=rv) (nw:=nw) (wv:=wv) ring 0 1000 [] true .none rfl h5 (by simp; lia) (by lia);have e:(true && ring.isEmpty)=false:=by cases ring with | nil=>exact absurd rfl h0 | cons=>rfl
 rw [e,CN] at k2;have hw:=h5 _ (zCU (R:=R) h0);have hm:Dy (fun p=>(p.fst,([]:Sto))) (zKI (V.trk 10) (mxS m L R W p (ring.map BL) tv wv lv rv ov ev nw none ++ [.pls (ring.map (rkL R))]))=some (.tup [.int (R.t (kZ R ring)),.int (BL (kZ R ring))],[]):=by
  have e1:zR (V.trk 10) (mxS m L R W p (ring.map BL) tv wv lv rv ov ev nw none ++ [.pls (ring.map (rkL R))])=some (plL (ring.map (rkL R))):=rfl;unfold zKI;rw [e1];show Dy _ ((qI pr2 (plL (ring.map (rkL R)))).bind _)=_;rw [zUm];cases ring with
  | nil=>exact absurd rfl h0
  | cons r l=>
   show some (yR (zDy (l.map (rkP R)) (rkP R r)),_)=_;rw [zG2]; rfl
 exact kN (fun k=>zZm) k2 (qR (fun _=>[.val 0 (.tup [.int (R.t (kZ R ring)),.int (BL (kZ R ring))]) []]) _ (fun k=>congrFun (BO.mp (yBD b P m R L (ring.map (rkL R)) W p (ring.map BL) tv lv ov ev rv nw wv v') (kZ R ring) (zM hw)) k) ⟨hm,trivial⟩)
end
noncomputable def reK(sh:Bool):List (Str×V):=if sh then [(S "rest",.trk 12)] else []
noncomputable def feS(sh:Bool)(m:Bool)(L:List Pl)(R:Rd)(W:List (Str×List Int))(p:Nat)(ring:List Int)(tv:List Nat)(wv:List Int)(lv:List Nat)(rv:Int)(ov ev:List Nat)(nw w:Nat)(acc rs:List Pl):Sto:=
 zAD m R W p ring tv lv ov rv wv nw 3 L (enV ev ++ reK sh) (some (.int (BL w))) ++ ([.list [],.pls acc,.list []] ++ (if sh then [.pls rs] else []))
noncomputable def feI(sh:Bool):Nat:=if sh then 14 else 13
noncomputable def reE(b:Bool)(P:Params):Expr:=zIQ (lyR b P 0)
noncomputable def zTs(b:Bool)(P:Params)(sh:Bool):AE:=zAo (reE b P) (yN b P) (feI sh + 1) [(S "worst",7)]
noncomputable abbrev reL(b:Bool)(P:Params)(sh:Bool)(fu i:Nat)(σ:Sto)(k:Sto->Sy):Sy:=yE (evK (cf1 b P) 26) (lcG 0 (reE b P)).target (lcG 0 (reE b P)).ifs (kD (evK (cf1 b P) 26) (lcE (reE b P)) (feI sh) (zTs b P sh)) (zTs b P sh) (nxL (.trk (if sh then 13 else 12))) k fu i σ
noncomputable abbrev reV(b:Bool)(P:Params)(sh:Bool)(v:V)(σ:Sto)(k:Sto->Sy):Sy:=kCV (evK (cf1 b P) 26) (lcG 0 (reE b P)).target (lcG 0 (reE b P)).ifs (kD (evK (cf1 b P) 26) (lcE (reE b P)) (feI sh) (zTs b P sh)) (zTs b P sh) v σ k
noncomputable abbrev zVz(b:Bool)(P:Params)(sh:Bool)(k:Fl->Sto->Sy):Sto->Sy:=yZ (feI sh) fun v σ=>qL (S "rest") (yN b P) v σ k
section
variable(b:Bool)(P:Params)(m:Bool)(R:Rd)(L T acc rs A:List Pl)(W:List (Str×List Int))(p:Nat)(ring:List Int)(tv lv ov ev x:List Nat)(rv:Int)(nw w:Nat)(wv:List Int)(v:V)
noncomputable abbrev feN(sh:Bool)(L:List Pl)(ev:List Nat)(w:Nat):Sto:=feS sh m L R W p ring tv wv lv rv ov ev nw w acc rs
noncomputable abbrev fe2(b:Bool)(P:Params)(w:Nat)(R:Rd)(fu i:Nat)(σ:Sto)(k:Fl->Sto->Sy):Sy:=vP (evK (cf1 b P) 27) (xY (zDA b P)) (qT (zDA b P)) (yN b P) 12 (nxT [.str (zA (twN (R.a w))),.str (zA (twN (R.z w)))]) k fu i σ
noncomputable def fe1:=lt5.map fun w=>fun k=>zD ((evK (cf1 b P) 28).x (zDA b P) (yN b P) (feN m R acc rs W p ring tv lv ov rv nw wv false L ev w) k) [] []
noncomputable def fe3:=lt5.map fun w=>fun k:Fl->Sto->Sy=>zD (fe2 b P w R 1000 0 (feN m R acc rs W p ring tv lv ov rv nw wv false L ev w) k) [] []
theorem yCl:fe1 b P m R L acc rs W p ring tv lv ov ev rv nw wv=fe3 b P m R L acc rs W p ring tv lv ov ev rv nw wv:=by kernel_rfl
theorem zWL(sh:Bool):wO (xY (zDA b P)) (.str (zA x)) (yN b P) (feN m R acc rs W p ring tv lv ov rv nw wv sh L ev w)=some (feN m R acc rs W p ring tv lv ov rv nw wv sh L x w):=by cases sh <;>kernel_rfl
end
section
variable(b:Bool)(P:Params)(m:Bool)(R:Rd)(L L' T acc rs A:List Pl)(W:List (Str×List Int))(p:Nat)(ring:List Int)(tv lv ov ev x:List Nat)(rv:Int)(nw w:Nat)(wv:List Int)(v:V)(kv:List (Str×V))
noncomputable abbrev feT(sh:Bool)(L:List Pl)(ev:List Nat)(w:Nat)(kv:List (Str×V)):Sto:=feN m R acc rs W p ring tv lv ov rv nw wv sh L ev w ++ [.pls T,.pls A,.ns kv]
theorem yDn(sh:Bool)(k:Fl->Sto->Sy):zD ((evK (cf1 b P) 27).x (lyR b P 0) (yN b P) (feN m R acc rs W p ring tv lv ov rv nw wv sh L ev w) k) [.val 0 (.trk 4) (yD m L ++ [.pls T])] []=zD (reL b P sh 1000 0 (feT m R T acc rs [] W p ring tv lv ov rv nw wv sh L ev w []) (zVz b P sh k)) [] [F1 b P 230 [.trk 1,.str (zA ev)] (yD m L)=some (.trk 4,yD m L ++ [.pls T])]:=by cases sh <;>kernel_rfl
noncomputable def kvL(z:Bool)(v:V):List (Str×V):=if z then [] else [(S "letter",v)]
noncomputable def zYm:List (Nat×Nat):=[(0,0),(0,1),(0,2),(0,3),(0,4),(1,0),(1,1),(1,2),(1,3),(1,4),(2,0),(2,1),(2,2),(2,3),(2,4),(3,0),(3,1),(3,2),(3,3),(3,4),(4,0),(4,1),(4,2),(4,3),(4,4)]
noncomputable def re1(sh z:Bool):=zYm.map fun q=>fun k=>zD (reV b P sh (.str (zA [97 + q.1])) (feT m R T acc rs A W p ring tv lv ov rv nw wv sh L ev q.2 (kvL z v)) k) (if BQ q.1 q.2 then [] else [.ans 4 true]) []
noncomputable def re2(sh:Bool):=zYm.map fun q=>fun k:Sto->Sy=>zD (k (feT m R T acc rs (if BQ q.1 q.2 then A else A ++ [zZ q.1]) W p ring tv lv ov rv nw wv sh L ev q.2 (kvL false (.str (zA [97 + q.1]))))) [] (if BQ q.1 q.2 then [] else [decide (A.length < 1000)=true])
theorem yBC:re1 b P m R L T acc rs A W p ring tv lv ov ev rv nw wv v true true=re2 m R L T acc rs A W p ring tv lv ov ev rv nw wv true:=by kernel_rfl
theorem yAV:re1 b P m R L T acc rs A W p ring tv lv ov ev rv nw wv v true false=re2 m R L T acc rs A W p ring tv lv ov ev rv nw wv true:=by kernel_rfl
theorem yAw:re1 b P m R L T acc rs A W p ring tv lv ov ev rv nw wv v false true=re2 m R L T acc rs A W p ring tv lv ov ev rv nw wv false:=by kernel_rfl
theorem yBA:re1 b P m R L T acc rs A W p ring tv lv ov ev rv nw wv v false false=re2 m R L T acc rs A W p ring tv lv ov ev rv nw wv false:=by kernel_rfl
noncomputable def feW(sh:Bool)(L:List Pl)(lv ev:List Nat)(w:Nat):Sto:=
 zAD m R W p ring tv lv ov rv wv nw 3 L (enV ev ++ [(S "rest",.trk (feI sh))]) (some (.int (BL w))) ++ ([.list [],.pls acc,.list []] ++ ((if sh then [.pls rs] else []) ++ [.pls T,.pls A]))
theorem zZn(sh z:Bool)(k:Fl->Sto->Sy):zD (zVz b P sh k (feT m R T acc rs A W p ring tv lv ov rv nw wv sh L ev w (kvL z (.str (zA x))))) [] []=zD (k .next (feW m R T acc rs A W p ring tv ov rv nw wv sh L lv ev w)) [] []:=by cases sh <;>cases z <;>kernel_rfl
noncomputable abbrev leF(sh:Bool)(fu i:Nat)(σ:Sto)(k:Fl->Sto->Sy):Sy:=vP (evK (cf1 b P) 26) (xY (lyR b P 2)) (qT (lyR b P 2)) (yN b P) (feI sh + 1) (nxL (.trk (feI sh))) k fu i σ
theorem yDx(sh:Bool)(k:Fl->Sto->Sy):(evK (cf1 b P) 27).x (lyR b P 2) (yN b P) (feW m R T acc rs A W p ring tv ov rv nw wv sh L lv ev w) k=leF b P sh 1000 0 (feW m R T acc rs A W p ring tv ov rv nw wv sh L lv ev w) k:=by cases sh <;>kernel_rfl
noncomputable abbrev leV(sh:Bool)(y:List Nat)(k:Fl->Sto->Sy):Sy:=zF4 (evK (cf1 b P) 26) (xY (lyR b P 2)) (qT (lyR b P 2)) (yN b P) (feI sh + 1) (.str (zA y)) (feW m R T acc rs A W p ring tv ov rv nw wv sh L lv ev w) k
end
section
variable{b:Bool}{P:Params}{m:Bool}{R:Rd}{L L' T acc rs A:List Pl}{W:List (Str×List Int)}{p:Nat}{ring:List Int}{tv lv ov ev x u y:List Nat}{rv:Int}{nw w s:Nat}{wv:List Int}{v:V}{sh:Bool}
theorem yDS(h1:zEr (zA ev)=true)(h2:kK (some (.str ⟨((zA ev).cps.toList.map upF).toArray⟩)) (.str (zA u)))(h3:F1 b P 211 [.trk 1,.str (zA u)] (yD m L)=some (.none,yD m L')):
  Run (kS (evK (cf1 b P) 27) [lyR b P 1] (yN b P) (feW m R T acc rs A W p ring tv ov rv nw wv sh L lv ev w)) .next (feW m R T acc rs A W p ring tv ov rv nw wv sh L' lv ev w):=by
 cases sh <;>exact zK (ds:=[.ans 0 true,.val 0 (.str (zA u)) [],.val 0 .none (yD m L')]) [zEr (zA ev)=true,kK (some (.str ⟨((zA ev).cps.toList.map upF).toArray⟩)) (.str (zA u)),F1 b P 211 [.trk 1,.str (zA u)] (yD m L)=some (.none,yD m L')] (fun k=>by kernel_rfl) ⟨h1,h2,h3,trivial⟩
theorem yCH(h:F1 b P 288 [.trk 1,.str (zA ev),.str (zA y)] (yD m L)=some (.none,yD m L')):
  Run (leV b P m R L T acc rs A W p ring tv lv ov ev rv nw w wv sh y) .next (feW m R T acc rs A W p ring tv ov rv nw wv sh L' y ev w):=by
 cases sh <;>exact qR (fun _=>[.val 0 .none (yD m L')]) [F1 b P 288 [.trk 1,.str (zA ev),.str (zA y)] (yD m L)=some (.none,yD m L')] (fun k=>by kernel_rfl) ⟨h,trivial⟩
theorem yAG:gc 12 (feW m R T acc rs A W p ring tv ov rv nw wv sh L lv ev w)=feN m R acc A W p ring tv lv ov rv nw wv true L ev w:=by cases sh <;>kernel_rfl
theorem zXp:gcv 5 .none (feN m R acc A W p ring tv lv ov rv nw wv true L ev w)=(.none,lyC m L R):=by kernel_rfl
theorem zYx(hs:zCx s):gcv 5 .none (zAD m R W p ring tv lv ov rv wv nw s L (enV ev) none ++ [.list []])=(.none,lyC m L R):=by rcases hs with rfl | rfl | rfl <;>kernel_rfl
theorem zTg:qT (zDA b P)=[lyR b P 0,lyR b P 1,lyR b P 2]:=by kernel_rfl
theorem zVL:lyB b P=(lyB b P).take 3 ++ [zJo b P,zVV b P,zEt b P]:=by kernel_rfl
theorem zW2:ifA (zEt b P)=[zTJ b P,zDA b P]:=by kernel_rfl
end
noncomputable def wF(w:Nat)(rs:List Nat):List Nat:=rs.filter fun r=>!BQ r w
noncomputable def uG(w t:Nat)(H:List (Nat×Nat)):List (Nat×Nat):=zAA H t ++ (wF w (zO H t)).map fun r=>(t,r)
noncomputable def zIe(R:Rd)(nw:Nat)(rg:List Nat)(H:List (Nat×Nat)):List (Nat×Nat):=match rg with
 | []=>H ++ [(R.a nw,nw)] ++ [(R.z nw,nw)]
 | rg=>uG (kZ R rg) (R.z (kZ R rg)) (uG (kZ R rg) (R.a (kZ R rg)) (H ++ [(R.a nw,nw)] ++ [(R.z nw,nw)]))
theorem zQ1{i j:Nat}(hi:i < 5)(hj:j < 5):(i,j)∈zYm:=by
 have f:∀{i:Nat},i < 5->i=0\/i=1\/i=2\/i=3\/i=4:=fun h=>by lia
 rcases f hi with rfl | rfl | rfl | rfl | rfl <;>rcases f hj with rfl | rfl | rfl | rfl | rfl <;>decide
section
variable{b:Bool}{P:Params}{m:Bool}{R:Rd}{L L' T acc rs A:List Pl}{W:List (Str×List Int)}{p:Nat}{ring:List Int}{tv lv ov ev x u y:List Nat}{rv:Int}{nw w s t:Nat}{wv:List Int}{v:V}{sh:Bool}{H:List (Nat×Nat)}
theorem zTp{r:Nat}{z:Bool}(hr:r < 5)(hw:w < 5)(hl:A.length < 1000):kC (reV b P sh (.str (zA [97 + r])) (feT m R T acc rs A W p ring tv lv ov rv nw wv sh L ev w (kvL z v))) (feT m R T acc rs (if BQ r w then A else A ++ [zZ r]) W p ring tv lv ov rv nw wv sh L ev w (kvL false (.str (zA [97 + r])))):=by
 have hm:=zQ1 hr hw;have ha:qQ (if BQ r w then [] else [decide (A.length < 1000)=true]):=by
  cases BQ r w with
  | true=>trivial
  | false=>exact ⟨decide_eq_true hl,trivial⟩
 cases sh <;>cases z
 ·exact zP _ (fun k=>congrFun (BO.mp (yBA b P m R L T acc rs A W p ring tv lv ov ev rv nw wv v) (r,w) hm) k) ha
 ·exact zP _ (fun k=>congrFun (BO.mp (yAw b P m R L T acc rs A W p ring tv lv ov ev rv nw wv v) (r,w) hm) k) ha
 ·exact zP _ (fun k=>congrFun (BO.mp (yAV b P m R L T acc rs A W p ring tv lv ov ev rv nw wv v) (r,w) hm) k) ha
 ·exact zP _ (fun k=>congrFun (BO.mp (yBC b P m R L T acc rs A W p ring tv lv ov ev rv nw wv v) (r,w) hm) k) ha
theorem yBe{i r:Nat}{l:List Nat}{kv:List (Str×V)}(h:l[i]? =some r):nxL (.trk (if sh then 13 else 12)) (feT m R (l.map zZ) acc rs A W p ring tv lv ov rv nw wv sh L ev w kv) i=some (some (.str (zA [97 + r]))):=by
 have e:nxL (.trk (if sh then 13 else 12)) (feT m R (l.map zZ) acc rs A W p ring tv lv ov rv nw wv sh L ev w kv) i=some ((plL (l.map zZ))[i]?):=by cases sh <;>rfl
 rw [e,Bc,Bc,h]; rfl
theorem zWY{i:Nat}{l:List Nat}{kv:List (Str×V)}(h:l.length<=i):nxL (.trk (if sh then 13 else 12)) (feT m R (l.map zZ) acc rs A W p ring tv lv ov rv nw wv sh L ev w kv) i=some none:=by
 have e:nxL (.trk (if sh then 13 else 12)) (feT m R (l.map zZ) acc rs A W p ring tv lv ov rv nw wv sh L ev w kv) i=some ((plL (l.map zZ))[i]?):=by cases sh <;>rfl
 rw [e,Bc,Bc,C3 h]; rfl
theorem zKJ{l:List Nat}(hw:w < 5):∀(rest:List Nat) (i fu:Nat) (A:List Pl) (z:Bool) (x:List Nat),l.drop i=rest->(∀r∈rest,r < 5)->A.length + rest.length < 900->rest.length < fu->
  ∃z' x',kC (reL b P sh fu i (feT m R (l.map zZ) acc rs A W p ring tv lv ov rv nw wv sh L ev w (kvL z (.str (zA x))))) (feT m R (l.map zZ) acc rs (A ++ (wF w rest).map zZ) W p ring tv lv ov rv nw wv sh L ev w (kvL z' (.str (zA x'))))
 | [],i,fu + 1,A,z,x,hd,_,_,_=>⟨z,x,by
  rw [show A ++ (wF w []).map zZ=A from Bp A];exact xS (zWY (CP.mp hd))⟩
 | r::rest,i,fu + 1,A,z,x,hd,hE,hl,hf=>by
  obtain ⟨h1,h2⟩:=xH hd;simp only [Bh] at hl hf;have hA:(if BQ r w then A else A ++ [zZ r]).length<=A.length + 1:=by cases BQ r w <;>simp
  obtain ⟨z',x',k2⟩:=zKJ hw rest (i + 1) fu (if BQ r w then A else A ++ [zZ r]) false [97 + r] h2 (fun x hx=>hE x (by simp [hx])) (by lia) (by lia);refine ⟨z',x',?_⟩;have e:A ++ (wF w (r::rest)).map zZ=(if BQ r w then A else A ++ [zZ r]) ++ (wF w rest).map zZ:=by
   unfold wF;rw [CK];cases BQ r w with
   | true=>rfl
   | false=>exact DL ..
  rw [e];exact yF (yBe h1) (zTp (hE r (by simp)) hw (by lia)) k2
 | [],_,0,_,_,_,_,_,_,hf=>absurd hf (by simp)
 | _::_,_,0,_,_,_,_,_,_,hf=>absurd hf (by simp)
theorem zZV(ht:t < 4)(hw:w < 5)(hE:∀e∈H,Ent e)(hH:H.length<=50):Run ((evK (cf1 b P) 27).x (lyR b P 0) (yN b P) (feN m R acc rs W p ring tv lv ov rv nw wv sh (H.map zE) (twN t) w)) .next (feW m R (zAE H t) acc rs ((wF w (zO H t)).map zZ) W p ring tv ov rv nw wv sh (H.map zE) lv (twN t) w):=by
 have hr:=vF H t;obtain ⟨z',x',k2⟩:=zKJ (b:=b) (P:=P) (m:=m) (R:=R) (L:=H.map zE) (acc:=acc) (rs:=rs) (W:=W) (p:=p) (ring:=ring) (tv:=tv) (lv:=lv) (ov:=ov) (ev:=twN t) (rv:=rv) (nw:=nw) (wv:=wv) (sh:=sh) (l:=zO H t) hw (zO H t) 0 1000 [] true [] rfl (zA5 hE) (by simp; lia) (by lia);rw [CN] at k2;have g:F1 b P 230 [.trk 1,.str (zA (twN t))] (yD m (H.map zE))=some (.trk 4,yD m (H.map zE) ++ [.pls ((zO H t).map zZ)]):=by rw [<-zFW]; exact zFe false ht hE (by lia)
 rw [zFW];refine qZ (m':=fun k=>reL b P sh 1000 0 (feT m R ((zO H t).map zZ) acc rs [] W p ring tv lv ov rv nw wv sh (H.map zE) (twN t) w []) (zVz b P sh k)) _ (fun k=>yDn b P m R (H.map zE) ((zO H t).map zZ) acc rs W p ring tv lv ov (twN t) rv nw w wv sh k) ⟨g,trivial⟩ ?_;exact kN (fun _=>rfl) k2 (qR (fun _=>[]) [] (fun k=>zZn b P m R (H.map zE) ((zO H t).map zZ) acc rs ((wF w (zO H t)).map zZ) W p ring tv lv ov (twN t) x' rv nw w wv sh z' k) trivial)
theorem yBl{i r:Nat}{l:List Nat}(h:l[i]? =some r):nxL (.trk (feI sh)) (feW m R T acc rs (l.map zZ) W p ring tv ov rv nw wv sh L lv ev w) i=some (some (.str (zA [97 + r]))):=by
 have e:nxL (.trk (feI sh)) (feW m R T acc rs (l.map zZ) W p ring tv ov rv nw wv sh L lv ev w) i=some ((plL (l.map zZ))[i]?):=by cases sh <;>rfl
 rw [e,Bc,Bc,h]; rfl
theorem zW5{i:Nat}{l:List Nat}(h:l.length<=i):nxL (.trk (feI sh)) (feW m R T acc rs (l.map zZ) W p ring tv ov rv nw wv sh L lv ev w) i=some none:=by
 have e:nxL (.trk (feI sh)) (feW m R T acc rs (l.map zZ) W p ring tv ov rv nw wv sh L lv ev w) i=some ((plL (l.map zZ))[i]?):=by cases sh <;>rfl
 rw [e,Bc,Bc,C3 h]; rfl
theorem zLq{l:List Nat}(ht:t < 4):∀(rest:List Nat) (i fu:Nat) (H:List (Nat×Nat)) (lv:List Nat),l.drop i=rest->(∀r∈rest,r < 5)->H.length + rest.length < 900->rest.length < fu->
  ∃lv',Run (leF b P sh fu i (feW m R T acc rs (l.map zZ) W p ring tv ov rv nw wv sh (H.map zE) lv (twN t) w)) .next (feW m R T acc rs (l.map zZ) W p ring tv ov rv nw wv sh ((H ++ rest.map fun r=>(t,r)).map zE) lv' (twN t) w)
 | [],i,fu + 1,H,lv,hd,_,_,_=>⟨lv,by
  rw [show H ++ [].map (fun r=>(t,r))=H from Bp H];exact xO (zW5 (CP.mp hd))⟩
 | r::rest,i,fu + 1,H,lv,hd,hE,hl,hf=>by
  obtain ⟨h1,h2⟩:=xH hd;simp only [Bh] at hl hf;obtain ⟨lv',k2⟩:=zLq ht rest (i + 1) fu (H ++ [(t,r)]) [97 + r] h2 (fun x hx=>hE x (by simp [hx])) (by simp; lia) (by lia);refine ⟨lv',?_⟩;rw [show H ++ (r::rest).map (fun r=>(t,r))=H ++ [(t,r)] ++ rest.map (fun r=>(t,r)) by rw [Cs,CA]; rfl];exact yM (zBd (yBl h1) (yCH (zJt (e:=(t,r)) ⟨ht,hE r (by simp)⟩ (by lia)))) k2
 | [],_,0,_,_,_,_,_,hf=>absurd hf (by simp)
 | _::_,_,0,_,_,_,_,_,hf=>absurd hf (by simp)
theorem zId(w:Nat)(l:List Nat):(wF w l).length<=l.length:=D9 _ _
theorem zKS(ht:t < 4)(hw:w < 5)(hE:∀e∈H,Ent e)(hH:H.length<=50):∃lv',Run (zF4 (evK (cf1 b P) 27) (xY (zDA b P)) (qT (zDA b P)) (yN b P) 12 (.str (zA (twN t))) (feN m R acc rs W p ring tv lv ov rv nw wv sh (H.map zE) ev w)) .next (feN m R acc ((wF w (zO H t)).map zZ) W p ring tv lv' ov rv nw wv true ((uG w t H).map zE) (twN t) w):=by
 have hr:=vF H t;have hk:=zId w (zO H t);have ho:(zAA H t).length<=H.length:=D9 _ _;obtain ⟨lv',k2⟩:=zLq (b:=b) (P:=P) (m:=m) (R:=R) (T:=zAE H t) (acc:=acc) (rs:=rs) (W:=W) (p:=p) (ring:=ring) (tv:=tv) (ov:=ov) (rv:=rv) (nw:=nw) (w:=w) (wv:=wv) (sh:=sh) (l:=wF w (zO H t)) ht (wF w (zO H t)) 0 1000 (zAA H t) lv rfl (fun r hr=>zA5 hE r (Bj.mp hr).1) (by lia) (by lia);refine ⟨lv',fun k z hz=>?_⟩;show run (liO (wO _ _ _ _) _)=_;rw [zWL];have hb:Run (kS (evK (cf1 b P) 27) (qT (zDA b P)) (yN b P) (feN m R acc rs W p ring tv lv ov rv nw wv sh (H.map zE) (twN t) w)) .next (feW m R (zAE H t) acc rs ((wF w (zO H t)).map zZ) W p ring tv ov rv nw wv sh ((uG w t H).map zE) lv' (twN t) w):=by
  rw [zTg];refine zL (zZV ht hw hE hH) (zL (zHg (yDS (zLO ht).1 (zLO ht).2 (zWC true ht hE (by lia)))) (yG (yT (fun k=>yDx b P m R _ _ acc rs _ W p ring tv lv ov (twN t) rv nw w wv sh k) k2)))
 refine hb _ z ?_;show run (k .next (gc 12 _))=some z;rw [yAG];exact hz
end
section
variable{b:Bool}{P:Params}{m:Bool}{R:Rd}{L L' T acc rs A:List Pl}{W:List (Str×List Int)}{p:Nat}{tv lv ov ev x u y:List Nat}{rv:Int}{nw w s t:Nat}{wv:List Int}{v:V}{sh:Bool}{H:List (Nat×Nat)}{rg:List Nat}
theorem zKR{H:List (Nat×Nat)}{e:Nat×Nat}(hE:∀e∈H,Ent e)(he:Ent e):∀x∈H ++ [e],Ent x:=fun x hx=>by
 rcases BR.mp hx with h | h
 ·exact hE x h
 ·rw [BP.mp h]; exact he
theorem zSL{H:List (Nat×Nat)}{w t:Nat}(ht:t < 4)(hE:∀e∈H,Ent e):∀x∈uG w t H,Ent x:=fun x hx=>by
 rcases BR.mp hx with h | h
 ·exact hE x (Bj.mp h).1
 ·obtain ⟨r,hr,rfl⟩:=Bm.mp h
  exact ⟨ht,zA5 hE r (Bj.mp hr).1⟩
theorem zSB(w t:Nat)(H:List (Nat×Nat)):(uG w t H).length<=2 * H.length:=by
 have hr:=vF H t;have hk:=zId w (zO H t);have ho:(zAA H t).length<=H.length:=D9 _ _;unfold uG;rw [BY,BW]; lia
theorem zZG(hR:RdOK R)(hn:nw < 5)(hs:zCx s)(hE:∀e∈H,Ent e)(hH:H.length<=100){ring:List Int}:Run (kS (evK (cf1 b P) 29) [zVV b P] (yN b P) (zAD m R W p ring tv lv ov rv wv nw s (H.map zE) [] none)) .next (zAD m R W p ring tv lv ov rv wv nw s ((H ++ [(R.a nw,nw)] ++ [(R.z nw,nw)]).map zE) (enV (twN (R.z nw))) none):=by
 have e:(H ++ [(R.a nw,nw)] ++ [(R.z nw,nw)]).map zE=H.map zE ++ [zE (R.a nw,nw)] ++ [zE (R.z nw,nw)]:=by rw [Bv,Bv]; rfl
 have a1:adP b P m (H.map zE) (R.a nw) nw:=by
  have z:=zJt (b:=b) (P:=P) (m:=m) (H:=H) (e:=(R.a nw,nw)) ⟨hR.a nw,hn⟩ (by lia);unfold zEq at z;rw [Bv] at z;exact z
 have a2:adP b P m (H.map zE ++ [zE (R.a nw,nw)]) (R.z nw) nw:=by
  have z:=zJt (b:=b) (P:=P) (m:=m) (H:=H ++ [(R.a nw,nw)]) (e:=(R.z nw,nw)) ⟨hR.z nw,hn⟩ (by rw [BY]; simp; lia);unfold zEq at z;simp only [Bv] at z;exact z
 rw [e];rcases hs with rfl | rfl | rfl
 ·exact zK _ (fun k=>congrFun (BO.mp (zWk b P m R (H.map zE) W p ring tv lv ov rv wv) nw (zM hn)) k) ⟨a1,a2,trivial⟩
 ·exact zK _ (fun k=>congrFun (BO.mp (zWH b P m R (H.map zE) W p ring tv lv ov rv wv) nw (zM hn)) k) ⟨a1,a2,trivial⟩
 ·exact zK _ (fun k=>congrFun (BO.mp (zWv b P m R (H.map zE) W p ring tv lv ov rv wv) nw (zM hn)) k) ⟨a1,a2,trivial⟩
theorem zYY(hR:RdOK R)(hw:w < 5)(hE:∀e∈H,Ent e)(hH:H.length<=25){ring:List Int}:∃lv' rs',Run ((evK (cf1 b P) 28).x (zDA b P) (yN b P) (feN m R acc rs W p ring tv lv ov rv nw wv false (H.map zE) ev w)) .next (feN m R acc rs' W p ring tv lv' ov rv nw wv true ((uG w (R.z w) (uG w (R.a w) H)).map zE) (twN (R.z w)) w):=by
 have hl:=zSB w (R.a w) H;obtain ⟨lv1,k1⟩:=zKS (b:=b) (P:=P) (m:=m) (R:=R) (acc:=acc) (rs:=rs) (W:=W) (p:=p) (ring:=ring) (tv:=tv) (lv:=lv) (ov:=ov) (ev:=ev) (rv:=rv) (nw:=nw) (wv:=wv) (sh:=false) (hR.a w) hw hE (by lia);obtain ⟨lv2,k2⟩:=zKS (b:=b) (P:=P) (m:=m) (R:=R) (acc:=acc) (rs:=(wF w (zO H (R.a w))).map zZ) (W:=W) (p:=p) (ring:=ring) (tv:=tv) (lv:=lv1) (ov:=ov) (ev:=twN (R.a w)) (rv:=rv) (nw:=nw) (wv:=wv) (sh:=true) (hR.z w) hw (zSL (w:=w) (hR.a w) hE) (by lia);refine ⟨lv2,(wF w (zO (uG w (R.a w) H) (R.z w))).map zZ,?_⟩;have t:=yM (fu:=999) (zBd (nx:=nxT [.str (zA (twN (R.a w))),.str (zA (twN (R.z w)))]) (i:=0) rfl k1) (yM (fu:=998) (zBd (i:=1) rfl k2) (xO (fu:=997) (i:=2) rfl));exact qZ [] (fun k=>congrFun (BO.mp (yCl b P m R (H.map zE) acc rs W p ring tv lv ov ev rv nw wv) w (zM hw)) k) trivial t
theorem zEE{ring:List Int}:(C8 (D5 (ring.map Cm)) && C8 (D5 []))=true:=Bd.mpr ⟨zB1 ring,rfl⟩
theorem zYZ(hR:RdOK R)(hn:nw < 5)(hE:∀e∈H,Ent e)(hH:H.length<=20)(haz:R.a nw≠R.z nw)(hg:zJb R nw H 19 0 [(R.a nw,[nw])] []=some rg)(h5:∀r∈rg,r < 5)(hl:rg.length < 800):
  evC (cf1 b P) 30 (.val (.ref 340)) [.trk 1,.trk 4,.int (BL nw)] [] (lyC m (H.map zE) R)=some (.none,lyC m ((zIe R nw rg H).map zE) R):=by
 obtain ⟨p',W',s',tv',wv',lv',rv',ov',j1,j2,j3,j4⟩:=zP5 (b:=b) (P:=P) (m:=m) hR hn hE (by lia) haz 19 1000 0 [(R.a nw,[nw])] [] 0 [] [] [] 0 [] hg (by lia) (by simp) (fun e he=>by rw [BP.mp he]; exact ⟨hR.a nw,by simp⟩) (by simp) (.inl rfl) (fun _=>rfl) (.inr ⟨rfl,rfl⟩);refine wW (yT (fun k=>zTk) ?_);rw [zVL];have s0:Run (kS (evK (cf1 b P) 29) ((lyB b P).take 3) (yN b P) (yD m (H.map zE) ++ [yK R,.ns [(S "tree",.trk 1),(S "new",.int (BL nw))],.cell (some (.trk 4)),.cell none])) .next (lyI m R (H.map zE) (yS [(R.a nw,[nw])]) 0 (([]:List Nat).map BL) (.str (zA [])) (.il []) (.str (zA [])) (.int 0) (.str (zA [])) nw 0):=
  zK _ (fun k=>congrFun (BO.mp (yCp (b:=b) (P:=P) (m:=m) (R:=R) (L:=H.map zE)) nw (zM hn)) k) trivial
 have s1:Run ((evK (cf1 b P) 29).x (zJo b P) (yN b P) (lyI m R (H.map zE) (yS [(R.a nw,[nw])]) 0 (([]:List Nat).map BL) (.str (zA [])) (.il []) (.str (zA [])) (.int 0) (.str (zA [])) nw 0)) .next (zAD m R (yS W') p' (rg.map BL) tv' lv' ov' rv' wv' nw s' (H.map zE) [] none):=by
  refine yT (fun k=>zYR b P m R (H.map zE) (yS [(R.a nw,[nw])]) 0 [] [] [] [] 0 []) ?_;have e:zAD m R (yS W') p' (rg.map BL) tv' lv' ov' rv' wv' nw s' (H.map zE) [] none=lyI m R (H.map zE) (yS W') p' (rg.map BL) (.str (zA tv')) (.il wv') (.str (zA lv')) (.int rv') (.str (zA ov')) nw s':=by
   show lyS _ _ _ (lyK _ _ _ (_ ++ [])) _ _=_;rw [Bp]; rfl
  rw [e];exact j4
 have s2:=zZG (b:=b) (P:=P) (m:=m) (W:=yS W') (p:=p') (tv:=tv') (lv:=lv') (ov:=ov') (rv:=rv') (wv:=wv') (ring:=rg.map BL) hR hn j1 hE (by lia);cases hrg:rg with
 | nil=>
  rw [hrg] at s1 s2;have s3:Run ((evK (cf1 b P) 29).x (zEt b P) (yN b P) (zAD m R (yS W') p' (([]:List Nat).map BL) tv' lv' ov' rv' wv' nw s' ((H ++ [(R.a nw,nw)] ++ [(R.z nw,nw)]).map zE) (enV (twN (R.z nw))) none)) .next (zAD m R (yS W') p' (([]:List Nat).map BL) tv' lv' ov' rv' wv' nw s' ((H ++ [(R.a nw,nw)] ++ [(R.z nw,nw)]).map zE) (enV (twN (R.z nw))) none ++ [.list []]):=
   yT (fun k=>zPX) (zJU (zOT j1 zEE (c:=false) rfl) (fun k z hz=>hz))
  exact zBt (yA s0 (zL s1 (zL (zHg s2) (yG s3)))) (zYx j1)
 | cons r l=>
  have hs3:s'=3:=j2.elim id (fun e=>by rw [hrg] at e; cases e);subst hs3;rw [<-hrg];have hne:rg≠[]:=by rw [hrg]; exact List.cons_ne_nil _ _
  have hw:=h5 _ (zCU (R:=R) hne);have hc:(!(D5 ((rg.map BL).map Cm)).eqv (D5 []))=true:=by rw [hrg]; rfl
  obtain ⟨lv2,rs2,k2⟩:=zYY (b:=b) (P:=P) (m:=m) (R:=R) (acc:=rg.map (rkL R)) (rs:=[]) (W:=yS W') (p:=p') (ring:=rg.map BL) (tv:=tv') (lv:=lv') (ov:=ov') (ev:=twN (R.z nw)) (rv:=rv') (nw:=nw) (wv:=wv') (w:=kZ R rg) (H:=H ++ [(R.a nw,nw)] ++ [(R.z nw,nw)]) hR hw (zKR (zKR hE ⟨hR.a nw,hn⟩) ⟨hR.z nw,hn⟩) (by simp; lia);have e:zIe R nw rg H=uG (kZ R rg) (R.z (kZ R rg)) (uG (kZ R rg) (R.a (kZ R rg)) (H ++ [(R.a nw,nw)] ++ [(R.z nw,nw)])):=by rw [hrg]; rfl
  rw [e];have s3:Run ((evK (cf1 b P) 29).x (zEt b P) (yN b P) (zAD m R (yS W') p' (rg.map BL) tv' lv' ov' rv' wv' nw 3 ((H ++ [(R.a nw,nw)] ++ [(R.z nw,nw)]).map zE) (enV (twN (R.z nw))) none)) .next _:=
   yT (fun k=>zPX) (zJU (zOT j1 zEE (c:=true) hc) (by
    rw [if_pos rfl,zW2];exact zL (yCe hne h5 hl) (yG k2)))
  exact zBt (yA s0 (zL s1 (zL (zHg s2) (yG s3)))) zXp
end
noncomputable def qU(b:Bool)(P:Params)(ln:Int)(l:List Nat)(Q:List Pl):Sto:=
  [.ctab 325 true,.inst 140 2,.dict [(S "lineno",.int ln),(S "instream",.trk 3),(S "whitespace",.str wsS),(S "pushback",.trk 10)],.inst 140 4,
   .dict [(S "lineno",.int 1),(S "instream",.none),(S "whitespace",.str wsS),(S "pushback",.trk 5),(S "read",.trk 6)],.pls [],.lam (zQC b P) [(S "signs",8)] 7,.crec (S "_law_lexer.<locals>.<lambda>"),.cell (some (.trk 9)),.stk 1000 l,.pls Q]
noncomputable def nmE(q:List Nat):Pl:= .one (.s (zA q))
section
variable{b:Bool}{P:Params}{ln:Int}{l q v:List Nat}{Q L:List Pl}{m:Bool}
theorem zXe(h:Q.length < 1000):evC (cf b P) 20 (.val (.ref 130)) [.trk 1] [] (qU b P ln l (nmE q::Q))=some (.str (zA q),qU b P ln l Q):=
 zAF (ds:=[.ans 0 true,.ans 1 true]) (l:=[decide ((nmE q::Q).length < 2 ^ 63)=true,decide (Q.length < 1000)=true]) (by kernel_rfl) ⟨decide_eq_true (by simp; lia),decide_eq_true h,trivial⟩
theorem zGq:qU b P ln l []=zCC b P ln l:=rfl
end
noncomputable def yAp:List Nat:=[130,137,323,335,340,350]
noncomputable def zOV:List Nat:=[130,137]
noncomputable def F2(b:Bool)(P:Params)(a:Addr)(args:List V)(σ:Sto):Option (V×Sto):=if yX a zOV=true then evC (cf b P) 20 (.val (.ref a)) args [] σ else evC (cf1 b P) 30 (.val (.ref a)) args [] σ
noncomputable def cf2(b:Bool)(P:Params):Cf:=cfF b P (yX · yAp) (F2 b P) 65
theorem zT8{prog:Program}{w:World}{b:Bool}{X:Frag}:∀a,yX a yAp=true->zCb prog w (KX b w.params X) 65 a (F2 b w.params a):=fun a _ args σ A ρ s xs hA hs I rs v AA h=>by
 have CO:CfOK prog w (KX b w.params X) (cf b w.params):=zNt (iF:=fun _=>false) (F:=fun _ _ _=>none) (n:=0) fun a h=>nomatch h;unfold F2 at h;split at h
 ·exact kJ CO (N:=20) (by decide) _ _ A ρ s xs hA hs I rs _ _ h
 ·exact kJ zOJ (N:=30) (by decide) _ _ A ρ s xs hA hs I rs _ _ h
theorem zYE{prog:Program}{w:World}{b:Bool}{X:Frag}:CfOK prog w (KX b w.params X) (cf2 b w.params):=zNt zT8
section
variable{b:Bool}{P:Params}{a:Addr}{args:List V}{σ:Sto}
theorem zZ2(h:yX a zOV=true):F2 b P a args σ=evC (cf b P) 20 (.val (.ref a)) args [] σ:=if_pos h
theorem zQm(h:yX a zOV=false):F2 b P a args σ=evC (cf1 b P) 30 (.val (.ref a)) args [] σ:=if_neg (by rw [h]; exact Bk)
end
noncomputable def rnB(b:Bool)(P:Params):List Stmt:=zBW (yA1 b P)
noncomputable def wdO(t:Nat->List Nat):Ob:= .list [.str (zA (t 0)),.str (zA (t 1)),.str (zA (t 2)),.str (zA (t 3)),.str (zA (t 4))]
noncomputable def rnC(b:Bool)(P:Params)(ln:Int)(t:Nat->List Nat)(R:Rd):Sto:=qU b P ln [] [] ++ [wdO t,yK R]
noncomputable def zAV(b:Bool)(P:Params):AE:=aeF (yA1 b P) 13 []
noncomputable def rnA(od:List Int):List (Str×V):=[(S "lexer",.trk 1),(S "words",.trk 11),(S "roads",.trk 12),(S "order",.il od)]
section
variable{b:Bool}{P:Params}{ln:Int}{t:Nat->List Nat}{R:Rd}{od:List Int}
theorem zTv{k:V->Sto->Sy}:(evK (cf2 b P) 40).c (.val (.ref 357)) [.trk 1,.trk 11,.trk 12,.il od] [] (rnC b P ln t R) k=kU (evK (cf2 b P) 39) 13 (rnB b P) (zAV b P) (rnC b P ln t R ++ [.ns (rnA od)]) k:=by kernel_rfl
end
noncomputable def odI(o:List Nat):List Int:=o.map BL
noncomputable def rnS(b:Bool)(P:Params)(ln:Int)(t:Nat->List Nat)(R:Rd)(od:List Int)(r:Nat)(Q L laid:List Pl):Sto:=
 qU b P ln [] Q ++ [wdO t,yK R,.ns (rnA od ++ [(S "road",.int (BL r)),(S "tree",.trk 15),(S "laid",.trk 17)]),.dict [(S "_headers",.trk 16)],.inst 291 14,.pls L,.pls laid]
noncomputable abbrev zC4(b:Bool)(P:Params):Stmt:=(rnB b P).getD 3 default
noncomputable abbrev rnX(b:Bool)(P:Params)(i:Nat):Stmt:=(qT (zC4 b P)).getD i default
noncomputable def od1:List Nat:=[0,1,2,3,4]
noncomputable def od2:List Nat:=[4,3,2,1,0]
section
variable(b:Bool)(P:Params)(ln:Int)(t:Nat->List Nat)(R:Rd)(od:List Int)(Q L L' laid:List Pl)(r r':Nat)
theorem yBd:Run (kS (evK (cf2 b P) 39) ((rnB b P).take 3) (zAV b P) (rnC b P ln t R ++ [.ns (rnA (odI od1))])) .next (rnS b P ln t R (odI od1) 4 (od1.map fun k=>nmE (t k)) [] []):=zK (ds:=[]) [] (fun k=>by kernel_rfl) trivial
theorem yAO:Run (kS (evK (cf2 b P) 39) ((rnB b P).take 3) (zAV b P) (rnC b P ln t R ++ [.ns (rnA (odI od2))])) .next (rnS b P ln t R (odI od2) 0 (od2.map fun k=>nmE (t k)) [] []):=zK (ds:=[]) [] (fun k=>by kernel_rfl) trivial
noncomputable abbrev rnL(fu i:Nat)(σ:Sto)(k:Fl->Sto->Sy):Sy:=vP (evK (cf2 b P) 38) (xY (zC4 b P)) (qT (zC4 b P)) (zAV b P) 18 (nxL (.il od)) k fu i σ
theorem yDF{k:Fl->Sto->Sy}:(evK (cf2 b P) 39).x (zC4 b P) (zAV b P) (rnS b P ln t R od r Q L laid) k=rnL b P od 1000 0 (rnS b P ln t R od r Q L laid) k:=by kernel_rfl
theorem zX4:wO (xY (zC4 b P)) (.int (BL r')) (zAV b P) (rnS b P ln t R od r Q L laid)=some (rnS b P ln t R od r' Q L laid):=by kernel_rfl
theorem zYG:rnB b P=(rnB b P).take 3 ++ [zC4 b P,(rnB b P).getD 4 default]:=by kernel_rfl
theorem zS3:qT (zC4 b P)=[rnX b P 0,rnX b P 1,rnX b P 2,rnX b P 3]:=by kernel_rfl
theorem zVE:Run (kS (evK (cf2 b P) 39) [(rnB b P).getD 4 default] (zAV b P) (rnS b P ln t R od r Q L laid)) (.ret (.bool true)) (rnS b P ln t R od r Q L laid):=zK (ds:=[]) [] (fun k=>by kernel_rfl) trivial
theorem zXY:gcv 13 (.bool true) (rnS b P ln t R od r [] L laid)=(.bool true,rnC b P ln t R):=by kernel_rfl
end
noncomputable def rtD(R:Rd)(r:Nat):PyData:= .tuple [.str (zA (twN (R.a r))),.int (R.t r),.str (zA (twN (R.z r)))]
noncomputable def dlD(l:List Pl):PyData:= .list (l.map zBR)
theorem zQD(R:Rd)(r:Nat):(rtD R r).canLay0=true:=Bd.mpr ⟨(zBT (zEa _)).1,Bd.mpr ⟨rfl,Bd.mpr ⟨(zBT (zEa _)).1,rfl⟩⟩⟩
theorem zFs(R:Rd)(r:Nat):C8 (rtD R r)=true:=Bd.mpr ⟨zQD R r,by exact decide_eq_true (show max 0 (max 0 (max 0 0)) + 1<=64 by decide)⟩
theorem zUs{l:List Pl}(h:∀p∈l,zKd p=true):(!(ER (dlD l) (dlD l)))=false:=by
 rw [SeqAt.eqv_refl (dlD l) (zLF h).1]; rfl
theorem zUr(R:Rd)(r:Nat):(!(ER (rtD R r) (rtD R r)))=false:=by rw [SeqAt.eqv_refl _ (zQD R r)]; rfl
section
variable(b:Bool)(P:Params)(ln:Int)(t:Nat->List Nat)(R:Rd)(od:List Int)(Q L L' laid due:List Pl)(r:Nat)(q:List Nat)
noncomputable def yDe:=lt5.map fun r=>fun k=>zD (kS (evK (cf2 b P) 38) [rnX b P 0] (zAV b P) (rnS b P ln t R od r (nmE q::Q) L laid) k) [.val 0 (.str (zA q)) (qU b P ln [] Q),.val 1 (rV R r) (ct true),.ans 2 true,.ans 0 false] []
noncomputable def yDl:=lt5.map fun r=>fun k:Fl->Sto->Sy=>zD (k .next (rnS b P ln t R od r Q L laid)) [] [F2 b P 130 [.trk 1] (qU b P ln [] (nmE q::Q))=some (.str (zA q),qU b P ln [] Q),F2 b P 335 [.str (zA q)] (ct true)=some (rV R r,ct true),(C8 (rtD R r) && C8 (rtD R r))=true,(!(ER (rtD R r) (rtD R r)))=false]
theorem yCV:yDe b P ln t R od Q L laid q=yDl b P ln t R od Q L laid q:=by kernel_rfl
end
section
variable{b:Bool}{P:Params}{ln:Int}{t:Nat->List Nat}{R:Rd}{od:List Int}{Q L L' laid due:List Pl}{r:Nat}{q:List Nat}
theorem yCJ(h:F2 b P 340 [.trk 1,.trk 4,.int (BL r)] (yD true L ++ [yK R])=some (.none,yD true L' ++ [yK R])):Run (kS (evK (cf2 b P) 38) [rnX b P 1] (zAV b P) (rnS b P ln t R od r Q L laid)) .next (rnS b P ln t R od r Q L' laid):=
 zK (ds:=[.val 0 .none (yD true L' ++ [yK R])]) [F2 b P 340 [.trk 1,.trk 4,.int (BL r)] (yD true L ++ [yK R])=some (.none,yD true L' ++ [yK R])] (fun k=>by kernel_rfl) ⟨h,trivial⟩
theorem yDR(h:laid.length < 1000):Run (kS (evK (cf2 b P) 38) [rnX b P 2] (zAV b P) (rnS b P ln t R od r Q L laid)) .next (rnS b P ln t R od r Q L (laid ++ [idP r])):=
 zK (ds:=[.ans 0 true]) [decide (laid.length < 1000)=true] (fun k=>by kernel_rfl) ⟨decide_eq_true h,trivial⟩
theorem yC1(hl:L.length<=1000)(hs:vH L=some due)(hk:∀p∈due,zKd p=true)(h:F2 b P 350 [.trk 1,.trk 2] (duC true R laid)=some (.trk 3,duC true R laid ++ [.pls due])):
  Run (kS (evK (cf2 b P) 38) [rnX b P 3] (zAV b P) (rnS b P ln t R od r Q L laid)) .next (rnS b P ln t R od r Q L laid ++ [.pls L,.pls due,.pls due]):=
 zK (ds:=[.ans 0 true,.ans 0 true,.val 0 .none [.pls due],.val 0 (.trk 3) (duC true R laid ++ [.pls due]),.ans 1 true,.ans 0 false])
  [decide (L.length<=1000)=true,decide (L.length<=1000)=true,Dy (fun l'=>(V.none,[Ob.pls l'])) (vH L)=some (.none,[.pls due]),F2 b P 350 [.trk 1,.trk 2] (duC true R laid)=some (.trk 3,duC true R laid ++ [.pls due]),(C8 (dlD due) && C8 (dlD due))=true,(!(ER (dlD due) (dlD due)))=false]
  (fun k=>by kernel_rfl) ⟨decide_eq_true hl,decide_eq_true hl,by rw [hs]; rfl,h,Bd.mpr ⟨vQ hk,vQ hk⟩,zUs hk,trivial⟩
theorem yAB:gc 18 (rnS b P ln t R od r Q L laid ++ [.pls L,.pls due,.pls due])=rnS b P ln t R od r Q L laid:=by kernel_rfl
end
structure LayOK(R:Rd)(ls:List Nat)(r:Nat)(H H':List (Nat×Nat))(rg:List Nat)(due:List Pl):Prop where
 ent:∀e∈H,Ent e
 len:H.length<=20
 len':H'.length<=900
 go:zJb R r H 19 0 [(R.a r,[r])] []=some rg
 rg5:∀r∈rg,r < 5
 rgl:rg.length < 800
 is:H'=zIe R r rg H
 s1:vH (H'.map zE)=some due
 s2:vH ((zDT R (ls ++ [r])).map zE)=some due
 ok:∀p∈due,zKd p=true
section
variable{b:Bool}{P:Params}{ln:Int}{t:Nat->List Nat}{R:Rd}{Q:List Pl}{r r0:Nat}{ls o:List Nat}{H H':List (Nat×Nat)}{rg:List Nat}{due:List Pl}
theorem zSN(hR:RdOK R)(haz:∀k,k < 5->R.a k≠R.z k)(hw:∀k,k < 5->F2 b P 335 [.str (zA (t k))] (ct true)=some (rV R k,ct true))(hr:r < 5)(hl5:∀k∈ls,k < 5)(hll:ls.length<=8)(hQ:Q.length < 900)(h:LayOK R ls r H H' rg due){i:Nat}(hi:o[i]? =some r):
  zJJ (evK (cf2 b P) 38) (xY (zC4 b P)) (qT (zC4 b P)) (zAV b P) 18 (nxL (.il (odI o))) i (rnS b P ln t R (odI o) r0 (nmE (t r)::Q) (H.map zE) (ls.map idP)) .next (rnS b P ln t R (odI o) r Q (H'.map zE) ((ls ++ [r]).map idP)):=by
 have h340:F2 b P 340 [.trk 1,.trk 4,.int (BL r)] (yD true (H.map zE) ++ [yK R])=some (.none,yD true (H'.map zE) ++ [yK R]):=by
  rw [h.is];exact (zQm rfl).trans (zYZ hR hr h.ent h.len (haz r hr) h.go h.rg5 h.rgl)
 have e:(ls ++ [r]).map idP=ls.map idP ++ [idP r]:=by rw [Bv]; rfl
 have h350:F2 b P 350 [.trk 1,.trk 2] (duC true R (ls.map idP ++ [idP r]))=some (.trk 3,duC true R (ls.map idP ++ [idP r]) ++ [.pls due]):=by
  rw [<-e];refine (zQm rfl).trans (zWs hR (fun k hk=>?_) (by simp; lia) (by simp) h.s2);rcases BR.mp hk with hk | hk
  ·exact hl5 k hk
  ·rw [BP.mp hk]; exact hr
 rw [e];refine zAm (zU8 (ring:=o) hi) (zX4 b P ln t R (odI o) _ _ _ r0 r) ?_ (yAB (due:=due))
 ·rw [zS3]
  refine zL (zHg (A4:=rnS b P ln t R (odI o) r Q (H.map zE) (ls.map idP)) ?_) (zL (zHg (yCJ h340)) (zL (zHg (yDR (by rw [BW]; lia))) (yC1 (by rw [BW]; have:=h.len'; lia) h.s1 h.ok h350)));exact zK _ (fun k=>congrFun (BO.mp (yCV b P ln t R (odI o) Q (H.map zE) (ls.map idP) (t r)) r (zM hr)) k) ⟨(zZ2 rfl).trans (zXe (by lia)),hw r hr,Bd.mpr ⟨zFs R r,zFs R r⟩,zUr R r,trivial⟩
theorem zKM{Inv:List Nat->List (Nat×Nat)->Prop}(hs:∀ls H r,Inv ls H->r < 5->r ∉ ls->∃H' rg due,LayOK R ls r H H' rg due/\Inv (ls ++ [r]) H')(hR:RdOK R)(haz:∀k,k < 5->R.a k≠R.z k)(hw:∀k,k < 5->F2 b P 335 [.str (zA (t k))] (ct true)=some (rV R k,ct true))(ho:∀k∈o,k < 5)(hn:o.Nodup)(hol:o.length<=8):
  ∀(rest ls:List Nat) (H:List (Nat×Nat)) (r0 fu:Nat),o=ls ++ rest->Inv ls H->rest.length < fu->∃(r':Nat) (H':List (Nat×Nat)),zKF (evK (cf2 b P) 38) (xY (zC4 b P)) (qT (zC4 b P)) (zAV b P) 18 (nxL (.il (odI o))) fu ls.length (rnS b P ln t R (odI o) r0 (rest.map fun k=>nmE (t k)) (H.map zE) (ls.map idP)) .next (rnS b P ln t R (odI o) r' [] (H'.map zE) (o.map idP))
 | [],ls,H,r0,fu + 1,e,hI,_=>⟨r0,H,by
  rw [Bp] at e;rw [<-e];exact xO (zQg (ring:=o) (CD _))⟩
 | r::rest,ls,H,r0,fu + 1,e,hI,hf=>by
  have hr:r < 5:=ho r (by rw [e]; simp);have hnl:r ∉ ls:=fun hm=>by
   rw [e] at hn;exact (D0.mp hn).2.2 r hm r (by simp) rfl
  obtain ⟨H',rg,due,h,hI'⟩:=hs ls H r hI hr hnl;have el:o.length=ls.length + (rest.length + 1):=by rw [e,BY]; rfl
  have e2:o=(ls ++ [r]) ++ rest:=by rw [e,CA]; rfl
  obtain ⟨r',H2,k2⟩:=zKM hs hR haz hw ho hn hol rest (ls ++ [r]) H' r fu e2 hI' (by simp at hf; lia);refine ⟨r',H2,?_⟩;have hi:o[ls.length]? =some r:=by rw [e,CC (CD _),DC]; rfl
  rw [BY] at k2;exact yM (zSN hR haz hw hr (fun k hk=>ho k (by rw [e]; simp [hk])) (by lia) (by rw [BW]; lia) h hi) k2
 | [],_,_,_,0,_,_,hf=>absurd hf (by simp)
 | _::_,_,_,_,0,_,_,hf=>absurd hf (by simp)
theorem zXU{Inv:List Nat->List (Nat×Nat)->Prop}(h0:Inv [] [])(hs:∀ls H r,Inv ls H->r < 5->r ∉ ls->∃H' rg due,LayOK R ls r H H' rg due/\Inv (ls ++ [r]) H')(hR:RdOK R)(haz:∀k,k < 5->R.a k≠R.z k)(hw:∀k,k < 5->F2 b P 335 [.str (zA (t k))] (ct true)=some (rV R k,ct true))(ho:o=od1\/o=od2):
  evC (cf2 b P) 40 (.val (.ref 357)) [.trk 1,.trk 11,.trk 12,.il (odI o)] [] (rnC b P ln t R)=some (.bool true,rnC b P ln t R):=by
 have go:∀{o:List Nat} {r0:Nat},o.Nodup->(∀k∈o,k < 5)->o.length<=8->Run (kS (evK (cf2 b P) 39) ((rnB b P).take 3) (zAV b P) (rnC b P ln t R ++ [.ns (rnA (odI o))])) .next (rnS b P ln t R (odI o) r0 (o.map fun k=>nmE (t k)) [] [])->evC (cf2 b P) 40 (.val (.ref 357)) [.trk 1,.trk 11,.trk 12,.il (odI o)] [] (rnC b P ln t R)=some (.bool true,rnC b P ln t R):=fun {o} {r0} hn h5 hl hp=>by
  obtain ⟨r',H',k2⟩:=zKM (b:=b) (P:=P) (ln:=ln) (t:=t) (o:=o) hs hR haz hw h5 hn hl o [] [] r0 1000 rfl h0 (by lia);refine wW (yT (fun k=>zTv) ?_);rw [zYG];exact xZ (yA hp (zL (yT (fun k=>yDF b P ln t R (odI o) _ _ _ r0) k2) (zVE b P ln t R (odI o) [] (H'.map zE) (o.map idP) r'))) (zXY b P ln t R (odI o) (H'.map zE) (o.map idP) r')
 rcases ho with rfl | rfl
 ·exact go (by decide) (by decide) (by decide) (yBd b P ln t R)
 ·exact go (by decide) (by decide) (by decide) (yAO b P ln t R)
end
noncomputable def yB6:List Nat:=[302,309,330,130,323,357]
noncomputable def qH(b:Bool)(P:Params)(la:Addr)(l:List Int)(a:Addr)(args:List V)(σ:Sto):Option (V×Sto):=
 if a=302 then (match args with
  | [.val (.ref a')]=>if a'=la then evC (cf b P) 20 (.val (.ref 302)) [.lst (l.map .int)] [] σ else none
  | _=>none) else if a=357 then evC (cf2 b P) 40 (.val (.ref 357)) args [] σ else if a=323 then evC (cf1 b P) 30 (.val (.ref 323)) args [] σ else evC (cf b P) 20 (.val (.ref a)) args [] σ
section
variable{b:Bool}{P:Params}{la:Addr}{l:List Int}{a:Addr}{args:List V}{σ:Sto}
theorem zBf(h:a≠302)(h2:a≠357)(h3:a≠323):qH b P la l a args σ=evC (cf b P) 20 (.val (.ref a)) args [] σ:=by
 unfold qH;rw [if_neg h,if_neg h2,if_neg h3]
theorem zH7:qH b P la l 357 args σ=evC (cf2 b P) 40 (.val (.ref 357)) args [] σ:=by
 unfold qH;rw [if_neg (by decide),if_pos rfl]
theorem zI6:qH b P la l 323 args σ=evC (cf1 b P) 30 (.val (.ref 323)) args [] σ:=by
 unfold qH;rw [if_neg (by decide),if_neg (by decide),if_pos rfl]
theorem zHy:qH b P la l 302 [.val (.ref la)] σ=evC (cf b P) 20 (.val (.ref 302)) [.lst (l.map .int)] [] σ:=by
 unfold qH;rw [if_pos rfl];exact if_pos rfl
end
noncomputable def cl(b:Bool)(P:Params)(la:Addr)(l:List Int):Cf:=cfF b P (yX · yB6) (qH b P la l) 85
noncomputable def lw0(la:Addr):Sto:=[.ctab 325 false,.ns [(S "script",.val (.ref la))],.cell none,.cell none,.cell none]
noncomputable def lwB(b:Bool)(P:Params):List Stmt:=zBW (yAv b P)
noncomputable def zOr(b:Bool)(P:Params):AE:=aeF (yAv b P) 1 [(S "lexer",4),(S "roads",3),(S "cells",2)]
section
variable{b:Bool}{P:Params}{la:Addr}{l:List Int}
theorem zQs{k:V->Sto->Sy}:(evK (cl b P la l) 60).c (.val (.ref 362)) [.val (.ref la)] [] [.ctab 325 false] k=kU (evK (cl b P la l) 59) 1 (lwB b P) (zOr b P) (lw0 la) k:=by kernel_rfl
end
structure LD where
 la:Addr
 c:Nat->Int
 w:Nat->List Nat
 t:Nat->List Nat
 tx:List Nat
 ln:Nat->Int
 l:Nat->List Nat
noncomputable def LD.cs(D:LD):Ob:= .list [.int (D.c 0),.int (D.c 1),.int (D.c 2),.int (D.c 3),.int (D.c 4)]
noncomputable def RC(c:Nat->Int):Rd:=⟨fun k=>e0 (c k),fun k=>zEs (c k),fun k=>e1 (c k)⟩
noncomputable def lwA(D:LD):Sto:=[.ctab 325 false,.ns [(S "script",.val (.ref D.la)),(S "text",.str (zA D.tx))],.cell (some (.trk 5)),.cell (some (.trk 6)),.cell none,D.cs,yK (RC D.c),wdO D.w]
noncomputable def lwX(D:LD)(b:Bool)(P:Params)(kv:List (Str×V))(ln:Int)(l:List Nat)(Q:List Pl):Sto:=
  [.ctab 325 true,.ns ((S "script",.val (.ref D.la))::(S "text",.str (zA D.tx))::kv),.cell (some (.trk 5)),.cell (some (.trk 6)),.cell (some (.trk 8)),D.cs,yK (RC D.c),wdO D.w,
   .inst 140 9,.dict [(S "lineno",.int ln),(S "instream",.trk 10),(S "whitespace",.str wsS),(S "pushback",.trk 17)],.inst 140 11,
   .dict [(S "lineno",.int 1),(S "instream",.none),(S "whitespace",.str wsS),(S "pushback",.trk 12),(S "read",.trk 13)],.pls [],.lam (zQC b P) [(S "signs",15)] 14,.crec (S "_law_lexer.<locals>.<lambda>"),.cell (some (.trk 16)),.stk 1000 l,.pls Q]
noncomputable def lwH(D:LD)(b:Bool)(P:Params)(ln:Int)(l:List Nat):Sto:=lwX D b P [(S "words",.trk 18)] ln l [] ++ [wdO D.t]
section
variable(b:Bool)(P:Params)(l:List Int)(D:LD)
noncomputable def gA:List Prop:=[qH b P D.la l 302 [.val (.ref D.la)] [.ctab 325 false]=some (.trk 1,[.ctab 325 false,D.cs]),
 qH b P D.la l 309 [.int (D.c 0)] (ct false)=some (rV (RC D.c) 0,ct false),qH b P D.la l 309 [.int (D.c 1)] (ct false)=some (rV (RC D.c) 1,ct false),qH b P D.la l 309 [.int (D.c 2)] (ct false)=some (rV (RC D.c) 2,ct false),qH b P D.la l 309 [.int (D.c 3)] (ct false)=some (rV (RC D.c) 3,ct false),qH b P D.la l 309 [.int (D.c 4)] (ct false)=some (rV (RC D.c) 4,ct false),
 qH b P D.la l 323 [rV (RC D.c) 0,.int ((D.c 0).fdiv 576)] (ct false)=some (.str (zA (D.w 0)),ct false),qH b P D.la l 323 [rV (RC D.c) 1,.int ((D.c 1).fdiv 576)] (ct false)=some (.str (zA (D.w 1)),ct false),qH b P D.la l 323 [rV (RC D.c) 2,.int ((D.c 2).fdiv 576)] (ct false)=some (.str (zA (D.w 2)),ct false),qH b P D.la l 323 [rV (RC D.c) 3,.int ((D.c 3).fdiv 576)] (ct false)=some (.str (zA (D.w 3)),ct false),qH b P D.la l 323 [rV (RC D.c) 4,.int ((D.c 4).fdiv 576)] (ct false)=some (.str (zA (D.w 4)),ct false),
 zTo (zA []) [zA (D.w 0),zA (D.w 1),zA (D.w 2),zA (D.w 3),zA (D.w 4)]=true,kK (some (.str (vJ (zA []) [zA (D.w 0),zA (D.w 1),zA (D.w 2),zA (D.w 3),zA (D.w 4)]))) (.str (zA D.tx))]
noncomputable def dA_:List Dec:=[.val 0 (.trk 1) [.ctab 325 false,D.cs],.val 2 (rV (RC D.c) 0) (ct false),.val 3 (rV (RC D.c) 1) (ct false),.val 3 (rV (RC D.c) 2) (ct false),.val 3 (rV (RC D.c) 3) (ct false),.val 3 (rV (RC D.c) 4) (ct false),
 .val 6 (.str (zA (D.w 0))) (ct false),.val 6 (.str (zA (D.w 1))) (ct false),.val 6 (.str (zA (D.w 2))) (ct false),.val 6 (.str (zA (D.w 3))) (ct false),.val 6 (.str (zA (D.w 4))) (ct false),.ans 2 true,.val 0 (.str (zA D.tx)) []]
variable{b P l D}
theorem s_A(h:qQ (gA b P l D)):Run (kS (evK (cl b P D.la l) 59) ((lwB b P).take 3) (zOr b P) (lw0 D.la)) .next (lwA D):=zK (ds:=dA_ D) _ (fun k=>by kernel_rfl) h
end
section
variable(b:Bool)(P:Params)(l:List Int)(D:LD)
noncomputable def gB:List Prop:=[qH b P D.la l 330 [.str (zA D.tx)] [.ctab 325 false]=some (.trk 1,qU b P (D.ln 0) (D.l 0) []),
 qH b P D.la l 130 [.trk 1] (qU b P (D.ln 0) (D.l 0) [])=some (.str (zA (D.t 0)),qU b P (D.ln 1) (D.l 1) []),qH b P D.la l 130 [.trk 1] (qU b P (D.ln 1) (D.l 1) [])=some (.str (zA (D.t 1)),qU b P (D.ln 2) (D.l 2) []),qH b P D.la l 130 [.trk 1] (qU b P (D.ln 2) (D.l 2) [])=some (.str (zA (D.t 2)),qU b P (D.ln 3) (D.l 3) []),
 qH b P D.la l 130 [.trk 1] (qU b P (D.ln 3) (D.l 3) [])=some (.str (zA (D.t 3)),qU b P (D.ln 4) (D.l 4) []),qH b P D.la l 130 [.trk 1] (qU b P (D.ln 4) (D.l 4) [])=some (.str (zA (D.t 4)),qU b P (D.ln 5) (D.l 5) [])]
noncomputable def dB_:List Dec:=[.val 0 (.trk 1) (qU b P (D.ln 0) (D.l 0) []),.val 2 (.str (zA (D.t 0))) (qU b P (D.ln 1) (D.l 1) []),.val 3 (.str (zA (D.t 1))) (qU b P (D.ln 2) (D.l 2) []),.val 3 (.str (zA (D.t 2))) (qU b P (D.ln 3) (D.l 3) []),.val 3 (.str (zA (D.t 3))) (qU b P (D.ln 4) (D.l 4) []),.val 3 (.str (zA (D.t 4))) (qU b P (D.ln 5) (D.l 5) [])]
noncomputable def zNF(x:Str):Int:=BL (DE x (zA [10]) 0 x.length (x.length + 1)).length
noncomputable def gC:List Prop:=[qH b P D.la l 130 [.trk 1] (qU b P (D.ln 5) (D.l 5) [])=some (.str (zA []),qU b P (D.ln 6) [] []),(!(D.ln 6==1 + zNF (zA D.tx)))=false]
noncomputable def gD(o:List Nat):Prop:=qH b P D.la l 357 [.trk 1,.trk 11,.trk 12,.il (odI o)] (rnC b P (D.ln 6) D.t (RC D.c))=some (.bool true,rnC b P (D.ln 6) D.t (RC D.c))
variable{b P l D}
theorem s_B(h:qQ (gB b P l D)):Run (kS (evK (cl b P D.la l) 59) (((lwB b P).drop 3).take 2) (zOr b P) (lwA D)) .next (lwH D b P (D.ln 5) (D.l 5)):=zK (ds:=dB_ b P D) _ (fun k=>by kernel_rfl) h
theorem s_C(h:qQ (gC b P l D)):Run (kS (evK (cl b P D.la l) 59) (((lwB b P).drop 5).take 1) (zOr b P) (lwH D b P (D.ln 5) (D.l 5))) .next (lwH D b P (D.ln 6) []):=zK (ds:=[.val 0 (.str (zA [])) (qU b P (D.ln 6) [] []),.ans 4 false]) _ (fun k=>by kernel_rfl) h
theorem s_D(h1:gD b P l D od1)(h2:gD b P l D od2):Run (kS (evK (cl b P D.la l) 59) ((lwB b P).drop 6) (zOr b P) (lwH D b P (D.ln 6) [])) (.ret (.bool true)) (lwH D b P (D.ln 6) []):=zK (ds:=[.val 1 (.bool true) (rnC b P (D.ln 6) D.t (RC D.c)),.val 3 (.bool true) (rnC b P (D.ln 6) D.t (RC D.c))]) [gD b P l D od1,gD b P l D od2] (fun k=>by kernel_rfl) ⟨h1,h2,trivial⟩
theorem zYQ:lwB b P=(lwB b P).take 3 ++ (((lwB b P).drop 3).take 2 ++ (((lwB b P).drop 5).take 1 ++ (lwB b P).drop 6)):=by kernel_rfl
theorem zYq:gcv 1 (.bool true) (lwH D b P (D.ln 6) [])=(.bool true,ct true):=by kernel_rfl
theorem zSw(ha:qQ (gA b P l D))(hb:qQ (gB b P l D))(hc:qQ (gC b P l D))(h1:gD b P l D od1)(h2:gD b P l D od2):Run ((evK (cl b P D.la l) 60).c (.val (.ref 362)) [.val (.ref D.la)] [] [.ctab 325 false]) (.bool true) (ct true):=by
 refine yT (fun k=>zQs) ?_;rw [zYQ];exact xZ (yA (s_A ha) (yA (s_B hb) (yA (s_C hc) (s_D h1 h2)))) zYq
end
section
open Builtin Builtin.Str StrLaws
theorem zHj(x:Str)(c:Nat):∀(m i:Nat) (st:Array Nat×Nat),st.2<=i->st.1.size<=i->i + m=x.length + 1->
  (forIn (List.range' i m) st (occBody x ⟨#[c]⟩ x.length (x.length + 1))).run.fst.size=st.1.size + (x.cps.toList.drop i).count c
 | 0,i,st,h1,h2,h3=>by
  have:x.cps.toList.length<=i:=by
   have e:x.length=x.cps.toList.length:=by simp [Str.length]
   lia
  rw [Do this];simp
 | m + 1,i,st,h1,h2,h3=>by
  have e:x.length=x.cps.toList.length:=by simp [Str.length]
  rw [List.range'_succ,CM];unfold occBody
  by_cases hc:i + (⟨#[c]⟩:Str).length<=x.length/\subAt x ⟨#[c]⟩ i=true
  ·have hg:=(subAt_one x c i).mp hc
   have hi:i < x.cps.toList.length:=(DA.mp hg).1;rw [if_pos ⟨⟨⟨by lia,h1⟩,hc.1⟩,hc.2⟩];have ih:=zHj x c m (i + 1) (st.1.push i,i + (⟨#[c]⟩:Str).length) (by show i + 1<=i + 1; lia) (by simp; lia) (by lia);refine Eq.trans ih ?_;rw [List.drop_eq_getElem_cons hi];have hx:x.cps.toList[i]=c:=by
    rw [Bi hi] at hg;exact CR hg
   rw [hx,List.count_cons_self];simp
   lia
  ·rw [if_neg (fun h=>hc ⟨h.1.2,h.2⟩)]
   have ih:=zHj x c m (i + 1) (st.1,st.2) (by show st.2<=i + 1; lia) (by show st.1.size<=i + 1; lia) (by lia);refine Eq.trans ih ?_
   by_cases hi:i < x.cps.toList.length
   ·rw [List.drop_eq_getElem_cons hi]
    have hx:x.cps.toList[i]≠c:=fun q=>hc ((subAt_one x c i).mpr (by rw [Bi hi,q]));rw [List.count_cons_of_ne hx]
   ·rw [Do (by lia),Do (by lia)]
theorem zMU(x:Str)(c:Nat):(occurrences x ⟨#[c]⟩ 0 x.length (x.length + 1)).length=x.cps.toList.count c:=by
 rw [occ_eq];have z:=zHj x c (x.length + 1) 0 (#[],0) (CD _) (by simp) (by lia);simp only [CF];refine Eq.trans z ?_;simp
end
noncomputable def lkC(c:Nat->Int)(k:Nat):Int:=(c k).fdiv 576
noncomputable def WW(c:Nat->Int)(k:Nat):List Nat:=wrN (c k) (lkC c k)
noncomputable def TK(c:Nat->Int)(k:Nat):List Nat:=wdN (c k) (lkC c k)
noncomputable def RR(c:Nat->Int)(k:Nat):List Nat:=match k with
 | 0=>WW c 0 ++ (WW c 1 ++ (WW c 2 ++ (WW c 3 ++ (WW c 4 ++ [])))) | 1=>WW c 1 ++ (WW c 2 ++ (WW c 3 ++ (WW c 4 ++ []))) | 2=>WW c 2 ++ (WW c 3 ++ (WW c 4 ++ [])) | 3=>WW c 3 ++ (WW c 4 ++ []) | 4=>WW c 4 ++ [] | _=>[]
noncomputable def LL(c:Nat->Int):Nat->Int
 | 0=>1
 | k + 1=>yC (lkD (lkC c k)) (LL c k)
noncomputable def qq(c:Nat->Int)(k:Nat):Bool:=lkQ (lkC c k)
noncomputable def DD(la:Addr)(c:Nat->Int):LD:=⟨la,c,WW c,TK c,RR c 0,
 fun k=>match k with | 0=>1 | 6=>LL c 5 | k + 1=>if qq c k then LL c k else LL c (k + 1),
 fun k=>match k with | 0=>RR c 0 | k + 1=>if qq c k then lkD (lkC c k)::RR c (k + 1) else RR c (k + 1)⟩
theorem yAu{k:Nat}(h:k < 5):k=0\/k=1\/k=2\/k=3\/k=4:=by lia
section
variable{b:Bool}{P:Params}{l:List Int}{la:Addr}{c:Nat->Int}
theorem wY(k:Nat):(WW c k).length<=40:=by
 obtain ⟨x,r,h1,h2,h3,h4⟩:=zLL (c k) (lkC c k);have h5:=zGN (wdN (c k) (lkC c k));have h6:(wdN (c k) (lkC c k)).length<=13:=by rw [h1,Bh]; lia
 have h7:∀(q:Bool) (w:List Nat),(wrap q w).length<=w.length + 2:=fun q w=>by unfold wrap; split <;>simp
 have h8:=h7 (lkQ (lkC c k)) (esc (wdN (c k) (lkC c k)));unfold WW wrN;rw [BY,List.length_singleton]
 lia
theorem zDi(k:Nat):(RR c k).length<=200:=by
 have a0:=wY (c:=c) 0; have a1:=wY (c:=c) 1; have a2:=wY (c:=c) 2; have a3:=wY (c:=c) 3; have a4:=wY (c:=c) 4
 match k with
 | 0=>show (WW c 0 ++ (WW c 1 ++ (WW c 2 ++ (WW c 3 ++ (WW c 4 ++ []))))).length<=200; simp; lia
 | 1=>show (WW c 1 ++ (WW c 2 ++ (WW c 3 ++ (WW c 4 ++ [])))).length<=200; simp; lia
 | 2=>show (WW c 2 ++ (WW c 3 ++ (WW c 4 ++ []))).length<=200; simp; lia
 | 3=>show (WW c 3 ++ (WW c 4 ++ [])).length<=200; simp; lia
 | 4=>show (WW c 4 ++ []).length<=200; simp; lia
 | _ + 5=>exact Ca _
theorem zT7{k:Nat}(hk:k < 5):RR c k=WW c k ++ RR c (k + 1):=by
 rcases yAu hk with rfl | rfl | rfl | rfl | rfl <;>rfl
theorem yAP{k:Nat}(hk:k < 5):(DD la c).ln (k + 1)=if qq c k then LL c k else LL c (k + 1):=by
 rcases yAu hk with rfl | rfl | rfl | rfl | rfl <;>rfl
theorem zZX{k:Nat}(hk:k < 6):vR ((DD la c).ln k) ((DD la c).l k)=vR (LL c k) (RR c k):=by
 cases k with
 | zero=>rfl
 | succ k=>
  have hk:k < 5:=by lia
  rw [yAP hk];show vR _ (if qq c k then lkD (lkC c k)::RR c (k + 1) else RR c (k + 1))=_;cases hq:qq c k with
  | true=>exact zMx (zK0 _)
  | false=>rfl
theorem zUt(k:Nat):((DD la c).l k).length<=201:=by
 cases k with
 | zero=>exact Ck (zDi 0)
 | succ k=>
  show (if qq c k then lkD (lkC c k)::RR c (k + 1) else RR c (k + 1)).length<=201;split
  ·exact Dd (zDi (k + 1))
  ·exact Ck (zDi (k + 1))
theorem zDn{k:Nat}(hk:k < 5):qH b P la l 130 [.trk 1] (qU b P ((DD la c).ln k) ((DD la c).l k) [])=some (.str (zA ((DD la c).t k)),qU b P ((DD la c).ln (k + 1)) ((DD la c).l (k + 1)) []):=by
 refine (zBf (by decide) (by decide) (by decide)).trans ?_;rw [zGq,zGq];refine wW (zUZ ?_ (Bn (zUt k) (by decide)));rw [zZX (by lia),zT7 hk,yAP hk];obtain ⟨x,r,h1,h2,h3,h4⟩:=zLL (c k) (lkC c k);have z:=zQK (p:=qq c k) (ln:=LL c k) (r:=RR c (k + 1)) (zK0 (lkC c k)) h4 h2;rw [<-h1] at z;show vR (LL c k) (wrN (c k) (lkC c k) ++ RR c (k + 1))=_;unfold wrN;rw [CA];exact z
theorem g_A(hc:evC (cf b P) 20 (.val (.ref 302)) [.lst (l.map .int)] [] [.ctab 325 false]=some (.trk 1,[.ctab 325 false,.list [.int (c 0),.int (c 1),.int (c 2),.int (c 3),.int (c 4)]])):qQ (gA b P l (DD la c)):=by
 have a0:=wY (c:=c) 0; have a1:=wY (c:=c) 1; have a2:=wY (c:=c) 2; have a3:=wY (c:=c) 3; have a4:=wY (c:=c) 4;have rd:∀k,qH b P la l 309 [.int (c k)] (ct false)=some (rV (RC c) k,ct false):=fun k=>(zBf (by decide) (by decide) (by decide)).trans (zS9 b P false (c k));have wr:∀k,qH b P la l 323 [rV (RC c) k,.int ((c k).fdiv 576)] (ct false)=some (.str (zA (WW c k)),ct false):=fun k=>zI6.trans (zJA b P false (c k) (lkC c k));have hT:(RR c 0).length<=200:=zDi 0;have hj:jn [] [WW c 0,WW c 1,WW c 2,WW c 3,WW c 4]=RR c 0:=rfl;refine ⟨zHy.trans hc,rd 0,rd 1,rd 2,rd 3,rd 4,wr 0,wr 1,wr 2,wr 3,wr 4,?_,?_,trivial⟩
 ·exact zUC (sep:=[]) (l:=[WW c 0,WW c 1,WW c 2,WW c 3,WW c 4]) (by simp; lia) (by rw [hj]; exact Bn hT (by decide))
 ·exact qG (congrArg (some ∘ V.str) ((zBF [] [WW c 0,WW c 1,WW c 2,WW c 3,WW c 4]).trans (congrArg zA hj)))
theorem list_strN'(x:List Nat):(zA x).cps.toList=x:=by simp [zA]
theorem g_B:qQ (gB b P l (DD la c)):=by
 refine ⟨(zBf (by decide) (by decide) (by decide)).trans ?_,zDn (k:=0) (by decide),zDn (k:=1) (by decide),zDn (k:=2) (by decide),zDn (k:=3) (by decide),zDn (k:=4) (by decide),trivial⟩;have hT:(RR c 0).length<=200:=zDi 0;have z:=zQd b P (zA (RR c 0)) (by show (RR c 0).toArray.size<=1000; simp; lia);rw [list_strN'] at z;exact z
theorem uS(d:Nat)(ln:Int):yC d ln=ln + BL (if d=10 then 1 else 0):=by
 unfold yC;split
 ·rfl
 ·exact (Int.add_zero ln).symm
theorem zYO:LL c 5=1 + BL ((RR c 0).count 10):=by
 show yC (lkD (lkC c 4)) (yC (lkD (lkC c 3)) (yC (lkD (lkC c 2)) (yC (lkD (lkC c 1)) (yC (lkD (lkC c 0)) 1))))=1 + BL ((WW c 0 ++ (WW c 1 ++ (WW c 2 ++ (WW c 3 ++ (WW c 4 ++ []))))).count 10);rw [Dr,Dr,Dr,Dr,Bp];have e:∀k,(WW c k).count 10=if lkD (lkC c k)=10 then 1 else 0:=fun k=>by
  obtain ⟨x,r,h1,h2,h3,h4⟩:=zLL (c k) (lkC c k);unfold WW wrN;exact zKf (by rw [h1]; exact h4)
 rw [e 0,e 1,e 2,e 3,e 4,uS,uS,uS,uS,uS];generalize (if lkD (lkC c 0)=10 then 1 else 0)=x;generalize (if lkD (lkC c 1)=10 then 1 else 0)=y;generalize (if lkD (lkC c 2)=10 then 1 else 0)=z;generalize (if lkD (lkC c 3)=10 then 1 else 0)=u;generalize (if lkD (lkC c 4)=10 then 1 else 0)=v;show (1:Int) + (x:Int) + (y:Int) + (z:Int) + (u:Int) + (v:Int)=1 + ((x + (y + (z + (u + v))):Nat):Int)
 lia
theorem g_C:qQ (gC b P l (DD la c)):=by
 refine ⟨?_,?_,trivial⟩
 ·refine (zBf (by decide) (by decide) (by decide)).trans ?_
  rw [zGq,zGq];refine wW (zUZ ?_ (Bn (zUt 5) (by decide)));rw [zZX (by decide)];rfl
 ·have e:zNF (zA (DD la c).tx)=BL ((RR c 0).count 10):=by
   unfold zNF;have z:=zMU (zA (RR c 0)) 10;rw [list_strN'] at z;exact congrArg BL z
  rw [e];show (!(LL c 5==1 + BL ((RR c 0).count 10)))=false;rw [zYO,beq_self_eq_true];rfl
theorem zUN:RdOK (RC c):=⟨fun k=>zFi (c k),fun k=>zFL (c k)⟩
theorem yAk(k:Nat):F2 b P 335 [.str (zA (TK c k))] (ct true)=some (rV (RC c) k,ct true):=(zQm rfl).trans (zTm (c k) (lkC c k))
theorem g_D{o:List Nat}{Inv:List Nat->List (Nat×Nat)->Prop}(h0:Inv [] [])(hs:∀ls H r,Inv ls H->r < 5->r ∉ ls->∃H' rg due,LayOK (RC c) ls r H H' rg due/\Inv (ls ++ [r]) H')(ho:o=od1\/o=od2):gD b P l (DD la c) o:=
 zH7.trans (zXU h0 hs zUN (fun k _=>zG3 (c k)) (fun k _=>yAk k) ho)
end
noncomputable def adj(T:List (Nat×Nat))(x y:Nat):Prop:=∃e∈T,(e.1=x/\e.2=y)\/(e.1=y/\e.2=x)
inductive Rc (T:List (Nat×Nat)):Nat->Nat->Prop
 | refl (x:Nat):Rc T x x
 | step {x y z:Nat} (h:Rc T x y) (e:adj T y z):Rc T x z
section
variable{T T':List (Nat×Nat)}{x y z u v:Nat}
theorem zPH(h:adj T x y):adj T y x:=by
 obtain ⟨e,he,h⟩:=h;exact ⟨e,he,h.elim .inr .inl⟩
theorem Rc.trans(h:Rc T x y)(h2:Rc T y z):Rc T x z:=by
 induction h2 with
 | refl=>exact h
 | step _ e ih=>exact ih.step e
theorem Rc.one(h:adj T x y):Rc T x y:=(Rc.refl x).step h
theorem Rc.symm(h:Rc T x y):Rc T y x:=by
 induction h with
 | refl=>exact .refl _
 | step _ e ih=>exact (Rc.one (zPH e)).trans ih
theorem vA(h:∀e∈T,Rc T' e.1 e.2)(h2:Rc T u v):Rc T' u v:=by
 induction h2 with
 | refl=>exact .refl _
 | step _ e ih=>
  obtain ⟨e,he,a | a⟩:=e
  ·have z:=h e he
   rw [a.1,a.2] at z;exact ih.trans z
  ·have z:=h e he
   rw [a.1,a.2] at z;exact ih.trans z.symm
theorem vY{e:Nat×Nat}(h:e∈T):Rc T e.1 e.2:=Rc.one ⟨e,h,.inl ⟨rfl,rfl⟩⟩
theorem vT(h:∀e∈T,e∈T')(h2:Rc T u v):Rc T' u v:=vA (fun e he=>vY (h e he)) h2
end
noncomputable def vI:List (Nat×Nat)->Nat->Nat->Bool
 | [],u,v=>BQ u v
 | e::T,u,v=>vI T u v || (vI T u e.1 && vI T e.2 v || vI T u e.2 && vI T e.1 v)
theorem xP:∀(T:List (Nat×Nat)) (u v:Nat),vI T u v=true ↔ Rc T u v
 | [],u,v=>by
  constructor
  ·intro h
   rw [Bg h]; exact .refl _
  ·intro h
   cases h with
   | refl=>exact CQ _
   | step _ e=>obtain ⟨e,he,_⟩:=e; exact absurd he Ba
 | e::T,u,v=>by
  have e0:vI (e::T) u v=(vI T u v || (vI T u e.1 && vI T e.2 v || vI T u e.2 && vI T e.1 v)):=rfl;rw [e0,DU,DU,Bu,Bu,xP T,xP T,xP T,xP T,xP T];have up:∀{x y},Rc T x y->Rc (e::T) x y:=fun h=>vT (fun x hx=>Bq _ hx) h;have he:Rc (e::T) e.1 e.2:=vY (CB ..);constructor
  ·rintro (h | ⟨h1,h2⟩ | ⟨h1,h2⟩)
   ·exact up h
   ·exact ((up h1).trans he).trans (up h2)
   ·exact ((up h1).trans he.symm).trans (up h2)
  ·intro h
   clear e0
   induction h with
   | refl=>exact .inl (.refl _)
   | @step y z _ a ih=>
    obtain ⟨d,hd,a⟩:=a;rcases Bl.mp hd with rfl | hd
    ·rcases a with ⟨rfl,rfl⟩ | ⟨rfl,rfl⟩
     ·rcases ih with h | ⟨h1,h2⟩ | ⟨h1,h2⟩
      ·exact .inr (.inl ⟨h,.refl _⟩)
      ·exact .inr (.inl ⟨h1,.refl _⟩)
      ·exact .inl h1
     ·rcases ih with h | ⟨h1,h2⟩ | ⟨h1,h2⟩
      ·exact .inr (.inr ⟨h,.refl _⟩)
      ·exact .inl h1
      ·exact .inr (.inr ⟨h1,.refl _⟩)
    ·have o:Rc T y z:=Rc.one ⟨d,hd,a⟩
     rcases ih with h | ⟨h1,h2⟩ | ⟨h1,h2⟩
     ·exact .inl (h.trans o)
     ·exact .inr (.inl ⟨h1,h2.trans o⟩)
     ·exact .inr (.inr ⟨h1,h2.trans o⟩)
theorem qV{T:List (Nat×Nat)}{g:List Nat}{x:Nat}:x∈kI T g ↔ x∈g\/∃u∈g,adj T u x:=by
 unfold kI;rw [BR,Cr];constructor
 ·rintro (h | ⟨e,he,h⟩)
  ·exact .inl h
  ·unfold qS at h
   split at h
   ·rename_i hc
    rw [DU,zT,zT] at hc;simp only [Bl,Ba,_root_.or_false] at h;rcases hc with hc | hc <;>rcases h with rfl | rfl
    ·exact .inl hc
    ·exact .inr ⟨_,hc,e,he,.inl ⟨rfl,rfl⟩⟩
    ·exact .inr ⟨_,hc,e,he,.inr ⟨rfl,rfl⟩⟩
    ·exact .inl hc
   ·exact absurd h Ba
 ·rintro (h | ⟨u,hu,e,he,a⟩)
  ·exact .inl h
  ·refine .inr ⟨e,he,?_⟩
   unfold qS;rcases a with ⟨rfl,rfl⟩ | ⟨rfl,rfl⟩
   ·rw [if_pos (by rw [DU,zT]; exact .inl hu)]; simp
   ·rw [if_pos (by rw [DU,zT,zT]; exact .inr hu)]; simp
theorem wD{α:Type} [DecidableEq α]:∀{l m:List α},l.Nodup->(∀x∈l,x∈m)->l.length<=m.length
 | [],_,_,_=>Ca _
 | a::l,m,hn,h=>by
  have ha:a∈m:=h a (by simp);obtain ⟨h1,h2⟩:=CG.mp hn;have z:=wD (l:=l) (m:=m.erase a) h2 fun x hx=>(List.mem_erase_of_ne (by intro e; subst e; exact h1 hx)).mpr (h x (by simp [hx]));rw [List.length_erase_of_mem ha] at z;have:0 < m.length:=List.length_pos_of_mem ha;rw [Bh]; lia
theorem zWQ{i:Nat}(h:i < 4):i∈[0,1,2,3]:=by
 rcases zI h with rfl | rfl | rfl | rfl <;>decide
theorem yDm{a b c d e:Nat}(ha:a < 4)(hb:b < 4)(hc:c < 4)(hd:d < 4)(he:e < 4)(h1:a≠b)(h2:a≠c)(h3:a≠d)(h4:a≠e)(h5:b≠c)(h6:b≠d)(h7:b≠e)(h8:c≠d)(h9:c≠e)(h0:d≠e):False:=by
 have n:[a,b,c,d,e].Nodup:=by simp [h1,h2,h3,h4,h5,h6,h7,h8,h9,h0]
 have z:=wD n (m:=[0,1,2,3]) fun x hx=>by
  simp only [Bl,Ba,_root_.or_false] at hx;rcases hx with rfl | rfl | rfl | rfl | rfl <;>exact zWQ ‹_›
 exact absurd (show 5<=4 from z) (by decide)
theorem zOD{T:List (Nat×Nat)}(hT:zHY T){x y:Nat}(h:adj T x y):x < 4/\y < 4:=by
 obtain ⟨e,he,a | a⟩:=h
 ·rw [<-a.1,<-a.2]; exact hT e he
 ·rw [<-a.1,<-a.2]; exact ⟨(hT e he).2,(hT e he).1⟩
theorem zFV{T:List (Nat×Nat)}(hT:zHY T){i x y:Nat}(hi:i < 4)(hx:x∈zC5 T i)(h:adj T x y):y∈zC5 T i:=by
 unfold zC5 at *;have m1:∀{g:List Nat} {x:Nat},x∈g->x∈kI T g:=fun h=>qV.mpr (.inl h);have m2:∀{g:List Nat} {x y:Nat},x∈g->adj T x y->y∈kI T g:=fun h a=>qV.mpr (.inr ⟨_,h,a⟩)
 by_cases hy:y∈kI T (kI T (kI T [i]))
 ·exact hy
 exfalso
 rcases qV.mp hx with hx2 | ⟨x2,hx2,a2⟩
 ·exact hy (m2 hx2 h)
 by_cases nx:x∈kI T (kI T [i])
 ·exact hy (m2 nx h)
 rcases qV.mp hx2 with hx1 | ⟨x1,hx1,a1⟩
 ·exact nx (m2 hx1 a2)
 by_cases nx2:x2∈kI T [i]
 ·exact nx (m2 nx2 a2)
 rcases qV.mp hx1 with hx0 | ⟨x0,hx0,a0⟩
 ·exact nx2 (m2 hx0 a1)
 by_cases nx1:x1∈[i]
 ·exact nx2 (m2 nx1 a1)
 have hi0:i∈[i]:=BP.mpr rfl;obtain ⟨b1,b2⟩:=zOD hT a1;obtain ⟨b3,b4⟩:=zOD hT h;refine yDm hi b1 b2 b3 b4 ?_ ?_ ?_ ?_ ?_ ?_ ?_ ?_ ?_ ?_
 ·intro e; exact nx1 (e▸hi0)
 ·intro e; exact nx2 (e▸m1 hi0)
 ·intro e; exact nx (e▸m1 (m1 hi0))
 ·intro e; exact hy (e▸m1 (m1 (m1 hi0)))
 ·intro e; exact nx2 (e▸hx1)
 ·intro e; exact nx (e▸m1 hx1)
 ·intro e; exact hy (e▸m1 (m1 hx1))
 ·intro e; exact nx (e▸hx2)
 ·intro e; exact hy (e▸m1 hx2)
 ·intro e; exact hy (e▸hx)
theorem zF3{T:List (Nat×Nat)}{i:Nat}{g:List Nat}(h:∀x∈g,Rc T i x):∀x∈kI T g,Rc T i x:=fun x hx=>by
 rcases qV.mp hx with hx | ⟨u,hu,a⟩
 ·exact h x hx
 ·exact (h u hu).step a
theorem zSK{T:List (Nat×Nat)}(hT:zHY T){i j:Nat}(hi:i < 4):cnN T i j=true ↔ Rc T i j:=by
 unfold cnN;rw [zT];constructor
 ·exact fun h=>zF3 (zF3 (zF3 (fun x hx=>by rw [BP.mp hx]; exact .refl _))) j h
 ·intro h
  induction h with
  | refl=>exact qV.mpr (.inl (qV.mpr (.inl (qV.mpr (.inl (BP.mpr rfl))))))
  | step _ e ih=>exact zFV hT hi ih e
noncomputable def tie(R:Rd)(k:Nat):Nat×Nat:=(R.a k,R.z k)
noncomputable def rl(R:Rd)(o k:Nat):Prop:=R.t o < R.t k\/(R.t o=R.t k/\o < k)
theorem kO{R:Rd}{o k:Nat}:ltP (rkP R o) (rkP R k)=true ↔ rl R o k:=by
 show (if R.t o==R.t k then decide (BL o < BL k) else decide (R.t o < R.t k))=true ↔ _;unfold rl
 by_cases h:R.t o=R.t k
 ·rw [h,beq_self_eq_true,if_pos rfl,decide_eq_true_eq]
  constructor
  ·exact fun z=> .inr ⟨rfl,EG.mp z⟩
  ·rintro (z | z)
   ·exact absurd z (Int.lt_irrefl _)
   ·exact EG.mpr z.2
 ·rw [beq_eq_false_iff_ne.mpr h,if_neg Bk,decide_eq_true_eq]
  constructor
  ·exact .inl
  ·rintro (z | z)
   ·exact z
   ·exact absurd z.1 h
theorem zHo{R:Rd}{k:Nat}:¬rl R k k:=fun h=>by rcases h with h | h <;>lia
theorem uY{R:Rd}{x y z:Nat}(h:rl R x y)(h2:rl R y z):rl R x z:=by
 unfold rl at *;rcases h with h | ⟨h,h'⟩ <;>rcases h2 with h2 | ⟨h2,h2'⟩
 ·exact .inl (by lia)
 ·exact .inl (by lia)
 ·exact .inl (by lia)
 ·exact .inr ⟨by lia,by lia⟩
theorem zXZ{R:Rd}{x y:Nat}(h:x≠y):rl R x y\/rl R y x:=by
 unfold rl
 by_cases a:R.t x < R.t y
 ·exact .inl (.inl a)
 by_cases b:R.t y < R.t x
 ·exact .inr (.inl b)
 have c:R.t x=R.t y:=by lia
 by_cases d:x < y
 ·exact .inl (.inr ⟨c,d⟩)
 ·exact .inr (.inr ⟨c.symm,by lia⟩)
theorem yQ{R:Rd}{ls:List Nat}{k:Nat}{e:Nat×Nat}:e∈zV R ls (rkP R k) ↔ ∃o∈ls,rl R o k/\e=tie R o:=by
 unfold zV;rw [Bm];constructor
 ·rintro ⟨o,ho,rfl⟩
  exact ⟨o,(Bj.mp ho).1,kO.mp (Bj.mp ho).2,rfl⟩
 ·rintro ⟨o,h1,h2,rfl⟩
  exact ⟨o,Bj.mpr ⟨h1,kO.mpr h2⟩,rfl⟩
theorem zGL{R:Rd}(hR:RdOK R){ls:List Nat}{k:Nat}:zAU R ls k=true ↔ ¬Rc (zV R ls (rkP R k)) (R.a k) (R.z k):=by
 unfold zAU;rw [<-zSK (zIj hR ls _) (hR.a k)];cases cnN (zV R ls (rkP R k)) (R.a k) (R.z k) <;>simp
theorem zSS{l:List Nat}{p q:Nat->Bool}(h:∀x,p x=true->q x=true){x:Nat}(hx:x∈l)(hq:q x=true)(hp:p x=false):(l.filter p).length < (l.filter q).length:=by
 have le:∀l:List Nat,(l.filter p).length<=(l.filter q).length:=fun l=>by
  induction l with
  | nil=>exact CD _
  | cons a l ih=>
   rw [CK,CK];cases ha:p a with
   | true=>rw [h a ha]; exact Dd ih
   | false=>cases q a with
    | true=>exact Ck ih
    | false=>exact ih
 induction l with
 | nil=>exact absurd hx Ba
 | cons a l ih=>
  rw [CK,CK];rcases Bl.mp hx with rfl | hx
  ·rw [hp,hq]; exact Nat.lt_succ_of_le (le l)
  ·have:=ih hx
   cases ha:p a with
   | true=>rw [h a ha]; exact Nat.succ_lt_succ this
   | false=>cases q a with
    | true=>exact Nat.lt_succ_of_lt this
    | false=>exact this
noncomputable def qP(R:Rd)(ls:List Nat):List Nat:=ls.filter (zAU R ls)
theorem zLk{R:Rd}(hR:RdOK R){ls:List Nat}:∀(n o k:Nat),o∈ls->(ls.filter fun x=>ltP (rkP R x) (rkP R o)).length < n->rl R o k->Rc (zV R (qP R ls) (rkP R k)) (R.a o) (R.z o)
 | 0,_,_,_,h,_=>absurd h (Nat.not_lt_zero _)
 | n + 1,o,k,ho,hn,hk=>by
  cases hd:zAU R ls o with
  | true=>
   have:tie R o∈zV R (qP R ls) (rkP R k):=yQ.mpr ⟨o,Bj.mpr ⟨ho,hd⟩,hk,rfl⟩;exact vY this
  | false=>
   have hc:Rc (zV R ls (rkP R o)) (R.a o) (R.z o):=by
    by_cases h:Rc (zV R ls (rkP R o)) (R.a o) (R.z o)
    ·exact h
    ·rw [(zGL hR).mpr h] at hd; cases hd
   refine vA (fun e he=>?_) hc;obtain ⟨x,hx,hxo,rfl⟩:=yQ.mp he;refine zLk hR n x k hx (CV (zSS (fun y hy=>kO.mpr (uY (kO.mp hy) hxo)) hx (kO.mpr hxo) ?_) (Nat.le_of_lt_succ hn)) (uY hxo hk);cases hb:ltP (rkP R x) (rkP R x) with
   | true=>exact absurd (kO.mp hb) zHo
   | false=>rfl
theorem yCm{R:Rd}(hR:RdOK R){ls:List Nat}{k u v:Nat}(h:Rc (zV R ls (rkP R k)) u v):Rc (zV R (qP R ls) (rkP R k)) u v:=
 vA (fun e he=>by
  obtain ⟨o,ho,hk,rfl⟩:=yQ.mp he;exact zLk hR _ o k ho (Cg _) hk) h
theorem zHH{R:Rd}(hR:RdOK R){ls:List Nat}{r k:Nat}(hk:k∈ls ++ [r]):zAU R (ls ++ [r]) k=true ↔ k∈qP R ls ++ [r]/\¬Rc (zV R (qP R ls ++ [r]) (rkP R k)) (R.a k) (R.z k):=by
 have sub:∀e,e∈zV R (qP R ls ++ [r]) (rkP R k)->e∈zV R (ls ++ [r]) (rkP R k):=fun e he=>by
  obtain ⟨o,ho,h2,rfl⟩:=yQ.mp he;refine yQ.mpr ⟨o,?_,h2,rfl⟩;rcases BR.mp ho with ho | ho
  ·exact BR.mpr (.inl (Bj.mp ho).1)
  ·exact BR.mpr (.inr ho)
 rw [zGL hR];constructor
 ·intro h
  refine ⟨?_,fun z=>h (vT sub z)⟩;rcases BR.mp hk with hl | hr
  ·refine BR.mpr (.inl (Bj.mpr ⟨hl,(zGL hR).mpr fun z=>h (vT (fun e he=>?_) z)⟩))
   obtain ⟨o,ho,h2,rfl⟩:=yQ.mp he;exact yQ.mpr ⟨o,BR.mpr (.inl ho),h2,rfl⟩
  ·exact BR.mpr (.inr hr)
 ·rintro ⟨_,h⟩ z
  refine h (vA (fun e he=>?_) z);obtain ⟨o,ho,h2,rfl⟩:=yQ.mp he;rcases BR.mp ho with ho | ho
  ·have t:Rc (zV R ls (rkP R k)) (tie R o).1 (tie R o).2:=vY (yQ.mpr ⟨o,ho,h2,rfl⟩)
   refine vT (fun e he=>?_) (yCm hR t);obtain ⟨x,hx,h3,rfl⟩:=yQ.mp he;exact yQ.mpr ⟨x,BR.mpr (.inl hx),h3,rfl⟩
  ·exact vY (yQ.mpr ⟨o,BR.mpr (.inr ho),h2,rfl⟩)
theorem zSs{R:Rd}{ls:List Nat}{e:Nat×Nat}:e∈zDT R ls ↔ ∃k∈ls,zAU R ls k=true/\(e=(R.a k,k)\/e=(R.z k,k)):=by
 unfold zDT;rw [Cr];constructor
 ·rintro ⟨k,hk,h⟩
  unfold xW at h;split at h
  ·rename_i hd
   exact ⟨k,hk,hd,by simpa using h⟩
  ·exact absurd h Ba
 ·rintro ⟨k,hk,hd,h⟩
  refine ⟨k,hk,?_⟩;unfold xW;rw [if_pos hd]
  simpa using h
theorem zLV{R:Rd}{o k:Nat}:gtP (rkP R o) (rkP R k)=true ↔ rl R k o:=by
 rw [<-kO];show (if R.t o==R.t k then decide (BL o >BL k) else decide (R.t o >R.t k))=true ↔ (if R.t k==R.t o then decide (BL k < BL o) else decide (R.t k < R.t o))=true
 by_cases h:R.t o=R.t k
 ·simp only [h,beq_self_eq_true,if_true]
 ·simp only [beq_eq_false_iff_ne.mpr h,beq_eq_false_iff_ne.mpr fun e=>h e.symm,Dn,if_false]
theorem kP(R:Rd):∀(l:List Nat) (c x:Nat),x=c\/x∈l->x=kF R l c\/rl R x (kF R l c)
 | [],c,x,h=>h.elim .inl fun h=>absurd h Ba
 | r::l,c,x,h=>by
  have e:kF R (r::l) c=kF R l (if gtP (rkP R r) (rkP R c) then r else c):=rfl;rw [e];cases hg:gtP (rkP R r) (rkP R c) with
  | true=>
   show x=kF R l r\/rl R x (kF R l r);rcases h with rfl | h
   ·have hx:=zLV.mp hg
    rcases kP R l r r (.inl rfl) with h | h
    ·exact .inr (h▸hx)
    ·exact .inr (uY hx h)
   ·rcases Bl.mp h with rfl | h
    ·exact kP R l x x (.inl rfl)
    ·exact kP R l r x (.inr h)
  | false=>
   show x=kF R l c\/rl R x (kF R l c);rcases h with rfl | h
   ·exact kP R l x x (.inl rfl)
   ·rcases Bl.mp h with rfl | h
    ·by_cases hx:x=c
     ·rw [hx]; exact kP R l c c (.inl rfl)
     ·have hc:rl R x c:=by
       rcases zXZ (R:=R) hx with h | h
       ·exact h
       ·rw [zLV.mpr h] at hg; cases hg
      rcases kP R l c c (.inl rfl) with h | h
      ·exact .inr (h▸hc)
      ·exact .inr (uY hc h)
    ·exact kP R l c x (.inr h)
theorem zLl{R:Rd}{rg:List Nat}{x:Nat}(h:x∈rg):x=kZ R rg\/rl R x (kZ R rg):=by
 cases rg with
 | nil=>exact absurd h Ba
 | cons r l=>exact kP R l r x (Bl.mp h)
noncomputable def xV(R:Rd)(nw:Nat)(A:Nat->List Nat):Nat->Nat->List (Nat×List Nat)->List Nat->Option (List Nat)
 | 0,_,_,_=>none
 | fu + 1,p,W,ring=>match W[p]? with
  | none=>some ring
  | some e=>xV R nw A fu (p + 1) (W ++ inL R e.1 e.2 (A e.1)) (if BQ e.1 (R.z nw) then e.2 else ring)
theorem zAj(R:Rd)(nw:Nat)(A:Nat->List Nat)(fu p:Nat)(W:List (Nat×List Nat))(ring:List Nat):xV R nw A (fu + 1) p W ring=(match W[p]? with
  | none=>some ring
  | some e=>xV R nw A fu (p + 1) (W ++ inL R e.1 e.2 (A e.1)) (if BQ e.1 (R.z nw) then e.2 else ring)):=rfl
noncomputable def cd6:List Nat:=[0,1,2,3,4,5]
noncomputable def eA(c:Nat):Nat:=match c with | 0=>0 | 1=>0 | 2=>0 | 3=>1 | 4=>1 | _=>2
noncomputable def eZ(c:Nat):Nat:=match c with | 0=>1 | 1=>2 | 2=>3 | 3=>2 | 4=>3 | _=>3
noncomputable def R6(u v:Nat):Rd:=⟨fun c=>if BQ c 6 then u else eA c,fun _=>0,fun c=>if BQ c 6 then v else eZ c⟩
noncomputable def zGl:List Nat->List (List Nat)
 | []=>[[]]
 | a::l=>zGl l ++ (zGl l).map (a::·)
noncomputable def exc(F:List Nat)(e:Nat):List Nat:=F.filter fun x=>!BQ x e
noncomputable def cnB(R:Rd)(S:List Nat)(e:Nat):Bool:=vI (S.map (tie R)) (R.a e) (R.z e)
noncomputable def zLe(R:Rd)(F:List Nat):Bool:=F.all fun e=>!cnB R (exc F e) e
noncomputable def zUG(R:Rd)(G rg:List Nat):Bool:=rg.all (gIn G) && G.all fun e=>match gIn rg e with
 | true=>(zGl (exc G e)).all fun S=>cnB R S e==rg.all fun x=>BQ x e || gIn S x
 | false=>!cnB R (exc G e) e
noncomputable def inc(t c:Nat):Bool:=BQ (eA c) t || BQ (eZ c) t
noncomputable def cdT(t:Nat):List Nat:=match t with | 0=>[0,1,2] | 1=>[0,3,4] | 2=>[1,3,5] | _=>[2,4,5]
noncomputable def zX0:Nat->List Nat->List (List Nat)
 | 0,_=>[[]]
 | n + 1,S=>[]::S.flatMap fun x=>(zX0 n (S.filter fun y=>!BQ y x)).map (x::·)
noncomputable def zQ6(t:Nat):List (List Nat):=zX0 3 (cdT t)
noncomputable def agr(F:List Nat)(t:Nat)(A:List Nat):Bool:=(cdT t).all fun c=>gIn F c==gIn A c
noncomputable def zVX(A0 A1 A2 A3:List Nat)(t:Nat):List Nat:=match t with | 0=>A0 | 1=>A1 | 2=>A2 | _=>A3
noncomputable def yC0(F:List Nat)(t:Nat):List Nat:=F.filter (inc t)
noncomputable def zQh(F:List Nat)(u v:Nat):Option (List Nat):=xV (R6 u v) 6 (yC0 F) 8 0 [(u,[6])] []
noncomputable def same(l m:List Nat):Bool:=l.all (gIn m) && m.all (gIn l)
noncomputable def zWg:List (Nat×Nat):=[(0,1),(0,2),(0,3),(1,0),(1,2),(1,3),(2,0),(2,1),(2,3),(3,0),(3,1),(3,2)]
noncomputable def zXN(F:List Nat):Bool:=!zLe (R6 0 0) F || (CL F.length 3 && zWg.all fun p=>match zQh F p.1 p.2 with
 | none=>false
 | some rg=>zUG (R6 p.1 p.2) (F ++ [6]) rg)
noncomputable def yAl(F:List Nat):Bool:=!zLe (R6 0 0) F || (zQ6 0).all fun A0=>!agr F 0 A0 || (zQ6 1).all fun A1=>!agr F 1 A1 || (zQ6 2).all fun A2=>!agr F 2 A2 || (zQ6 3).all fun A3=>!agr F 3 A3 ||
 zWg.all fun p=>match zQh F p.1 p.2,xV (R6 p.1 p.2) 6 (zVX A0 A1 A2 A3) 19 0 [(p.1,[6])] [] with
  | some rg,some rg'=>same rg rg' && CL rg'.length 10
  | _,_=>false
theorem c_1:((zGl cd6).all zXN)=true:=by decide +kernel
theorem c_2:((zGl cd6).all yAl)=true:=by decide +kernel
structure Cd(R:Rd)(G:List Nat)(Q:Rd)(g:Nat->Nat):Prop where
 inj:∀x∈G,∀y∈G,g x=g y->x=y
 ends:∀k∈G,(Q.a (g k)=R.a k/\Q.z (g k)=R.z k)\/(Q.a (g k)=R.z k/\Q.z (g k)=R.a k)
theorem wH(p:Nat->Bool):∀l:List Nat,l.filter p∈zGl l
 | []=>BP.mpr rfl
 | a::l=>by
  rw [CK];show _∈zGl l ++ (zGl l).map (a::·);cases p a with
  | true=>exact BR.mpr (.inr (Bm.mpr ⟨_,wH p l,rfl⟩))
  | false=>exact BR.mpr (.inl (wH p l))
section
variable{R Q:Rd}{G S S':List Nat}{g:Nat->Nat}
theorem zVb(C:Cd R G Q g){k:Nat}(hk:k∈G){T:List (Nat×Nat)}(h:tie R k∈T):Rc T (Q.a (g k)) (Q.z (g k)):=by
 rcases C.ends k hk with ⟨e1,e2⟩ | ⟨e1,e2⟩
 ·rw [e1,e2]; exact vY h
 ·rw [e1,e2]; exact (vY h).symm
theorem yBG(C:Cd R G Q g)(hS:∀k∈S,k∈G)(h:∀c,c∈S' ↔ ∃k∈S,g k=c){x y:Nat}:Rc (S'.map (tie Q)) x y ↔ Rc (S.map (tie R)) x y:=by
 constructor
 ·refine vA fun e he=>?_
  obtain ⟨c,hc,rfl⟩:=Bm.mp he;obtain ⟨k,hk,rfl⟩:=(h c).mp hc;exact zVb C (hS k hk) (Bm.mpr ⟨k,hk,rfl⟩)
 ·refine vA fun e he=>?_
  obtain ⟨k,hk,rfl⟩:=Bm.mp he;have m:tie Q (g k)∈S'.map (tie Q):=Bm.mpr ⟨g k,(h _).mpr ⟨k,hk,rfl⟩,rfl⟩;have z:=vY m;rcases C.ends k (hS k hk) with ⟨e1,e2⟩ | ⟨e1,e2⟩
  ·show Rc _ (R.a k) (R.z k)
   rw [<-e1,<-e2]; exact z
  ·show Rc _ (R.a k) (R.z k)
   rw [<-e1,<-e2]; exact z.symm
theorem zQU(C:Cd R G Q g)(hS:∀k∈S,k∈G)(h:∀c,c∈S' ↔ ∃k∈S,g k=c){k:Nat}(hk:k∈G):cnB Q S' (g k)=true ↔ Rc (S.map (tie R)) (R.a k) (R.z k):=by
 unfold cnB;rw [xP,yBG C hS h];rcases C.ends k hk with ⟨e1,e2⟩ | ⟨e1,e2⟩
 ·rw [e1,e2]
 ·rw [e1,e2]; exact ⟨Rc.symm,Rc.symm⟩
theorem zPw(R:Rd)(nw:Nat)(H:List (Nat×Nat)):∀(fu p:Nat) (W:List (Nat×List Nat)) (ring:List Nat),zJb R nw H fu p W ring=xV R nw (zO H) fu p W ring
 | 0,_,_,_=>rfl
 | fu + 1,p,W,ring=>by
  rw [zAj];show (match W[p]? with
   | none=>some ring
   | some e=>zJb R nw H fu (p + 1) (W ++ inL R e.1 e.2 (zO H e.1)) (if BQ e.1 (R.z nw) then e.2 else ring))=_
  cases W[p]? with
  | none=>rfl
  | some e=>exact zPw R nw H fu _ _ _
noncomputable def gW(g:Nat->Nat)(e:Nat×List Nat):Nat×List Nat:=(e.1,e.2.map g)
theorem zTK(hi:∀x∈G,∀y∈G,g x=g y->x=y){w:List Nat}(hw:∀x∈w,x∈G){k:Nat}(hk:k∈G):gIn (w.map g) (g k)=gIn w k:=by
 rw [E8,zT,zT,Bm];constructor
 ·rintro ⟨x,hx,e⟩
  rw [<-hi x (hw x hx) k hk e]; exact hx
 ·exact fun h=>⟨k,h,rfl⟩
theorem zTz(hi:∀x∈G,∀y∈G,g x=g y->x=y){w:List Nat}(hw:∀x∈w,x∈G){k t:Nat}(hk:k∈G)(ho:zBn Q (g k) t=zBn R k t):lyN Q t (w.map g) (g k)=(lyN R t w k).map (gW g):=by
 unfold lyN;rw [zTK hi hw hk,ho];cases gIn w k with
 | true=>rfl
 | false=>
  show [(zBn R k t,w.map g ++ [g k])]=[(zBn R k t,(w ++ [k]).map g)];rw [Bv]; rfl
theorem zLx(hi:∀x∈G,∀y∈G,g x=g y->x=y){w:List Nat}(hw:∀x∈w,x∈G){t:Nat}:∀(l:List Nat),(∀k∈l,k∈G/\zBn Q (g k) t=zBn R k t)->inL Q t (w.map g) (l.map g)=(inL R t w l).map (gW g)
 | [],_=>rfl
 | k::l,h=>by
  have z:=h k (by simp);show EV _ (g k::l.map g)=(EV _ (k::l)).map _;rw [C5,C5,Bv,zTz hi hw z.1 z.2];exact congrArg _ (zLx hi hw l fun x hx=>h x (by simp [hx]))
theorem zLd{w:List Nat}(hw:∀x∈w,x∈G){l:List Nat}(hl:∀k∈l,k∈G){t:Nat}:∀e∈inL R t w l,∀x∈e.2,x∈G:=fun e he x hx=>by
 obtain ⟨k,hk,he⟩:=Cr.mp he;unfold lyN at he;split at he
 ·exact absurd he Ba
 ·rw [BP.mp he] at hx
  rcases BR.mp hx with hx | hx
  ·exact hw x hx
  ·rw [BP.mp hx]; exact hl k hk
theorem zIl{A:Nat->List Nat}{r:Nat}(hi:∀x∈G,∀y∈G,g x=g y->x=y)(hA:∀t k,k∈A t->k∈G/\zBn Q (g k) t=zBn R k t)(hz:Q.z (g r)=R.z r):∀(fu p:Nat) (W:List (Nat×List Nat)) (ring:List Nat),(∀e∈W,∀x∈e.2,x∈G)->
  xV Q (g r) (fun t=>(A t).map g) fu p (W.map (gW g)) (ring.map g)=(xV R r A fu p W ring).map (List.map g)
 | 0,_,_,_,_=>rfl
 | fu + 1,p,W,ring,hW=>by
  rw [zAj,zAj,Bc];cases hc:W[p]? with
  | none=>rfl
  | some e=>
   have he:=BZ hc;show xV Q (g r) _ fu (p + 1) (W.map (gW g) ++ inL Q e.1 (e.2.map g) ((A e.1).map g)) (if BQ e.1 (Q.z (g r)) then e.2.map g else ring.map g)=_;rw [zLx hi (hW e he) _ fun k hk=>hA e.1 k hk,<-Bv,hz,show (if BQ e.1 (R.z r) then e.2.map g else ring.map g)=(if BQ e.1 (R.z r) then e.2 else ring).map g by cases BQ e.1 (R.z r) <;>rfl];exact zIl hi hA hz fu (p + 1) _ _ fun e' he'=>by
    rcases BR.mp he' with h | h
    ·exact hW e' h
    ·exact zLd (hW e he) (fun k hk=>(hA e.1 k hk).1) e' h
theorem zIo{A:Nat->List Nat}{r:Nat}(hA:∀t k,k∈A t->k∈G):∀(fu p:Nat) (W:List (Nat×List Nat)) (ring rg:List Nat),(∀e∈W,∀x∈e.2,x∈G)->(∀x∈ring,x∈G)->xV R r A fu p W ring=some rg->∀x∈rg,x∈G
 | 0,_,_,_,_,_,_,h=>nomatch h
 | fu + 1,p,W,ring,rg,hW,hr,h=>by
  rw [zAj] at h;cases hc:W[p]? with
  | none=>rw [hc] at h; cases h; exact hr
  | some e=>
   rw [hc] at h;have he:=BZ hc;refine zIo hA fu (p + 1) _ _ rg (fun e' he'=>?_) (fun x hx=>?_) h
   ·rcases BR.mp he' with h | h
    ·exact hW e' h
    ·exact zLd (hW e he) (fun k hk=>hA e.1 k hk) e' h
   ·split at hx
    ·exact hW e he x hx
    ·exact hr x hx
theorem zDS(hR:RdOK R){A A':Nat->List Nat}{r:Nat}(hA:∀t,t < 4->A t=A' t):∀(fu p:Nat) (W:List (Nat×List Nat)) (ring:List Nat),(∀e∈W,e.1 < 4)->xV R r A fu p W ring=xV R r A' fu p W ring
 | 0,_,_,_,_=>rfl
 | fu + 1,p,W,ring,hW=>by
  rw [zAj,zAj];cases hc:W[p]? with
  | none=>rfl
  | some e=>
   have he:=hW e (BZ hc);show xV R r A fu (p + 1) (W ++ inL R e.1 e.2 (A e.1)) _=xV R r A' fu (p + 1) (W ++ inL R e.1 e.2 (A' e.1)) _;rw [hA e.1 he];exact zDS hR hA fu (p + 1) _ _ fun e' he'=>by
    rcases BR.mp he' with h | h
    ·exact hW e' h
    ·exact (zKO hR h).1
end
noncomputable def pcN(x y:Nat):Nat:=match x,y with
 | 0,1=>0 | 1,0=>0 | 0,2=>1 | 2,0=>1 | 0,3=>2 | 3,0=>2 | 1,2=>3 | 2,1=>3 | 1,3=>4 | 3,1=>4 | _,_=>5
theorem yBr{x y:Nat}(hx:x < 4)(hy:y < 4)(h:x≠y):pcN x y < 6/\((eA (pcN x y)=x/\eZ (pcN x y)=y)\/(eA (pcN x y)=y/\eZ (pcN x y)=x)):=by
 rcases zI hx with rfl | rfl | rfl | rfl <;>rcases zI hy with rfl | rfl | rfl | rfl <;>first | exact absurd rfl h | decide
theorem zIL:∀(n:Nat) (S l:List Nat),l.Nodup->(∀x∈l,x∈S)->l.length<=n->l∈zX0 n S
 | 0,_,[],_,_,_=>BP.mpr rfl
 | _ + 1,_,[],_,_,_=>CB ..
 | 0,_,_::_,_,_,h=>absurd h (Nat.not_succ_le_zero _)
 | n + 1,S,x::l,hn,hS,h=>by
  obtain ⟨h1,h2⟩:=CG.mp hn;refine Bq _ (Cr.mpr ⟨x,hS x (CB ..),Bm.mpr ⟨l,zIL n _ l h2 (fun y hy=>Bj.mpr ⟨hS y (Bq _ hy),?_⟩) (Nat.le_of_succ_le_succ h),rfl⟩⟩);cases hb:BQ y x with
  | true=>exact absurd (Bg hb▸hy) h1
  | false=>rfl
theorem zTL{t:Nat}(ht:t < 4):(cdT t).length=3:=by
 rcases zI ht with rfl | rfl | rfl | rfl <;>rfl
theorem zSj{t c:Nat}(ht:t < 4)(hc:c < 6)(h:inc t c=true):c∈cdT t:=by
 have hc':c=0\/c=1\/c=2\/c=3\/c=4\/c=5:=by lia
 revert h
 rcases zI ht with rfl | rfl | rfl | rfl <;>rcases hc' with rfl | rfl | rfl | rfl | rfl | rfl <;>decide
theorem zSf{t c:Nat}(ht:t < 4)(h:c∈cdT t):eA c=t\/eZ c=t:=by
 revert h
 rcases zI ht with rfl | rfl | rfl | rfl <;>simp only [cdT,Bl,Ba,_root_.or_false] <;>rintro (rfl | rfl | rfl) <;>decide
theorem zTf{c:Nat}(hc:c < 6):c∈cd6:=by
 have hc':c=0\/c=1\/c=2\/c=3\/c=4\/c=5:=by lia
 rcases hc' with rfl | rfl | rfl | rfl | rfl | rfl <;>decide
theorem zYH{x y:Nat}(hx:x < 4)(hy:y < 4)(h:x≠y):(x,y)∈zWg:=by
 rcases zI hx with rfl | rfl | rfl | rfl <;>rcases zI hy with rfl | rfl | rfl | rfl <;>first | exact absurd rfl h | decide
noncomputable def gC_(R:Rd)(r k:Nat):Nat:=if BQ k r then 6 else pcN (R.a k) (R.z k)
structure Fst(R:Rd)(F:List Nat)(r:Nat)(H:List (Nat×Nat)):Prop where
 ok:RdOK R
 ne:∀k,k < 5->R.a k≠R.z k
 nd:F.Nodup
 lt:∀k∈F,k < 5
 r5:r < 6
 rF:r ∉ F
 ac:∀k∈F,¬Rc ((exc F k).map (tie R)) (R.a k) (R.z k)
 hn:H.Nodup
 hm:∀e,e∈H ↔ ∃k∈F,e=(R.a k,k)\/e=(R.z k,k)
theorem yO{F:List Nat}{x k:Nat}:x∈exc F k ↔ x∈F/\x≠k:=by
 unfold exc;rw [Bj];constructor
 ·rintro ⟨h1,h2⟩
  exact ⟨h1,fun e=>by rw [e,CQ] at h2; cases h2⟩
 ·rintro ⟨h1,h2⟩
  refine ⟨h1,?_⟩;cases hb:BQ x k with
  | true=>exact absurd (Bg hb) h2
  | false=>rfl
theorem zBy{x y:Nat}(h:x≠y):BQ x y=false:=by
 cases hb:BQ x y with
 | true=>exact absurd (Bg hb) h
 | false=>rfl
section
variable{R:Rd}{F:List Nat}{r:Nat}{H:List (Nat×Nat)}
theorem g_r:gC_ R r r=6:=by unfold gC_; rw [CQ]; rfl
theorem g_F(f:Fst R F r H){k:Nat}(hk:k∈F):gC_ R r k=pcN (R.a k) (R.z k):=by
 unfold gC_;rw [zBy fun e=>f.rF (by rw [<-e]; exact hk)]; rfl
theorem zIE(f:Fst R F r H){k:Nat}(hk:k∈F):gC_ R r k < 6/\((eA (gC_ R r k)=R.a k/\eZ (gC_ R r k)=R.z k)\/(eA (gC_ R r k)=R.z k/\eZ (gC_ R r k)=R.a k)):=by
 rw [g_F f hk];exact yBr (f.ok.a k) (f.ok.z k) (f.ne k (f.lt k hk))
theorem zI2(f:Fst R F r H){x y:Nat}(hx:x∈F)(hy:y∈F)(e:gC_ R r x=gC_ R r y):x=y:=by
 by_cases h:x=y
 ·exact h
 exfalso
 have ht:tie R y∈(exc F x).map (tie R):=Bm.mpr ⟨y,yO.mpr ⟨hy,fun e=>h e.symm⟩,rfl⟩;have z:=vY ht;refine f.ac x hx ?_;rcases (zIE f hx).2 with ⟨a1,a2⟩ | ⟨a1,a2⟩ <;>rcases (zIE f hy).2 with ⟨b1,b2⟩ | ⟨b1,b2⟩ <;>rw [e] at a1 a2
 ·rw [<-a1,<-a2,b1,b2]; exact z
 ·rw [<-a1,<-a2,b1,b2]; exact z.symm
 ·rw [<-a1,<-a2,b1,b2]; exact z.symm
 ·rw [<-a1,<-a2,b1,b2]; exact z
theorem zZI{u v c:Nat}(h:c < 6):(R6 u v).a c=eA c/\(R6 u v).z c=eZ c:=by
 have:BQ c 6=false:=zBy (by lia);constructor
 ·show (if BQ c 6 then u else eA c)=_; rw [this]; rfl
 ·show (if BQ c 6 then v else eZ c)=_; rw [this]; rfl
theorem zW8(f:Fst R F r H)(u v:Nat):Cd R F (R6 u v) (gC_ R r) where
 inj:=fun x hx y hy e=>zI2 f hx hy e
 ends:=fun k hk=>by
  obtain ⟨h1,h2⟩:=zIE f hk;obtain ⟨e1,e2⟩:=zZI (u:=u) (v:=v) h1;rw [e1,e2]; exact h2
theorem zH5(f:Fst R F r H):Cd R (F ++ [r]) (R6 (R.a r) (R.z r)) (gC_ R r) where
 inj:=fun x hx y hy e=>by
  rcases BR.mp hx with hx | hx <;>rcases BR.mp hy with hy | hy
  ·exact zI2 f hx hy e
  ·rw [BP.mp hy,g_r] at e
   have:=(zIE f hx).1
   lia
  ·rw [BP.mp hx,g_r] at e
   have:=(zIE f hy).1
   lia
  ·rw [BP.mp hx,BP.mp hy]
 ends:=fun k hk=>by
  rcases BR.mp hk with hk | hk
  ·exact (zW8 f _ _).ends k hk
  ·rw [BP.mp hk,g_r]; exact .inl ⟨rfl,rfl⟩
noncomputable def fC(R:Rd)(F:List Nat)(r:Nat):List Nat:=cd6.filter (gIn (F.map (gC_ R r)))
theorem zDR(f:Fst R F r H){c:Nat}:c∈fC R F r ↔ ∃k∈F,gC_ R r k=c:=by
 unfold fC;rw [Bj,zT,Bm];constructor
 ·exact fun h=>h.2
 ·rintro ⟨k,hk,rfl⟩
  exact ⟨zTf (zIE f hk).1,k,hk,rfl⟩
theorem zXI(f:Fst R F r H){k c:Nat}(hk:k∈F):c∈exc (fC R F r) (gC_ R r k) ↔ ∃x∈exc F k,gC_ R r x=c:=by
 rw [yO,zDR f];constructor
 ·rintro ⟨⟨x,hx,rfl⟩,h⟩
  exact ⟨x,yO.mpr ⟨hx,fun e=>h (by rw [e])⟩,rfl⟩
 ·rintro ⟨x,hx,rfl⟩
  obtain ⟨h1,h2⟩:=yO.mp hx;exact ⟨⟨x,h1,rfl⟩,fun e=>h2 (zI2 f h1 hk e)⟩
theorem zU6(f:Fst R F r H):zLe (R6 0 0) (fC R F r)=true:=by
 unfold zLe;rw [BV];intro c hc;obtain ⟨k,hk,rfl⟩:=(zDR f).mp hc;have z:=zQU (zW8 f 0 0) (S:=exc F k) (S':=exc (fC R F r) (gC_ R r k)) (fun x hx=>(yO.mp hx).1) (fun c=>zXI f hk) hk;cases hb:cnB (R6 0 0) (exc (fC R F r) (gC_ R r k)) (gC_ R r k) with
 | true=>exact absurd (z.mp hb) (f.ac k hk)
 | false=>rfl
theorem zJs:fC R F r∈zGl cd6:=wH _ _
theorem zZF(f:Fst R F r H):F.length<=3:=by
 have c:=BV.mp c_1 _ (zJs (R:=R) (F:=F) (r:=r));unfold zXN at c;rw [zU6 f] at c;have c:=(Bd.mp c).1;have c:=C9 c;have n:(F.map (gC_ R r)).Nodup:=by
  have:∀{l:List Nat},l.Nodup->(∀x∈l,x∈F)->(l.map (gC_ R r)).Nodup:=fun {l}=>by
   induction l with
   | nil=>exact fun _ _=>CH
   | cons a l ih=>
    intro hn h;obtain ⟨h1,h2⟩:=CG.mp hn;refine CG.mpr ⟨fun hm=>?_,ih h2 fun x hx=>h x (by simp [hx])⟩;obtain ⟨x,hx,e⟩:=Bm.mp hm;exact h1 (zI2 f (h x (by simp [hx])) (h a (by simp)) e▸hx)
  exact this f.nd fun x hx=>hx
 have z:=wD n (m:=fC R F r) fun x hx=>by
  obtain ⟨k,hk,rfl⟩:=Bm.mp hx;exact (zDR f).mpr ⟨k,hk,rfl⟩
 rw [BW] at z;exact Bn z c
end
section
variable{R:Rd}{F:List Nat}{r:Nat}{H:List (Nat×Nat)}
theorem zHi{H:List (Nat×Nat)}{t k:Nat}:k∈zO H t ↔ (t,k)∈H:=by
 unfold zO atT;rw [Bm];constructor
 ·rintro ⟨e,he,rfl⟩
  obtain ⟨h1,h2⟩:=Bj.mp he;have:=Bg h2;rw [<-this]; exact h1
 ·exact fun h=>⟨(t,k),Bj.mpr ⟨h,CQ t⟩,rfl⟩
theorem zDJ{t:Nat}:∀{H:List (Nat×Nat)},H.Nodup->(zO H t).Nodup
 | [],_=>CH
 | e::H,h=>by
  obtain ⟨h1,h2⟩:=CG.mp h;have ih:=zDJ (t:=t) h2;have eq:zO (e::H) t=if BQ e.1 t then e.2::zO H t else zO H t:=by
   unfold zO atT;rw [CK];cases BQ e.1 t <;>rfl
  rw [eq];cases hb:BQ e.1 t with
  | true=>
   refine CG.mpr ⟨fun hm=>h1 ?_,ih⟩;have:=zHi.mp hm;rw [<-Bg hb] at this;exact this
  | false=>exact ih
theorem zML(f:Fst R F r H){t k:Nat}:k∈zO H t ↔ k∈F/\(t=R.a k\/t=R.z k):=by
 rw [zHi,f.hm];constructor
 ·rintro ⟨x,hx,h | h⟩
  ·injection h with h1 h2; subst h2; exact ⟨hx,.inl h1⟩
  ·injection h with h1 h2; subst h2; exact ⟨hx,.inr h1⟩
 ·rintro ⟨hk,h | h⟩
  ·exact ⟨k,hk,.inl (by rw [h])⟩
  ·exact ⟨k,hk,.inr (by rw [h])⟩
theorem zFB(f:Fst R F r H):∀{l:List Nat},l.Nodup->(∀x∈l,x∈F)->(l.map (gC_ R r)).Nodup
 | [],_,_=>CH
 | a::l,hn,h=>by
  obtain ⟨h1,h2⟩:=CG.mp hn;refine CG.mpr ⟨fun hm=>?_,zFB f h2 fun x hx=>h x (by simp [hx])⟩;obtain ⟨x,hx,e⟩:=Bm.mp hm;exact h1 (zI2 f (h x (by simp [hx])) (h a (by simp)) e▸hx)
noncomputable def aC(R:Rd)(r:Nat)(H:List (Nat×Nat))(t:Nat):List Nat:=(zO H t).map (gC_ R r)
theorem zO8(f:Fst R F r H){t c:Nat}(h:c∈aC R r H t):c < 6/\inc t c=true:=by
 obtain ⟨k,hk,rfl⟩:=Bm.mp h;obtain ⟨h1,h2⟩:=(zML f).mp hk;obtain ⟨p1,p2⟩:=zIE f h1;refine ⟨p1,?_⟩;unfold inc;rw [DU,Nat.beq_eq,Nat.beq_eq];rcases p2 with ⟨a1,a2⟩ | ⟨a1,a2⟩ <;>rcases h2 with h2 | h2
 ·exact .inl (a1.trans h2.symm)
 ·exact .inr (a2.trans h2.symm)
 ·exact .inr (a2.trans h2.symm)
 ·exact .inl (a1.trans h2.symm)
theorem zGc(f:Fst R F r H){t:Nat}(ht:t < 4):aC R r H t∈zQ6 t:=by
 have n:(aC R r H t).Nodup:=zFB f (zDJ f.hn) fun x hx=>((zML f).mp hx).1;have h:∀c∈aC R r H t,c∈cdT t:=fun c hc=>zSj ht (zO8 f hc).1 (zO8 f hc).2;exact zIL 3 _ _ n h (zTL ht▸wD n h)
theorem zGu(f:Fst R F r H){t:Nat}(ht:t < 4):agr (fC R F r) t (aC R r H t)=true:=by
 unfold agr;rw [BV];intro c hc;rw [beq_iff_eq,E8,zT,zT,zDR f];unfold aC;rw [Bm];constructor
 ·rintro ⟨k,hk,rfl⟩
  refine ⟨k,(zML f).mpr ⟨hk,?_⟩,rfl⟩;have i:=zSf ht hc;rcases (zIE f hk).2 with ⟨a1,a2⟩ | ⟨a1,a2⟩ <;>rw [a1,a2] at i
  ·exact i.elim (fun h=> .inl h.symm) fun h=> .inr h.symm
  ·exact i.elim (fun h=> .inr h.symm) fun h=> .inl h.symm
 ·rintro ⟨k,hk,rfl⟩
  exact ⟨k,((zML f).mp hk).1,rfl⟩
theorem zXG(f:Fst R F r H){t k:Nat}(h:k∈zO H t):zBn (R6 (R.a r) (R.z r)) (gC_ R r k) t=zBn R k t:=by
 obtain ⟨hk,ht⟩:=(zML f).mp h;have n:=f.ne k (f.lt k hk);unfold zBn zGn;rcases (zW8 f (R.a r) (R.z r)).ends k hk with ⟨e1,e2⟩ | ⟨e1,e2⟩ <;>rw [e1,e2]
 rcases ht with rfl | rfl
 ·rw [zBy fun e=>n e.symm,CQ]; rfl
 ·rw [zBy n,CQ]; rfl
theorem yAA(hR:RdOK R):RdOK (R6 (R.a r) (R.z r)) where
 a:=fun c=>by
  show (if BQ c 6 then R.a r else eA c) < 4;split
  ·exact hR.a r
  ·unfold eA; split <;>decide
 z:=fun c=>by
  show (if BQ c 6 then R.z r else eZ c) < 4;split
  ·exact hR.z r
  ·unfold eZ; split <;>decide
theorem zS4{A:Nat->List Nat}{t:Nat}(ht:t < 4):A t=zVX (A 0) (A 1) (A 2) (A 3) t:=by
 rcases zI ht with rfl | rfl | rfl | rfl <;>rfl
structure RgOK(R:Rd)(G rg:List Nat):Prop where
 sub:∀x∈rg,x∈G
 len:rg.length<=10
 yes:∀k∈G,k∈rg->∀S:Nat->Bool,S k=false->(Rc ((G.filter S).map (tie R)) (R.a k) (R.z k) ↔ ∀x∈rg,x=k\/S x=true)
 no:∀k∈G,k ∉ rg->¬Rc ((exc G k).map (tie R)) (R.a k) (R.z k)
theorem zPU{l:List Nat}{x:Nat}(h:x ∉ l):gIn l x=false:=by
 cases hb:gIn l x with
 | true=>exact absurd (zT.mp hb) h
 | false=>rfl
theorem zT6(f:Fst R F r H)(h5:r < 5):∃rg,zJb R r H 19 0 [(R.a r,[r])] []=some rg/\RgOK R (F ++ [r]) rg:=by
 have hr:=f.ne r h5;have huv:=zYH (f.ok.a r) (f.ok.z r) hr;have c1:=BV.mp c_1 _ (zJs (R:=R) (F:=F) (r:=r));have c2:=BV.mp c_2 _ (zJs (R:=R) (F:=F) (r:=r));unfold zXN at c1;unfold yAl at c2;rw [zU6 f] at c1 c2;have c1:=BV.mp (Bd.mp c1).2 _ huv;have c2:=BV.mp c2 _ (zGc f (t:=0) (by decide));rw [zGu f (by decide)] at c2;have c2:=BV.mp c2 _ (zGc f (t:=1) (by decide));rw [zGu f (by decide)] at c2;have c2:=BV.mp c2 _ (zGc f (t:=2) (by decide));rw [zGu f (by decide)] at c2;have c2:=BV.mp c2 _ (zGc f (t:=3) (by decide));rw [zGu f (by decide)] at c2;have c2:=BV.mp c2 _ huv;dsimp only at c1 c2;have q6:=yAA (r:=r) f.ok;have hA:∀t k,k∈zO H t->k∈F ++ [r]/\zBn (R6 (R.a r) (R.z r)) (gC_ R r k) t=zBn R k t:=fun t k hk=>⟨BR.mpr (.inl ((zML f).mp hk).1),zXG f hk⟩;have hrG:r∈F ++ [r]:=by simp
 have m:=zIl (Q:=R6 (R.a r) (R.z r)) (zH5 f).inj hA (by rw [g_r]; rfl) 19 0 [(R.a r,[r])] [] (fun e he x hx=>by rw [BP.mp he] at hx; rw [BP.mp hx]; exact hrG);have e0:[(R.a r,[r])].map (gW (gC_ R r))=[(R.a r,[6])]:=by show [(R.a r,[gC_ R r r])]=_; rw [g_r]
 rw [e0,g_r] at m;have m2:=zDS q6 (A:=aC R r H) (A':=zVX (aC R r H 0) (aC R r H 1) (aC R r H 2) (aC R r H 3)) (r:=6) (fun t ht=>zS4 (A:=aC R r H) ht) 19 0 [(R.a r,[6])] [] (fun e he=>by rw [BP.mp he]; exact f.ok.a r);have m3:=m2.symm.trans m;cases hc:zQh (fC R F r) (R.a r) (R.z r) with
 | none=>rw [hc] at c1; cases c1
 | some rgc=>
  rw [hc] at c1 c2;cases hl:xV R r (zO H) 19 0 [(R.a r,[r])] [] with
  | none=>rw [hl] at m3; rw [m3] at c2; cases c2
  | some rg=>
   rw [hl] at m3;rw [m3] at c2;dsimp only [Option.map_some] at c1 c2;refine zF c2 fun c2 c2l=>?_;have c2l:=C9 c2l;rw [BW] at c2l;have sub:=zIo (G:=F ++ [r]) (fun t k hk=>(hA t k hk).1) 19 0 [(R.a r,[r])] [] rg (fun e he x hx=>by rw [BP.mp he] at hx; rw [BP.mp hx]; exact hrG) (fun x hx=>absurd hx Ba) hl;have sm:∀c,c∈rgc ↔ c∈rg.map (gC_ R r):=fun c=>by
    unfold same at c2;refine zF c2 fun s1 s2=>?_;exact ⟨fun h=>zT.mp (BV.mp s1 c h),fun h=>zT.mp (BV.mp s2 c h)⟩
   have smk:∀k,k∈F ++ [r]->(gC_ R r k∈rgc ↔ k∈rg):=fun k hk=>by
    rw [sm,Bm];constructor
    ·rintro ⟨x,hx,e⟩
     rw [<-(zH5 f).inj x (sub x hx) k hk e]; exact hx
    ·exact fun h=>⟨k,h,rfl⟩
   have gm:∀c,c∈fC R F r ++ [6] ↔ ∃k∈F ++ [r],gC_ R r k=c:=fun c=>by
    rw [BR,zDR f,BP];constructor
    ·rintro (⟨k,hk,rfl⟩ | rfl)
     ·exact ⟨k,BR.mpr (.inl hk),rfl⟩
     ·exact ⟨r,hrG,g_r⟩
    ·rintro ⟨k,hk,rfl⟩
     rcases BR.mp hk with hk | hk
     ·exact .inl ⟨k,hk,rfl⟩
     ·rw [BP.mp hk]; exact .inr g_r
   unfold zUG at c1;refine zF c1 fun _ c1=>?_;refine ⟨rg,(zPw ..).trans hl,sub,c2l,fun k hk hkr S hS=>?_,fun k hk hkr=>?_⟩
   ·have d:=BV.mp c1 (gC_ R r k) ((gm _).mpr ⟨k,hk,rfl⟩)
    rw [zT.mpr ((smk k hk).mpr hkr)] at d;dsimp only at d;have hS':∀c,c∈(exc (fC R F r ++ [6]) (gC_ R r k)).filter (gIn (((F ++ [r]).filter S).map (gC_ R r))) ↔ ∃x∈(F ++ [r]).filter S,gC_ R r x=c:=fun c=>by
     rw [Bj,zT,Bm,yO,gm];constructor
     ·exact fun h=>h.2
     ·rintro ⟨x,hx,rfl⟩
      obtain ⟨x1,x2⟩:=Bj.mp hx;refine ⟨⟨⟨x,x1,rfl⟩,fun e=>?_⟩,x,hx,rfl⟩;have:=(zH5 f).inj x x1 k hk e;rw [this,hS] at x2;cases x2
    have d:=BV.mp d _ (wH (gIn (((F ++ [r]).filter S).map (gC_ R r))) _);rw [beq_iff_eq,E8,zQU (zH5 f) (fun x hx=>(Bj.mp hx).1) hS' hk,BV] at d;rw [d];constructor
    ·intro h x hx
     have h1:=h (gC_ R r x) ((smk x (sub x hx)).mpr hx);rcases CI.mp h1 with h1 | h1
     ·exact .inl ((zH5 f).inj x (sub x hx) k hk (Bg h1))
     ·obtain ⟨y,hy,e⟩:=(hS' _).mp (zT.mp h1)
      obtain ⟨y1,y2⟩:=Bj.mp hy;rw [(zH5 f).inj y y1 x (sub x hx) e] at y2;exact .inr y2
    ·intro h c hc
     obtain ⟨x,hx,rfl⟩:=Bm.mp ((sm c).mp hc);rcases h x hx with rfl | h
     ·exact CI.mpr (.inl (CQ _))
     ·exact CI.mpr (.inr (zT.mpr ((hS' _).mpr ⟨x,Bj.mpr ⟨sub x hx,h⟩,rfl⟩)))
   ·have d:=BV.mp c1 (gC_ R r k) ((gm _).mpr ⟨k,hk,rfl⟩)
    rw [zPU fun h=>hkr ((smk k hk).mp h)] at d;dsimp only at d;intro z;have z:=(zQU (zH5 f) (S:=exc (F ++ [r]) k) (S':=exc (fC R F r ++ [6]) (gC_ R r k)) (fun x hx=>(yO.mp hx).1) (fun c=>by
     rw [yO,gm];constructor
     ·rintro ⟨⟨x,hx,rfl⟩,h⟩
      exact ⟨x,yO.mpr ⟨hx,fun e=>h (by rw [e])⟩,rfl⟩
     ·rintro ⟨x,hx,rfl⟩
      obtain ⟨h1,h2⟩:=yO.mp hx;exact ⟨⟨x,h1,rfl⟩,fun e=>h2 ((zH5 f).inj x h1 k hk e)⟩) hk).mpr z
    rw [z] at d;cases d
end
theorem zKY{w t:Nat}{H:List (Nat×Nat)}{e:Nat×Nat}:e∈uG w t H ↔ e∈H/\¬(e.1=t/\e.2=w):=by
 unfold uG;rw [BR,Bm];constructor
 ·rintro (h | ⟨r,hr,rfl⟩)
  ·obtain ⟨h1,h2⟩:=Bj.mp h
   exact ⟨h1,fun z=>by rw [z.1,CQ] at h2; cases h2⟩
  ·obtain ⟨h1,h2⟩:=Bj.mp hr
   exact ⟨zHi.mp h1,fun z=>by have z2:r=w:=z.2; rw [z2,CQ] at h2; cases h2⟩
 ·rintro ⟨h1,h2⟩
  by_cases ht:e.1=t
  ·refine .inr ⟨e.2,Bj.mpr ⟨zHi.mpr (by rw [<-ht]; exact h1),?_⟩,by rw [<-ht]⟩
   rw [zBy fun z=>h2 ⟨ht,z⟩]; rfl
  ·exact .inl (Bj.mpr ⟨h1,by rw [zBy ht]; rfl⟩)
theorem zEy{w t:Nat}{H:List (Nat×Nat)}(h:H.Nodup):(uG w t H).Nodup:=by
 unfold uG;refine D0.mpr ⟨h.filter _,?_,?_⟩
 ·have:∀{l:List Nat},l.Nodup->(l.map fun r=>(t,r)).Nodup:=fun {l}=>by
   induction l with
   | nil=>exact fun _=>CH
   | cons a l ih=>
    intro hn;obtain ⟨h1,h2⟩:=CG.mp hn;refine CG.mpr ⟨fun hm=>?_,ih h2⟩;obtain ⟨x,hx,e⟩:=Bm.mp hm;injection e with _ e
    exact h1 (e▸hx)
  exact this ((zDJ h).filter _)
 ·rintro e he e' he' rfl
  obtain ⟨r,_,rfl⟩:=Bm.mp he';have:=(Bj.mp he).2;rw [CQ] at this;cases this
structure LyInv(R:Rd)(ls:List Nat)(H:List (Nat×Nat)):Prop where
 lt:∀k∈ls,k < 5
 nd:ls.Nodup
 hn:H.Nodup
 hm:∀e,e∈H ↔ ∃k∈qP R ls,e=(R.a k,k)\/e=(R.z k,k)
 ac:∀k∈qP R ls,¬Rc ((exc (qP R ls) k).map (tie R)) (R.a k) (R.z k)
theorem yBh(R:Rd):LyInv R [] [] where
 lt:=fun k h=>absurd h Ba
 nd:=CH
 hn:=CH
 hm:=fun e=>⟨fun h=>absurd h Ba,fun ⟨k,h,_⟩=>absurd h Ba⟩
 ac:=fun k h=>absurd h Ba
section
variable{R:Rd}{ls rg:List Nat}{H:List (Nat×Nat)}{r:Nat}
theorem zA3{k:Nat}(h:k∈qP R ls):k∈ls:=(Bj.mp h).1
theorem zMc(hR:RdOK R)(hne:∀k,k < 5->R.a k≠R.z k)(I:LyInv R ls H)(h6:r < 6)(hr:r ∉ ls):Fst R (qP R ls) r H where
 ok:=hR
 ne:=hne
 nd:=I.nd.filter _
 lt:=fun k hk=>I.lt k (zA3 hk)
 r5:=h6
 rF:=fun h=>hr (zA3 h)
 ac:=I.ac
 hn:=I.hn
 hm:=I.hm
theorem wI(hR:RdOK R)(G:RgOK R (qP R ls ++ [r]) rg){k:Nat}:k∈qP R (ls ++ [r]) ↔ k∈qP R ls ++ [r]/\(rg=[]\/k≠kZ R rg):=by
 have hw:rg≠[]->kZ R rg∈rg:=zCU;have sk:(fun o=>ltP (rkP R o) (rkP R k)) k=false:=by
  cases hb:ltP (rkP R k) (rkP R k) with
  | true=>exact absurd (kO.mp hb) zHo
  | false=>exact hb
 have key:k∈qP R ls ++ [r]->(¬Rc (zV R (qP R ls ++ [r]) (rkP R k)) (R.a k) (R.z k) ↔ (rg=[]\/k≠kZ R rg)):=fun hk=>by
  by_cases hkr:k∈rg
  ·have hne:rg≠[]:=fun e=>by rw [e] at hkr; exact absurd hkr Ba
   have y:=G.yes k hk hkr (fun o=>ltP (rkP R o) (rkP R k)) sk;have y':Rc (zV R (qP R ls ++ [r]) (rkP R k)) (R.a k) (R.z k) ↔ _:=y;rw [y'];constructor
   ·intro h
    refine .inr fun e=>h fun x hx=>?_;rcases zLl (R:=R) hx with h1 | h1
    ·exact .inl (h1.trans e.symm)
    ·rw [<-e] at h1; exact .inr (kO.mpr h1)
   ·rintro (h | h) z
    ·exact hne h
    ·rcases z _ (hw hne) with h1 | h1
     ·exact h h1.symm
     ·rcases zLl (R:=R) hkr with h2 | h2
      ·exact h h2
      ·exact zHo (uY h2 (kO.mp h1))
  ·constructor
   ·intro _
    by_cases hne:rg=[]
    ·exact .inl hne
    ·exact .inr fun e=>hkr (e▸hw hne)
   ·intro _ z
    refine G.no k hk hkr (vT (fun e he=>?_) z);obtain ⟨o,ho,h2,rfl⟩:=yQ.mp he;exact Bm.mpr ⟨o,yO.mpr ⟨ho,fun e=>zHo (e▸h2:rl R k k)⟩,rfl⟩
 constructor
 ·intro h
  obtain ⟨h1,h2⟩:=Bj.mp h;obtain ⟨h3,h4⟩:=(zHH hR h1).mp h2;exact ⟨h3,(key h3).mp h4⟩
 ·rintro ⟨h3,h4⟩
  have h1:k∈ls ++ [r]:=by
   rcases BR.mp h3 with h | h
   ·exact BR.mpr (.inl (zA3 h))
   ·exact BR.mpr (.inr h)
  exact Bj.mpr ⟨h1,(zHH hR h1).mpr ⟨h3,(key h3).mpr h4⟩⟩
theorem zNI(f:Fst R (qP R ls) r H){e:Nat×Nat}:e∈H ++ [(R.a r,r)] ++ [(R.z r,r)] ↔ ∃k∈qP R ls ++ [r],e=(R.a k,k)\/e=(R.z k,k):=by
 rw [BR,BR,f.hm,BP,BP];constructor
 ·rintro ((⟨k,hk,h⟩ | h) | h)
  ·exact ⟨k,BR.mpr (.inl hk),h⟩
  ·exact ⟨r,by simp,.inl h⟩
  ·exact ⟨r,by simp,.inr h⟩
 ·rintro ⟨k,hk,h⟩
  rcases BR.mp hk with hk | hk
  ·exact .inl (.inl ⟨k,hk,h⟩)
  ·rw [BP.mp hk] at h
   rcases h with h | h
   ·exact .inl (.inr h)
   ·exact .inr h
theorem zHV(f:Fst R (qP R ls) r H)(h5:r < 5):(H ++ [(R.a r,r)] ++ [(R.z r,r)]).Nodup:=by
 have no:∀t,(t,r) ∉ H:=fun t h=>by
  obtain ⟨k,hk,h | h⟩:=(f.hm _).mp h
  ·injection h with _ h; exact f.rF (h▸hk)
  ·injection h with _ h; exact f.rF (h▸hk)
 refine D0.mpr ⟨D0.mpr ⟨f.hn,by simp,?_⟩,by simp,?_⟩
 ·rintro e he e' he' rfl
  rw [BP.mp he'] at he;exact no _ he
 ·rintro e he e' he' rfl
  rw [BP.mp he'] at he;rcases BR.mp he with he | he
  ·exact no _ he
  ·have:=BP.mp he
   injection this with h _
   exact f.ne r h5 h.symm
theorem zUk(hR:RdOK R)(f:Fst R (qP R ls) r H)(G:RgOK R (qP R ls ++ [r]) rg)(e:Nat×Nat):e∈zIe R r rg H ↔ ∃k∈qP R (ls ++ [r]),e=(R.a k,k)\/e=(R.z k,k):=by
 cases hrg:rg with
 | nil=>
  show e∈H ++ [(R.a r,r)] ++ [(R.z r,r)] ↔ _;rw [zNI f];constructor
  ·rintro ⟨k,hk,h⟩
   exact ⟨k,(wI hR G).mpr ⟨hk,.inl hrg⟩,h⟩
  ·rintro ⟨k,hk,h⟩
   exact ⟨k,((wI hR G).mp hk).1,h⟩
 | cons x l=>
  have e0:zIe R r (x::l) H=uG (kZ R rg) (R.z (kZ R rg)) (uG (kZ R rg) (R.a (kZ R rg)) (H ++ [(R.a r,r)] ++ [(R.z r,r)])):=by rw [hrg]; rfl
  rw [e0,zKY,zKY,zNI f];have hne:rg≠[]:=by rw [hrg]; exact List.cons_ne_nil _ _
  constructor
  ·rintro ⟨⟨⟨k,hk,h⟩,n1⟩,n2⟩
   refine ⟨k,(wI hR G).mpr ⟨hk,.inr fun ew=>?_⟩,h⟩;rcases h with h | h
   ·exact n1 (by rw [h,ew]; exact ⟨rfl,rfl⟩)
   ·exact n2 (by rw [h,ew]; exact ⟨rfl,rfl⟩)
  ·rintro ⟨k,hk,h⟩
   obtain ⟨h1,h2⟩:=(wI hR G).mp hk;have h2:=h2.resolve_left hne;have ek:e.2=k:=by rcases h with h | h <;>rw [h]
   exact ⟨⟨⟨k,h1,h⟩,fun z=>h2 (ek.symm.trans z.2)⟩,fun z=>h2 (ek.symm.trans z.2)⟩
theorem zMr(f:Fst R (qP R ls) r H)(h5:r < 5):(zIe R r rg H).Nodup:=by
 cases rg with
 | nil=>exact zHV f h5
 | cons x l=>exact zEy (zEy (zHV f h5))
theorem zQ0(hR:RdOK R)(I:LyInv R ls H)(f:Fst R (qP R ls) r H)(h5:r < 5)(hr:r ∉ ls)(G:RgOK R (qP R ls ++ [r]) rg):LyInv R (ls ++ [r]) (zIe R r rg H) where
 lt:=fun k hk=>by
  rcases BR.mp hk with h | h
  ·exact I.lt k h
  ·rw [BP.mp h]; exact h5
 nd:=D0.mpr ⟨I.nd,by simp,by rintro a ha b hb rfl; rw [BP.mp hb] at ha; exact hr ha⟩
 hn:=zMr f h5
 hm:=zUk hR f G
 ac:=fun k hk z=>by
  obtain ⟨h1,h2⟩:=(wI hR G).mp hk
  by_cases hkr:k∈rg
  ·have hne:rg≠[]:=fun e=>by rw [e] at hkr; exact absurd hkr Ba
   have h2:=h2.resolve_left hne;have y:=(G.yes k h1 hkr (gIn (exc (qP R (ls ++ [r])) k)) (zPU fun h=>(yO.mp h).2 rfl)).mp (vT (fun e he=>by
    obtain ⟨x,hx,rfl⟩:=Bm.mp he;exact Bm.mpr ⟨x,Bj.mpr ⟨((wI hR G).mp (yO.mp hx).1).1,zT.mpr hx⟩,rfl⟩) z)
   rcases y _ (zCU (R:=R) hne) with h | h
   ·exact h2 h.symm
   ·exact ((wI hR G).mp (yO.mp (zT.mp h)).1).2.elim hne fun h=>h rfl
  ·refine G.no k h1 hkr (vT (fun e he=>?_) z)
   obtain ⟨x,hx,rfl⟩:=Bm.mp he;obtain ⟨x1,x2⟩:=yO.mp hx;exact Bm.mpr ⟨x,yO.mpr ⟨((wI hR G).mp x1).1,x2⟩,rfl⟩
end
noncomputable def kyT(t:Nat):Nat:=match t with | 0=>0 | 1=>1 | 2=>3 | _=>2
noncomputable def kyN(e:Nat×Nat):Nat:=kyT e.1 * 5 + e.2
noncomputable def zPl:List (Nat×Nat):=lt4.flatMap fun t=>lt5.map fun r=>(t,r)
noncomputable def enL(e:Nat×Nat):List V:=[.str (zA (twN e.1)),.str (zA [97 + e.2])]
noncomputable def yCW:Bool:=zPl.all fun e=>zPl.all fun d=>ltL (enL e) (enL d)==some (Cn (kyN e) (kyN d))
theorem zV6:yCW=true:=by decide +kernel
theorem zEK{e:Nat×Nat}(h:Ent e):e∈zPl:=Cr.mpr ⟨e.1,xK h.1,Bm.mpr ⟨e.2,zM h.2,rfl⟩⟩
theorem zVY{e d:Nat×Nat}(he:Ent e)(hd:Ent d):ltL (enL e) (enL d)=some (Cn (kyN e) (kyN d)):=by
 have h:=BV.mp (BV.mp zV6 e (zEK he)) d (zEK hd);exact Bo h
noncomputable def zJ4(E:List (Nat×Nat)):Nat->Nat->Nat->Bool
 | 0,x,y=>BQ x y
 | k + 1,x,y=>BQ x y || E.any fun e=>BQ e.1 x && zJ4 E k e.2 y
noncomputable def yCx(E:List (Nat×Nat)):Bool:=E.any fun e=>zJ4 E 5 e.2 e.1
noncomputable def yDc(E:List (Nat×Nat))(x y:Nat):Bool:=E.any fun e=>BQ e.1 x && BQ e.2 y
noncomputable def zJX(E:List (Nat×Nat)):List Nat->Bool
 | []=>true
 | x::l=>(match l with | []=>true | y::_=>yDc E x y) && zJX E l
noncomputable def zOk(n:Nat)(l:List Nat):Bool:=l.all (fun i=>Cn i n) && (zAn 0 n).all fun i=>gIn l i
noncomputable def qN(n:Nat):KasT (Array Nat)->List (Nat×Nat)->Bool
 | .ret a,E=>(zOk n a.toList && zJX E a.toList) || yCx E
 | .ask i j k,E=>(Cn i n && Cn j n && !BQ i j) && (qN n (k true) ((i,j)::E) && qN n (k false) ((j,i)::E))
theorem zMp(n i j:Nat)(k:Bool->KasT (Array Nat))(E:List (Nat×Nat)):qN n (.ask i j k) E=((Cn i n && Cn j n && !BQ i j) && (qN n (k true) ((i,j)::E) && qN n (k false) ((j,i)::E))):=rfl
theorem yDk:qN 2 (kas_sort 2) []=true:=by decide +kernel
theorem yCD:qN 3 (kas_sort 3) []=true:=by decide +kernel
theorem yDM:qN 4 (kas_sort 4) []=true:=by decide +kernel
theorem yCw:qN 5 (kas_sort 5) []=true:=by decide +kernel
theorem yDv:qN 6 (kas_sort 6) []=true:=by decide +kernel
noncomputable def zLy(κ:Nat->Nat):List Nat->Prop
 | []=>True
 | x::l=>(match l with | []=>True | y::_=>κ x < κ y)/\zLy κ l
noncomputable def okR(κ:Nat->Nat)(E:List (Nat×Nat)):Prop:=∀e∈E,κ e.1 < κ e.2
theorem zEL{κ:Nat->Nat}{E:List (Nat×Nat)}(h:okR κ E):∀(k x y:Nat),zJ4 E k x y=true->κ x<=κ y
 | 0,x,y,hr=>by rw [Bg hr]; exact CD _
 | k + 1,x,y,hr=>by
  rcases CI.mp hr with hr | hr
  ·rw [Bg hr]; exact CD _
  ·obtain ⟨e,he,hr⟩:=Ci.mp hr
   refine zF hr fun h1 h2=>?_;have:=h e he;rw [Bg h1] at this;exact Bn (DR this) (zEL h k e.2 y h2)
theorem zIz{κ:Nat->Nat}{E:List (Nat×Nat)}(h:okR κ E):∀l:List Nat,zJX E l=true->zLy κ l
 | [],_=>trivial
 | [x],_=>⟨trivial,trivial⟩
 | x::y::l,hc=>by
  refine zF hc fun h1 h2=>?_;refine ⟨?_,zIz h (y::l) h2⟩;obtain ⟨e,he,hr⟩:=Ci.mp h1;refine zF hr fun r1 r2=>?_;have:=h e he;rw [Bg r1,Bg r2] at this;exact this
theorem uP{n:Nat}{κ:Nat->Nat}(hi:∀i j,i < n->j < n->i≠j->κ i≠κ j){lt:Nat->Nat->Option Bool}(hl:∀i j,i < n->j < n->lt i j=some (Cn (κ i) (κ j))):∀(t:KasT (Array Nat)) (E:List (Nat×Nat)),okR κ E->qN n t E=true->∃a,zKG lt t=some a/\zOk n a.toList=true/\zLy κ a.toList
 | .ret a,E,hE,h=>by
  rcases CI.mp h with h | h
  ·refine zF h fun h1 h2=>?_
   exact ⟨a,rfl,h1,zIz hE _ h2⟩
  ·exfalso
   obtain ⟨e,he,h⟩:=Ci.mp h;have h1:=zEL hE _ _ _ h;have h2:=hE e he
   lia
 | .ask i j k,E,hE,h=>by
  rw [zMp] at h;refine zF h fun h h34=>?_;refine zF h34 fun h3 h4=>?_;refine zF h fun h hij=>?_;refine zF h fun h1 h2=>?_;have h1:=DM.mp h1;have h2:=DM.mp h2;have hn:i≠j:=fun e=>by rw [e,CQ] at hij; cases hij
  rw [zVB,hl i j h1 h2];cases hb:Cn (κ i) (κ j) with
  | true=>
   exact uP hi hl _ _ (fun e he=>by
    rcases Bl.mp he with rfl | he
    ·exact DM.mp hb
    ·exact hE e he) h3
  | false=>
   exact uP hi hl _ _ (fun e he=>by
    rcases Bl.mp he with rfl | he
    ·have:=hi i j h1 h2 hn
     rcases Dc (κ j) (κ i) with z | z
     ·exact z
     ·rw [DM.mpr (show κ i < κ j by lia)] at hb; cases hb
    ·exact hE e he) h4
noncomputable def SS:List (Nat×Nat)->Prop
 | []=>True
 | x::l=>(match l with | []=>True | y::_=>kyN x < kyN y)/\SS l
theorem zJi:∀{l:List (Nat×Nat)} {x:Nat×Nat},SS (x::l)->∀y∈l,kyN x < kyN y
 | [],_,_,y,hy=>absurd hy Ba
 | z::l,x,h,y,hy=>by
  obtain ⟨h1,h2⟩:=h;have h1:kyN x < kyN z:=h1;rcases Bl.mp hy with rfl | hy
  ·exact h1
  ·exact Nat.lt_trans h1 (zJi h2 y hy)
theorem zLQ:∀{l m:List (Nat×Nat)},SS l->SS m->(∀e,e∈l ↔ e∈m)->l=m
 | [],[],_,_,_=>rfl
 | [],y::m,_,_,h=>absurd ((h y).mpr (by simp)) Ba
 | x::l,[],_,_,h=>absurd ((h x).mp (by simp)) Ba
 | x::l,y::m,hl,hm,h=>by
  have al:=zJi hl;have am:=zJi hm;have exy:x=y:=by
   rcases Bl.mp ((h x).mp (by simp)) with e | hx
   ·exact e
   rcases Bl.mp ((h y).mpr (by simp)) with e | hy
   ·exact e.symm
   exact absurd (al y hy) (Nat.lt_asymm (am x hx))
  subst exy;have z:l=m:=zLQ hl.2 hm.2 fun e=>by
   constructor
   ·intro he
    rcases Bl.mp ((h e).mp (by simp [he])) with rfl | h2
    ·exact absurd (al _ he) (Dz _)
    ·exact h2
   ·intro he
    rcases Bl.mp ((h e).mpr (by simp [he])) with rfl | h2
    ·exact absurd (am _ he) (Dz _)
    ·exact h2
  rw [z]
theorem zVO{e d:Nat×Nat}(he:Ent e)(hd:Ent d)(h:kyN e=kyN d):e=d:=by
 obtain ⟨t,r⟩:=e;obtain ⟨t',r'⟩:=d;obtain ⟨h1,h2⟩:=he;obtain ⟨h3,h4⟩:=hd;dsimp only at h1 h2 h3 h4;unfold kyN at h;dsimp only at h;rcases zI h1 with rfl | rfl | rfl | rfl <;>rcases zI h3 with rfl | rfl | rfl | rfl <;>simp only [kyT] at h <;>first | exact congrArg (Prod.mk _) (show r=r' by lia) | (exfalso; lia)
theorem uD{l:List (Nat×Nat)}{i:Nat}(h:i < l.length):l.getD i (0,0)∈l:=by
 rw [C0,Bi h];exact Da h
theorem zHG:∀{l:List (Nat×Nat)},l.Nodup->∀{i j:Nat},i < l.length->j < l.length->l.getD i (0,0)=l.getD j (0,0)->i=j
 | [],_,i,_,h,_,_=>absurd h (Nat.not_lt_zero _)
 | a::l,hn,i,j,hi,hj,e=>by
  obtain ⟨h1,h2⟩:=CG.mp hn;cases i with
  | zero=>cases j with
   | zero=>rfl
   | succ j=>
    have hj':j < l.length:=CJ hj;have e:a=l.getD j (0,0):=e;exact absurd (e▸uD hj') h1
  | succ i=>cases j with
   | zero=>
    have hi':i < l.length:=CJ hi;have e:l.getD i (0,0)=a:=e;exact absurd (e▸uD hi') h1
   | succ j=>exact congrArg _ (zHG h2 (CJ hi) (CJ hj) e)
theorem zHM{f:Nat->Nat×Nat}:∀{l:List Nat},zLy (fun i=>kyN (f i)) l->SS (l.map f)
 | [],_=>trivial
 | [x],_=>⟨trivial,trivial⟩
 | x::y::l,h=>⟨h.1,zHM (l:=y::l) h.2⟩
theorem zDC:∀l:List (Nat×Nat),qI plO (plL (l.map zE))=some (l.map zE)
 | []=>rfl
 | e::l=>by
  show (plO (plV (zE e))).bind (fun d=>(qI plO (plL (l.map zE))).map (d::·))=_;rw [zDC l]; rfl
theorem zIS{l:List (Nat×Nat)}(hn:l.Nodup)(hE:∀e∈l,Ent e)(h6:l.length<=6):∃s,vH (l.map zE)=some (s.map zE)/\SS s/\∀e,e∈s ↔ e∈l:=by
 have hl:(plL (l.map zE)).length=l.length:=by rw [BW,BW]
 by_cases h2:l.length < 2
 ·refine ⟨l,?_,?_,fun e=>Iff.rfl⟩
  ·unfold vH zDH
   rw [if_pos (by rw [hl]; exact h2)];exact zDC l
  ·match l,h2 with
   | [],_=>trivial
   | [x],_=>exact ⟨trivial,trivial⟩
   | x::y::l,h=>exfalso; simp only [Bh] at h; lia
 have hget:∀i,i < l.length->(plL (l.map zE))[i]? =some (plV (zE (l.getD i (0,0)))):=fun i hi=>by
  rw [Bc,Bc,C0,Bi hi]; rfl
 have hi:∀i j,i < l.length->j < l.length->i≠j->kyN (l.getD i (0,0))≠kyN (l.getD j (0,0)):=fun i j hi hj hij e=>hij (zHG hn hi hj (zVO (hE _ (uD hi)) (hE _ (uD hj)) e));have hlt:∀i j,i < l.length->j < l.length->zFz (plL (l.map zE)) i j=some (Cn (kyN (l.getD i (0,0))) (kyN (l.getD j (0,0)))):=fun i j hi hj=>by
  unfold zFz;rw [hget i hi,hget j hj];exact zVY (hE _ (uD hi)) (hE _ (uD hj))
 have hs:qN l.length (kas_sort l.length) []=true:=by
  have hc:l.length=2\/l.length=3\/l.length=4\/l.length=5\/l.length=6:=by lia
  rcases hc with h | h | h | h | h <;>rw [h]
  ·exact yDk
  ·exact yCD
  ·exact yDM
  ·exact yCw
  ·exact yDv
 obtain ⟨a,ha,hp,hc⟩:=uP (κ:=fun i=>kyN (l.getD i (0,0))) hi hlt _ [] (fun e he=>absurd he Ba) hs;unfold zOk at hp;refine zF hp fun p1 p2=>?_;have p1:∀i∈a.toList,i < l.length:=fun i hi=>DM.mp (BV.mp p1 i hi);have p2:∀i,i < l.length->i∈a.toList:=fun i hi=>zT.mp (BV.mp p2 i (BZ (i:=i) ((uK l.length 0 i hi).trans (by rw [Cx]))));refine ⟨a.toList.map fun i=>l.getD i (0,0),?_,zHM hc,fun e=>?_⟩
 ·have hsame:(zEf (plL (l.map zE))).isSome=true:=by
   cases l with
   | nil=>exact absurd (Nat.zero_lt_succ _) h2
   | cons x m=>
    have e:zEf (plL ((x::m).map zE))=if (plL (m.map zE)).all (fun u=>zAb u==some "str") then some "str" else none:=rfl;rw [e,if_pos]
    ·rfl
    ·rw [BV]
     intro u hu;obtain ⟨p,hp,rfl⟩:=Bm.mp hu;obtain ⟨q,hq,rfl⟩:=Bm.mp hp;rfl
  unfold vH zDH;rw [if_neg (by rw [hl]; exact h2),if_pos (by rw [hl,hsame]; simp; lia),hl,ha];show qI plO (a.toList.map fun i=>(plL (l.map zE)).getD i .none)=_;have e:(a.toList.map fun i=>(plL (l.map zE)).getD i .none)=plL ((a.toList.map fun i=>l.getD i (0,0)).map zE):=by
   show _=((a.toList.map fun i=>l.getD i (0,0)).map zE).map plV;rw [EU,EU];apply List.map_congr_left;intro i hi;rw [C0,hget i (p1 i hi)]; rfl
  rw [e];exact zDC _
 ·rw [Bm]
  constructor
  ·rintro ⟨i,hi,rfl⟩
   exact uD (p1 i hi)
  ·intro he
   obtain ⟨i,hi,e⟩:=List.getElem_of_mem he;refine ⟨i,p2 i hi,?_⟩;rw [C0,Bi hi];exact e
theorem zC6{R:Rd}(hne:∀k,k < 5->R.a k≠R.z k)(ls:List Nat):∀{l:List Nat},l.Nodup->(∀k∈l,k < 5)->(l.flatMap (xW R ls)).Nodup
 | [],_,_=>CH
 | k::l,hn,h=>by
  obtain ⟨h1,h2⟩:=CG.mp hn;rw [C5];refine D0.mpr ⟨?_,zC6 hne ls h2 fun x hx=>h x (by simp [hx]),?_⟩
  ·unfold xW
   split
   ·have:=hne k (h k (by simp))
    simp [this]
   ·exact CH
  ·rintro e he e' he' rfl
   have a:e.2=k:=by
    unfold xW at he;split at he
    ·simp only [Bl,Ba,_root_.or_false] at he
     rcases he with rfl | rfl <;>rfl
    ·exact absurd he Ba
   obtain ⟨x,hx,he'⟩:=Cr.mp he';have a':e.2=x:=by
    unfold xW at he';split at he'
    ·simp only [Bl,Ba,_root_.or_false] at he'
     rcases he' with rfl | rfl <;>rfl
    ·exact absurd he' Ba
   exact h1 (by rw [<-a,a']; exact hx)
theorem zHR(R:Rd):∀F:List Nat,(F.flatMap fun k=>[(R.a k,k),(R.z k,k)]).length=2 * F.length
 | []=>rfl
 | k::F=>by rw [C5,BY,zHR R F,Bh]; simp; lia
section
variable{R:Rd}{ls:List Nat}{H:List (Nat×Nat)}{r:Nat}
theorem zCK(hR:RdOK R)(hne:∀k,k < 5->R.a k≠R.z k)(I:LyInv R ls H){L:List (Nat×Nat)}(hn:L.Nodup)(hm:∀e,e∈L->∃k∈qP R ls,e=(R.a k,k)\/e=(R.z k,k)):L.length<=6:=by
 have f:=zMc hR hne I (r:=5) (by decide) fun h=>by have:=I.lt 5 h; lia
 have z:=wD hn (m:=(qP R ls).flatMap fun k=>[(R.a k,k),(R.z k,k)]) fun e he=>by
  obtain ⟨k,hk,h⟩:=hm e he;exact Cr.mpr ⟨k,hk,by simpa using h⟩
 rw [zHR] at z;have:=zZF f
 lia
theorem zCI(hR:RdOK R)(I:LyInv R ls H){L:List (Nat×Nat)}(hm:∀e,e∈L->∃k∈qP R ls,e=(R.a k,k)\/e=(R.z k,k)):∀e∈L,Ent e:=fun e he=>by
 obtain ⟨k,hk,h⟩:=hm e he;have:=I.lt k (zA3 hk);rcases h with rfl | rfl
 ·exact ⟨hR.a k,this⟩
 ·exact ⟨hR.z k,this⟩
theorem zVG{e:Nat×Nat}(h:Ent e):zKd (zE e)=true:=by
 show (zGV (.s (zA (twN e.1))) && (zGV (.s (zA [97 + e.2])) && true))=true;rw [zEa,zOM (fun c hc=>by rw [BP.mp hc]; have:=h.2; lia)]; rfl
theorem zSD(hR:RdOK R)(hne:∀k,k < 5->R.a k≠R.z k)(ls:List Nat)(H:List (Nat×Nat))(r:Nat)(I:LyInv R ls H)(h5:r < 5)(hr:r ∉ ls):∃H' rg due,LayOK R ls r H H' rg due/\LyInv R (ls ++ [r]) H':=by
 have f:=zMc hR hne I (r:=r) (by lia) hr;obtain ⟨rg,hg,G⟩:=zT6 f h5;have I':=zQ0 hR I f h5 hr G;have hm:=fun e=>(I.hm e).mp;have hm':=fun e=>(I'.hm e).mp;have hd:∀e,e∈zDT R (ls ++ [r]) ↔ ∃k∈qP R (ls ++ [r]),e=(R.a k,k)\/e=(R.z k,k):=fun e=>by
  rw [zSs];constructor
  ·rintro ⟨k,h1,h2,h3⟩
   exact ⟨k,Bj.mpr ⟨h1,h2⟩,h3⟩
  ·rintro ⟨k,h1,h3⟩
   exact ⟨k,(Bj.mp h1).1,(Bj.mp h1).2,h3⟩
 have nd:(zDT R (ls ++ [r])).Nodup:=zC6 hne (ls ++ [r]) I'.nd I'.lt;obtain ⟨s,s1,s2,s3⟩:=zIS I'.hn (zCI hR I' hm') (zCK hR hne I' I'.hn hm');obtain ⟨s',t1,t2,t3⟩:=zIS nd (zCI hR I' fun e=>(hd e).mp) (zCK hR hne I' nd fun e=>(hd e).mp);have es:s=s':=zLQ s2 t2 fun e=>by rw [s3,t3,I'.hm,hd]
 refine ⟨zIe R r rg H,rg,s.map zE,⟨zCI hR I hm,?_,?_,hg,fun x hx=>?_,?_,rfl,s1,?_,fun p hp=>?_⟩,I'⟩
 ·have:=zCK hR hne I I.hn hm; lia
 ·have:=zCK hR hne I' I'.hn hm'; lia
 ·rcases BR.mp (G.sub x hx) with h | h
  ·exact I.lt x (zA3 h)
  ·rw [BP.mp h]; exact h5
 ·have:=G.len; lia
 ·rw [t1,es]
 ·obtain ⟨e,he,rfl⟩:=Bm.mp hp
  exact zVG (zCI hR I' hm' e ((s3 e).mp he))
end
theorem zSZ{b:Bool}{P:Params}{la:Addr}{l:List Int}{args:List V}{σ:Sto}{z:V×Sto}(h:qH b P la l 302 args σ=some z):args=[.val (.ref la)]:=by
 cases args with
 | nil=>exact noS h
 | cons v t=>cases v with
  | val x=>cases x with
   | ref a'=>cases t with
    | nil=>
     have h:(if a'=la then evC (cf b P) 20 (.val (.ref 302)) [.lst (l.map .int)] [] σ else none)=some z:=h
     by_cases e:a'=la
     ·rw [e]
     ·rw [if_neg e] at h; exact noS h
    | cons=>exact noS h
   | _=>exact noS h
  | _=>exact noS h
theorem zYc{prog:Program}{w:World}{b:Bool}{la:Addr}{l:List Int}{vs:Array Value}(hv:∀ρ h,VRs ρ h (l.map V.int) vs.toList)(hn:Co la (KL b w.params)=none):∀a,yX a yB6=true->zCb prog w (KX b w.params (zIH la vs)) 85 a (qH b w.params la l a):=fun a _=>by
 have CO:CfOK prog w (KX b w.params (zIH la vs)) (cf b w.params):=zNt (iF:=fun _=>false) (F:=fun _ _ _=>none) (n:=0) fun a h=>by cases h
 by_cases ha:a=302
 ·subst ha
  intro args σ A ρ s xs hA hs I rs v AA h;cases zSZ h;rw [zHy] at h;obtain ⟨y,rfl,ry⟩:=xI rs;cases vrV ry;have hK:s.heap.get? la=some ⟨.type "list",none,.seq vs 0,#[]⟩/\la ∉ ρ:=by
   have e:Co la (KX b w.params (zIH la vs))=some ⟨.type "list",none,.seq vs 0,#[]⟩:=by
    unfold KX zIH;rw [List.lookup_append,hn,CX,beq_self_eq_true];rfl
   refine ⟨I.stat _ _ e,fun m=>?_⟩;rw [I.sep _ m] at e;cases e
  refine kJ CO (N:=20) (by decide) _ _ A ρ s [.ref la] hA hs I (VRs.one (v:= .lst (l.map .int)) ⟨la,vs,0,rfl,hK.2,hK.1,hv _ _⟩) _ _ h
 ·intro args σ A ρ s xs hA hs I rs v AA h
  by_cases h7:a=357
  ·subst h7
   rw [zH7] at h;exact kJ zYE (N:=40) (by decide) _ _ A ρ s xs hA hs I rs _ _ h
  ·by_cases h3:a=323
   ·subst h3
    rw [zI6] at h;exact kJ zOJ (N:=30) (by decide) _ _ A ρ s xs hA hs I rs _ _ h
   ·rw [zBf ha h7 h3] at h
    exact kJ CO (N:=20) (by decide) _ _ A ρ s xs hA hs I rs _ _ h
theorem zUl{cs:List Int}(h:cs.length=5):∃c:Nat->Int,cs.map V.int=[.int (c 0),.int (c 1),.int (c 2),.int (c 3),.int (c 4)]:=by
 cases cs with
 | nil=>exact nomatch h
 | cons a cs=>
  have h:=Nat.succ.inj h;cases cs with
  | nil=>exact nomatch h
  | cons b cs=>
   have h:=Nat.succ.inj h;cases cs with
   | nil=>exact nomatch h
   | cons c cs=>
    have h:=Nat.succ.inj h;cases cs with
    | nil=>exact nomatch h
    | cons d cs=>
     have h:=Nat.succ.inj h;cases cs with
     | nil=>exact nomatch h
     | cons e cs=>
      have h:=Nat.succ.inj h;cases cs with
      | nil=>exact ⟨fun k=>[a,b,c,d,e].getD k 0,rfl⟩
      | cons=>exact nomatch h
theorem sh_holds:DK.Holds:=zHW fun w l la vs hl hv hn=>by
 obtain ⟨cs,hc1,hc2⟩:=zOO (bO w) w.params false l hl;obtain ⟨c,hc⟩:=zUl hc1;rw [hc] at hc2;have hs:=zSD (zUN (c:=c)) fun k _=>zG3 (c k);have d:∀{o},(o=od1\/o=od2)->gD (bO w) w.params l (DD la c) o:=fun ho=>g_D (Inv:=LyInv (RC c)) (yBh _) hs ho;exact ⟨_,_,85,60,true,ct true,zYc hv hn,⟨rfl,by decide +kernel,by decide +kernel⟩,wW (zSw (D:=DD la c) (g_A hc2) g_B g_C (d (.inl rfl)) (d (.inr rfl))),rfl⟩
end Mine
end
theorem PySem.Challenge.cw_sh0076_03_holds : PySem.Challenge.rw_sh0076_03.Holds :=
  Mine.sh_holds
